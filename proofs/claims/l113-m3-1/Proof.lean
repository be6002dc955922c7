import JvmDerived
import JvmDerived.Pilot.@@N@@Statement
import JvmDerived.Pilot.@@N@@Code
set_option linter.unusedVariables false
set_option linter.unusedSimpArgs false
namespace Jvm.RoadKit
open Sem ClassFile Op Lib Jvm.Stand Jvm.Free Jvm.LawKit
section New
variable {p : Program} {l : Launch} {e : Env} {R : Room} {s : State} {m : MethodId} {args : Array Value} {below : List Frame} {meth : Method} {c : Code} {T : State} {locs : List Loc} {cells slots : Nat}
theorem retI (X : Stand p l e R s m args below meth c T locs cells slots) (hx : p.tables.exec = Jvm.exec) {pc : Nat} {Ls : Array Slot} {z : Int32} {rest : List Value} (hret : meth.sig.returnType = some .int) (hd : decode c.code pc = .ok (.ireturn, 1)) {fs : List Frame}
    (hl : ∀ (f : JFrame) (acts : List Action), f.method = m → f.locked = none → f.entered = [] → (doReturn e (T.setTop f) acts (some (.int z))).1 = T.setFrames fs) : Steps p.tables e below (T.setTop (mkF m pc Ls (.int z :: rest))) (T.setFrames fs) := by
  have hm' : T.vm.method? m = some meth := X.method'
  have hn : narrow .int (.int z) = .int z := rfl
  show Steps p.tables e below (T.setTop { method := m, pc := pc, locals := Ls, stack := _ :: rest, locked := none }) _
  jvm_step X.here [X.here.top, hx, hd, hm', hret, hn]
  first | (intro acts; rw [hl _ acts rfl rfl rfl]) | rw [hl _ _ rfl rfl rfl]
  exact Steps.refl _
end New
end Jvm.RoadKit
namespace Jvm.Pilot.@@N@@
open Jvm Jvm.ClassFile Sem Op Lib Jvm.Free Jvm.Stand Jvm.LawKit Jvm.RoadKit Bundle Jvm.Pilot.@@N@@.Jvm.D

theorem own_eqI {a : Term} {n : Int32} {args : Array Value} {first s : State} {o : Option Outcome} {idx : List Nat} (h : (Jvm.Cond.eq a (Jvm.Term.int n)).value args first o s idx = some true) : a.eval args first o idx s = some (.int n) := by
  obtain ⟨x, y, hx, hy, k1, -⟩ := cmp_v (Or.inl h)
  have hb : (Jvm.Term.int n).eval args first o idx s = some (.int n) := Term.int_eval n
  rw [hb] at hy
  cases hy
  cases x with
  | int z => rw [hx]; have := gotT (P := z = n) (by simp [Cond.value, hx, hb]) h; rw [this]
  | _ => simp [Kin, Value.isRef] at k1
theorem own_eqL {a : Term} {n : Int64} {args : Array Value} {first s : State} {o : Option Outcome} {idx : List Nat} (h : (Jvm.Cond.eq a (Jvm.Term.long n)).value args first o s idx = some true) : a.eval args first o idx s = some (.long n) := by
  obtain ⟨x, y, hx, hy, k1, -⟩ := cmp_v (Or.inl h)
  have hb : (Jvm.Term.long n).eval args first o idx s = some (.long n) := rfl
  rw [hb] at hy
  cases hy
  cases x with
  | long z => rw [hx]; have := gotT (P := z = n) (by simp [Cond.value, hx, hb]) h; rw [this]
  | _ => simp [Kin, Value.isRef] at k1
theorem own_mask (x : Int32) : 0 ≤ (x &&& (2147483647 : Int32)).toInt ∧ (x &&& (2147483647 : Int32)).toInt ≤ 2147483647 := by
  have q := c_and x (2147483647 : Int32) (by decide)
  have e : (2147483647 : Int32).toInt = 2147483647 := by decide
  omega
theorem own_eqR {a b : Term} {v : Addr} {args : Array Value} {first s : State} {o : Option Outcome} {idx : List Nat} (hb : b.eval args first o idx s = some (.ref v)) (h : (Jvm.Cond.eq a b).value args first o s idx = some true) : a.eval args first o idx s = some (.ref v) := by
  obtain ⟨x, y, hx, hy, k1, k2⟩ := cmp_v (Or.inl h)
  rw [hb] at hy
  cases hy
  have hr : x.isRef = true := k2.2
  have e := gotT (eq_R hx hb hr rfl) h
  rw [hx, e]
theorem own_len {t : Term} {a : Addr} {cl : Cell} {v : Value} {args : Array Value} {first s : State} {o : Option Outcome} {idx : List Nat} (ht : t.eval args first o idx s = some (.ref a)) (ha : s.arrayAt? a = some cl) (h : (Jvm.Term.length t).eval args first o idx s = some v) : cl.slots.size < 2 ^ 31 := by
  apply Classical.byContradiction
  intro q
  simp [Term.eval, ht, ha, q] at h
theorem own_arr {s : State} {args : Array Value} {t t0 t1 t2 : Term} {ty : FieldType} {a b0 b1 b2 : Addr} (hf : Fit s) (ev : t.eval args s none [] s = some (.ref a)) (e0 : t0.eval args s none [] s = some (.ref b0)) (e1 : t1.eval args s none [] s = some (.ref b1)) (e2 : t2.eval args s none [] s = some (.ref b2))
    (h1 : (Jvm.Cond.arrayOf t ty).value args s none s [] = some true) (h2 : (Jvm.Cond.eq (Jvm.Term.length t) (Jvm.Term.int (3 : Int32))).value args s none s [] = some true)
    (g0 : (Jvm.Cond.eq (Jvm.Term.elem t (Jvm.Term.int (0 : Int32))) t0).value args s none s [] = some true) (g1 : (Jvm.Cond.eq (Jvm.Term.elem t (Jvm.Term.int (1 : Int32))) t1).value args s none s [] = some true) (g2 : (Jvm.Cond.eq (Jvm.Term.elem t (Jvm.Term.int (2 : Int32))) t2).value args s none s [] = some true) :
    ∃ k, Arv s s.heap a k ty (3 : Int32) [(.ref b0), (.ref b1), (.ref b2)] .null := by
  obtain ⟨cl, A⟩ := Arr.start ev h1
  have ha : s.arrayAt? a = some cl := Arr.fin (Vm.Alike.refl _) A
  have hl := own_eqI h2
  have hz := own_len ev ha hl
  have hs := (len_f ev ha hz).symm.trans hl
  have hs' : cl.slots.size.toInt32 = (3 : Int32) := Value.int.inj (Option.some.inj hs)
  have q0 := (elem_f ev (Term.int_eval (0 : Int32)) ha (by decide)).symm.trans (own_eqR e0 g0)
  have q1 := (elem_f ev (Term.int_eval (1 : Int32)) ha (by decide)).symm.trans (own_eqR e1 g1)
  have q2 := (elem_f ev (Term.int_eval (2 : Int32)) ha (by decide)).symm.trans (own_eqR e2 g2)
  exact ⟨cl.cls, Arv.start hf A hz hs' (by decide) rfl ⟨q0, q1, q2, trivial⟩⟩
theorem d1_0 : decode method_2_code 0 = .ok (.iload_n 0, 1) := by decide +kernel
theorem d1_1 : decode method_2_code 1 = .ok (.ldc 7, 2) := by decide +kernel
theorem d1_3 : decode method_2_code 3 = .ok (.iand, 1) := by decide +kernel
theorem d1_4 : decode method_2_code 4 = .ok (.iconst 3, 1) := by decide +kernel
theorem d1_5 : decode method_2_code 5 = .ok (.irem, 1) := by decide +kernel
theorem d1_6 : decode method_2_code 6 = .ok (.ireturn, 1) := by decide +kernel
theorem pn1 : plainName "com/example/evident_ledger/evidentledger/TallyCountPinLaw" = true := by first | (simp [plainName, overriddenIn]; done) | decide +kernel
theorem ef1 (m : MethodId) (x0 : Int32) : entryFrame m #[(.int x0)] 1 = mkF m 0 #[.val (.int x0)] [] := by first | (simp [entryFrame, mkF, argsToLocals, Value.category]; done) | rfl
def own_F1 (x0 : Int32) : Int32 := ((x0 &&& (2147483647 : Int32)) % (3 : Int32))
def Q1 (Z : State) (x0 : Int32) (h0 : Heap) (n0 : Nat) (v : Option Value) (h : Heap) (L : List Loc) : Prop := v = some (.int (own_F1 x0)) ∧ Fr n0 L ∧ h = h0
set_option maxRecDepth 65536 in
set_option maxHeartbeats 40000000 in
theorem rm1 (l : Launch) (Z : State) (a0 : Array Value) (hw : ∀ d ∈ tables_1, d.before a0 Z = true) (ws : List Jvm.Cond) (x0 : Int32) (h0 : Heap) (n0 : Nat) (Z0 : n0 ≤ h0.size) :
    MetFree l (⟨"com/example/evident_ledger/evidentledger/TallyCountPinLaw", "kind", "(I)I"⟩ : MethodName) (head1 (Jvm.Cond.code (⟨"com/example/evident_ledger/evidentledger/TallyCountPinLaw", "kind", "(I)I"⟩ : MethodName) method_2_code 1 (some .int) :: ws) ({ frames := 0, cells := 0, slots := 0, locals := 0 } : Room)) (fun a U => a = #[(.int x0)] ∧ Z.Warmed39 U.vm ∧ U.heap = h0) (fun _ _ _ _ _ => True) (fun _ U o U' => ∃ v L, o = .returned v ∧ Q1 Z x0 h0 n0 v U'.heap L ∧ FrameEnd U o U' L ({ frames := 0, cells := 0, slots := 0, locals := 0 } : Room).cells ({ frames := 0, cells := 0, slots := 0, locals := 0 } : Room).slots) := by
  refine MetFree.of_bodySF (plainFor_of_name pn1) hisR ?_
  intro p e s m args below meth c s₁ Bd hml0 hP hK
  obtain ⟨rfl, hZ, hh⟩ := hP
  have hx := Bd.exec
  have hby := Bd.bytes
  have hml : c.maxLocals = 1 := hml0
  have hown : s.vm.findClass "com/example/evident_ledger/evidentledger/TallyCountPinLaw" = some m.cls := findClass_of_methodNamed Bd.named
  have hnm := (name_of_methodNamed Bd.named Bd.method).1
  have X0 : Stand p l e ({ frames := 0, cells := 0, slots := 0, locals := 0 } : Room) s m #[(.int x0)] below meth c s₁ [] 0 0 := Stand.of_body Bd
  have e0 : s₁.heap = h0 := by rw [← hh, Bd.state]; rfl
  have N0 := Fr.nil n0
  have pre0 : Steps p.tables e below (s₁.setTop (entryFrame m #[(.int x0)] 1)) (s₁.setTop (mkF m 0 #[.val (.int x0)] [])) := castTop (ef1 m x0) (Steps.refl _)
  obtain ⟨v1, hv1⟩ : ∃ z : Int32, z = ((x0 &&& (2147483647 : Int32)) % (3 : Int32)) := ⟨_, rfl⟩
  have st2 : Steps p.tables e below (s₁.setTop (mkF m 0 #[.val (.int x0)] [])) (s₁.setTop (mkF m 6 #[.val (.int x0)] [(.int v1)])) := by
    subst v1
    refine XS.iloadN X0.here hx rfl (hb hby d1_0) rfl ?_
    show Steps p.tables e below (s₁.setTop (mkF m 1 #[.val (.int x0)] [(.int x0)])) _
    refine X0.ldcInt hx hown (mvT hZ (hw _ (List.mem_of_getElem? (i := 0) rfl))) (g := (mkF m 1 #[.val (.int x0)] [(.int x0)])) rfl (hb hby d1_1) _ ?_
    show Steps p.tables e below (s₁.setTop (mkF m 3 #[.val (.int x0)] [(.int (2147483647 : Int32)), (.int x0)])) _
    refine XS.iand X0.here hx rfl (hb hby d1_3) rfl ?_
    show Steps p.tables e below (s₁.setTop (mkF m 4 #[.val (.int x0)] [(.int (x0 &&& (2147483647 : Int32)))])) _
    refine XS.iconst X0.here hx rfl (hb hby d1_4) ?_
    show Steps p.tables e below (s₁.setTop (mkF m 5 #[.val (.int x0)] [(.int (3 : Int32)), (.int (x0 &&& (2147483647 : Int32)))])) _
    refine iremM X0 hx rfl (hb hby d1_5) rfl (by decide) ?_
    show Steps p.tables e below (s₁.setTop (mkF m 6 #[.val (.int x0)] [(.int ((x0 &&& (2147483647 : Int32)) % (3 : Int32)))])) _
    exact Steps.refl _
  have pre2 := pre0.trans st2
  obtain ⟨fs, hr, hrun, hended, hW, hsame⟩ := X0.leave (v := some (.int v1)) (fun h => by rw [Bd.returns] at h; cases h)
  refine ⟨_, _, pre2.trans ?_, hrun, hended, _, _, rfl, ?_, ⟨_, rfl⟩, hW, hsame.mono (by decide) (by decide)⟩
  · show Steps p.tables e below (s₁.setTop (mkF m 6 #[.val (.int x0)] [(.int v1)])) _
    exact retI X0 hx Bd.returns (hb hby d1_6) hr
  · show Q1 Z x0 h0 n0 _ s₁.heap _
    rw [e0]
    have hF : own_F1 x0 = v1 := by
      subst v1
      simp only [own_F1]
    exact ⟨by rw [hF], N0, rfl⟩
theorem d2_0 : decode jdk_37_method_2_code 0 = .ok (.aload_n 0, 1) := by decide +kernel
theorem d2_1 : decode jdk_37_method_2_code 1 = .ok (.getfield 7, 3) := by decide +kernel
theorem d2_4 : decode jdk_37_method_2_code 4 = .ok (.ireturn, 1) := by decide +kernel
theorem pn2 : plainName "java/lang/Enum" = true := by first | (simp [plainName, overriddenIn]; done) | decide +kernel
theorem ef2 (m : MethodId) (x0 : Addr) : entryFrame m #[(.ref x0)] 1 = mkF m 0 #[.val (.ref x0)] [] := by first | (simp [entryFrame, mkF, argsToLocals, Value.category]; done) | rfl
def Q2 (Z : State) (x0 : Addr) (w0 : Int32) (h0 : Heap) (n0 : Nat) (v : Option Value) (h : Heap) (L : List Loc) : Prop := v = some (.int w0) ∧ Fr n0 L ∧ h = h0
set_option maxRecDepth 65536 in
set_option maxHeartbeats 40000000 in
theorem rm2 (l : Launch) (Z : State) (a0 : Array Value) (hw : ∀ d ∈ tables_1, d.before a0 Z = true) (ws : List Jvm.Cond) (x0 : Addr) (w0 : Int32) (h0 : Heap) (n0 : Nat) (Z0 : n0 ≤ h0.size) (B0 : Fld Z h0 x0 "java/lang/Enum" "ordinal" "I" (.int w0)) :
    MetFree l (⟨"java/lang/Enum", "ordinal", "()I"⟩ : MethodName) (head1 (Jvm.Cond.code (⟨"java/lang/Enum", "ordinal", "()I"⟩ : MethodName) jdk_37_method_2_code 1 (some .int) :: ws) ({ frames := 0, cells := 0, slots := 0, locals := 0 } : Room)) (fun a U => a = #[(.ref x0)] ∧ Z.Warmed39 U.vm ∧ U.heap = h0) (fun _ _ _ _ _ => True) (fun _ U o U' => ∃ v L, o = .returned v ∧ Q2 Z x0 w0 h0 n0 v U'.heap L ∧ FrameEnd U o U' L ({ frames := 0, cells := 0, slots := 0, locals := 0 } : Room).cells ({ frames := 0, cells := 0, slots := 0, locals := 0 } : Room).slots) := by
  refine MetFree.of_bodySF (plainFor_of_name pn2) hisR ?_
  intro p e s m args below meth c s₁ Bd hml0 hP hK
  obtain ⟨rfl, hZ, hh⟩ := hP
  have hx := Bd.exec
  have hby := Bd.bytes
  have hml : c.maxLocals = 1 := hml0
  have hown : s.vm.findClass "java/lang/Enum" = some m.cls := findClass_of_methodNamed Bd.named
  have hnm := (name_of_methodNamed Bd.named Bd.method).1
  have X0 : Stand p l e ({ frames := 0, cells := 0, slots := 0, locals := 0 } : Room) s m #[(.ref x0)] below meth c s₁ [] 0 0 := Stand.of_body Bd
  have e0 : s₁.heap = h0 := by rw [← hh, Bd.state]; rfl
  have N0 := Fr.nil n0
  have pre0 : Steps p.tables e below (s₁.setTop (entryFrame m #[(.ref x0)] 1)) (s₁.setTop (mkF m 0 #[.val (.ref x0)] [])) := castTop (ef2 m x0) (Steps.refl _)
  have st1 : Steps p.tables e below (s₁.setTop (mkF m 0 #[.val (.ref x0)] [])) (s₁.setTop (mkF m 1 #[.val (.ref x0)] [(.ref x0)])) := by
    refine XS.aloadN X0.here hx rfl (hb hby d2_0) rfl rfl ?_
    show Steps p.tables e below (s₁.setTop (mkF m 1 #[.val (.ref x0)] [(.ref x0)])) _
    exact Steps.refl _
  have pre1 := pre0.trans st1
  obtain ⟨T2, X2, e2, st2⟩ := getF X0 hx hZ hown (host := "") (Or.inl (hw _ (List.mem_of_getElem? (i := 52) rfl))) Via.refl e0 B0 (g := (mkF m 1 #[.val (.ref x0)] [(.ref x0)])) rfl rfl (hb hby d2_1)
  have pre2 : Steps p.tables e below (s₁.setTop (entryFrame m #[(.ref x0)] 1)) (T2.setTop (mkF m 4 #[.val (.ref x0)] [(.int w0)])) := pre1.trans (st2 _ (Steps.refl _))
  obtain ⟨fs, hr, hrun, hended, hW, hsame⟩ := X2.leave (v := some (.int w0)) (fun h => by rw [Bd.returns] at h; cases h)
  refine ⟨_, _, pre2.trans ?_, hrun, hended, _, _, rfl, ?_, ⟨_, rfl⟩, hW, hsame.mono (by decide) (by decide)⟩
  · show Steps p.tables e below (T2.setTop (mkF m 4 #[.val (.ref x0)] [(.int w0)])) _
    exact retI X2 hx Bd.returns (hb hby d2_4) hr
  · show Q2 Z x0 w0 h0 n0 _ T2.heap _
    rw [e2]
    exact ⟨by rfl, N0, rfl⟩
theorem d3_0 : decode prog_26_method_1_code 0 = .ok (.getstatic 13, 3) := by decide +kernel
theorem d3_3 : decode prog_26_method_1_code 3 = .ok (.invokevirtual 17, 3) := by decide +kernel
theorem d3_6 : decode prog_26_method_1_code 6 = .ok (.checkcast 18, 3) := by decide +kernel
theorem d3_9 : decode prog_26_method_1_code 9 = .ok (.areturn, 1) := by decide +kernel
theorem pn3 : plainName "com/example/evident_ledger/evidentledger/ExecutorVerdict" = true := by first | (simp [plainName, overriddenIn]; done) | decide +kernel
theorem ef3 (m : MethodId)  : entryFrame m #[] 0 = mkF m 0 #[] [] := by first | (simp [entryFrame, mkF, argsToLocals, Value.category]; done) | rfl
def Q3 (Z : State) (aV : Addr) (kV : ClassId) (aA : Addr) (aU : Addr) (aB : Addr) (h0 : Heap) (n0 : Nat) (v : Option Value) (h : Heap) (L : List Loc) : Prop := ∃ res : Addr, v = some (.ref res) ∧ Fr n0 L ∧ Keep h0 h [] ∧ h0.size ≤ res ∧ Arv Z h res kV (.object "com/example/evident_ledger/evidentledger/ExecutorVerdict") (3 : Int32) [(.ref aA), (.ref aU), (.ref aB)] .null
set_option maxRecDepth 65536 in
set_option maxHeartbeats 40000000 in
theorem rm3 (l : Launch) (Z : State) (a0 : Array Value) (hw : ∀ d ∈ tables_1, d.before a0 Z = true) (ws : List Jvm.Cond) (aV : Addr) (kV : ClassId) (aA : Addr) (aU : Addr) (aB : Addr) (h0 : Heap) (n0 : Nat) (Z0 : n0 ≤ h0.size) (O0 : Old Z n0 h0) (B0 : Exa Z h0 aV "[Lcom/example/evident_ledger/evidentledger/ExecutorVerdict;") (B1 : Arv Z h0 aV kV (.object "com/example/evident_ledger/evidentledger/ExecutorVerdict") (3 : Int32) [(.ref aA), (.ref aU), (.ref aB)] .null) (S_V : Sta Z Z.heap "com/example/evident_ledger/evidentledger/ExecutorVerdict" "$VALUES" "[Lcom/example/evident_ledger/evidentledger/ExecutorVerdict;" (.ref aV)) :
    MetFree l (⟨"com/example/evident_ledger/evidentledger/ExecutorVerdict", "values", "()[Lcom/example/evident_ledger/evidentledger/ExecutorVerdict;"⟩ : MethodName) (head1 (Jvm.Cond.code (⟨"com/example/evident_ledger/evidentledger/ExecutorVerdict", "values", "()[Lcom/example/evident_ledger/evidentledger/ExecutorVerdict;"⟩ : MethodName) prog_26_method_1_code 0 (some (.array (.object "com/example/evident_ledger/evidentledger/ExecutorVerdict"))) :: ws) ({ frames := 1, cells := 1, slots := 3, locals := 14 } : Room)) (fun a U => a = #[] ∧ Z.Warmed39 U.vm ∧ U.heap = h0) (fun _ _ _ _ _ => True) (fun _ U o U' => ∃ v L, o = .returned v ∧ Q3 Z aV kV aA aU aB h0 n0 v U'.heap L ∧ FrameEnd U o U' L ({ frames := 1, cells := 1, slots := 3, locals := 14 } : Room).cells ({ frames := 1, cells := 1, slots := 3, locals := 14 } : Room).slots) := by
  refine MetFree.of_bodySF (plainFor_of_name pn3) hisR ?_
  intro p e s m args below meth c s₁ Bd hml0 hP hK
  obtain ⟨rfl, hZ, hh⟩ := hP
  have hx := Bd.exec
  have hby := Bd.bytes
  have hml : c.maxLocals = 0 := hml0
  have hown : s.vm.findClass "com/example/evident_ledger/evidentledger/ExecutorVerdict" = some m.cls := findClass_of_methodNamed Bd.named
  have hnm := (name_of_methodNamed Bd.named Bd.method).1
  have X0 : Stand p l e ({ frames := 1, cells := 1, slots := 3, locals := 14 } : Room) s m #[] below meth c s₁ [] 0 0 := Stand.of_body Bd
  have e0 : s₁.heap = h0 := by rw [← hh, Bd.state]; rfl
  have N0 := Fr.nil n0
  have pre0 : Steps p.tables e below (s₁.setTop (entryFrame m #[] 0)) (s₁.setTop (mkF m 0 #[] [])) := castTop (ef3 m ) (Steps.refl _)
  have K0 := Keep.refl h0 []
  obtain ⟨T1, X1, e1, st1⟩ := getS2 X0 hx hZ hown (host := "") (Or.inl (hw _ (List.mem_of_getElem? (i := 18) rfl))) Via.refl e0 (S_V.ext O0.2) (g := (mkF m 0 #[] [])) rfl (hb hby d3_0)
  have pre1 : Steps p.tables e below (s₁.setTop (entryFrame m #[] 0)) (T1.setTop (mkF m 3 #[] [(.ref aV)])) := pre0.trans (st1 _ (Steps.refl _))
  obtain ⟨T2, h2, X2, e2, E2, A2, B2x, st2⟩ := cloneH X1 hx hZ hown (hw _ (List.mem_of_getElem? (i := 20) rfl)) (hw _ (List.mem_of_getElem? (i := 21) rfl)) (hw _ (List.mem_of_getElem? (i := 25) rfl)) (hw _ (List.mem_of_getElem? (i := 23) rfl)) (hw _ (List.mem_of_getElem? (i := 24) rfl)) (hw _ (List.mem_of_getElem? (i := 26) rfl)) e1 (Arv.arh B1) B0 (g := (mkF m 3 #[] [(.ref aV)])) rfl (by rw [hml]; rfl) rfl (hb hby d3_3) (by decide) (W := 0) (cap := 3) (by show 2 * 0 + _ ≤ _; exact Nat.le_of_eq rfl) (by decide) (by decide) (by decide) (by decide)
  obtain ⟨b2, g2⟩ : ∃ z, z = h0.size := ⟨_, rfl⟩
  rw [← g2] at A2 B2x st2
  have pre2 : Steps p.tables e below (s₁.setTop (entryFrame m #[] 0)) (T2.setTop (mkF m 6 #[] [(.ref b2)])) := pre1.trans (st2 _ (Steps.refl _))
  have gn2 : n0 ≤ b2 := Nat.le_trans Z0 (Nat.le_of_eq g2.symm)
  have sz2 : h0.size ≤ b2 := Nat.le_trans K0.1 (Nat.le_of_eq g2.symm)
  have neaV_b2 : aV ≠ b2 := Nat.ne_of_lt (Nat.lt_of_lt_of_le B0.lt (Nat.le_of_eq g2.symm))
  have F3 : Exa Z h2 aV "[Lcom/example/evident_ledger/evidentledger/ExecutorVerdict;" := B0.ext E2
  have F4 : Arv Z h2 aV kV (.object "com/example/evident_ledger/evidentledger/ExecutorVerdict") (3 : Int32) [(.ref aA), (.ref aU), (.ref aB)] .null := B1.ext E2
  have K2 := K0.ext E2
  have Z2 : n0 ≤ h2.size := Nat.le_trans Z0 E2.1
  have O2 := O0.ext E2
  obtain ⟨T5, X5, e5, st5⟩ := castY X2 hx hZ hown (hw _ (List.mem_of_getElem? (i := 31) rfl)) e2 (Ins.self B2x) (g := (mkF m 6 #[] [(.ref b2)])) rfl rfl (hb hby d3_6)
  have pre5 : Steps p.tables e below (s₁.setTop (entryFrame m #[] 0)) (T5.setTop (mkF m 9 #[] [(.ref b2)])) := pre2.trans (st5 _ (Steps.refl _))
  obtain ⟨fs, hr, hrun, hended, hW, hsame⟩ := X5.leave (v := some (.ref b2)) (fun h => by rw [Bd.returns] at h; cases h)
  refine ⟨_, _, pre5.trans ?_, hrun, hended, _, _, rfl, ?_, ⟨_, rfl⟩, hW, hsame.mono (by decide) (by decide)⟩
  · show Steps p.tables e below (T5.setTop (mkF m 9 #[] [(.ref b2)])) _
    jvm_step X5.here [X5.here.top, hx, (hb hby d3_9), X5.method', Bd.returns, Value.isRef, FieldType.isReference]
    first | (intro acts; rw [hr _ acts rfl rfl rfl]) | rw [hr _ _ rfl rfl rfl]
    exact Steps.refl _
  · show Q3 Z aV kV aA aU aB h0 n0 _ T5.heap _
    rw [e5]
    exact ⟨b2, rfl, N0, K2, sz2, A2⟩
theorem d4_0 : decode prog_27_method_1_code 0 = .ok (.aload_n 0, 1) := by decide +kernel
theorem d4_1 : decode prog_27_method_1_code 1 = .ok (.invokespecial 1, 3) := by decide +kernel
theorem d4_4 : decode prog_27_method_1_code 4 = .ok (.aload_n 0, 1) := by decide +kernel
theorem d4_5 : decode prog_27_method_1_code 5 = .ok (.invokestatic 7, 3) := by decide +kernel
theorem d4_8 : decode prog_27_method_1_code 8 = .ok (.arraylength, 1) := by decide +kernel
theorem d4_9 : decode prog_27_method_1_code 9 = .ok (.newarray .long, 2) := by decide +kernel
theorem d4_11 : decode prog_27_method_1_code 11 = .ok (.putfield 13, 3) := by decide +kernel
theorem d4_14 : decode prog_27_method_1_code 14 = .ok (.return_, 1) := by decide +kernel
theorem pn4 : plainName "com/example/evident_ledger/evidentledger/ExecutorVerdict$Tally" = true := by first | (simp [plainName, overriddenIn]; done) | decide +kernel
theorem pd4_0 : parseMethodDescriptor "()[Lcom/example/evident_ledger/evidentledger/ExecutorVerdict;" = some ⟨[], some (.array (.object "com/example/evident_ledger/evidentledger/ExecutorVerdict"))⟩ := by decide +kernel
theorem ef4 (m : MethodId) (x0 : Addr) : entryFrame m #[(.ref x0)] 1 = mkF m 0 #[.val (.ref x0)] [] := by first | (simp [entryFrame, mkF, argsToLocals, Value.category]; done) | rfl
def Q4 (Z : State) (x0 : Addr) (u0 : Value) (aV : Addr) (kV : ClassId) (aA : Addr) (aU : Addr) (aB : Addr) (h0 : Heap) (n0 : Nat) (v : Option Value) (h : Heap) (L : List Loc) : Prop := ∃ (ar : Addr), ∃ (kk : ClassId), v = none ∧ Fr n0 L ∧ Keep h0 h [x0] ∧ Exa Z h x0 "com/example/evident_ledger/evidentledger/ExecutorVerdict$Tally" ∧ Fld Z h x0 "com/example/evident_ledger/evidentledger/ExecutorVerdict$Tally" "counts" "[J" (.ref ar) ∧ Arv Z h ar kk .long (3 : Int32) [(.long (0 : Int64)), (.long (0 : Int64)), (.long (0 : Int64))] (.long (0 : Int64)) ∧ h0.size ≤ ar
set_option maxRecDepth 65536 in
set_option maxHeartbeats 40000000 in
theorem rm4 (l : Launch) (Z : State) (a0 : Array Value) (hw : ∀ d ∈ tables_1, d.before a0 Z = true) (ws : List Jvm.Cond) (x0 : Addr) (u0 : Value) (aV : Addr) (kV : ClassId) (aA : Addr) (aU : Addr) (aB : Addr) (h0 : Heap) (n0 : Nat) (Z0 : n0 ≤ h0.size) (O0 : Old Z n0 h0) (B0 : Exa Z h0 x0 "com/example/evident_ledger/evidentledger/ExecutorVerdict$Tally") (B1 : Fld Z h0 x0 "com/example/evident_ledger/evidentledger/ExecutorVerdict$Tally" "counts" "[J" u0) (B2 : Exa Z h0 aV "[Lcom/example/evident_ledger/evidentledger/ExecutorVerdict;") (B3 : Arv Z h0 aV kV (.object "com/example/evident_ledger/evidentledger/ExecutorVerdict") (3 : Int32) [(.ref aA), (.ref aU), (.ref aB)] .null) (g_x0 : n0 ≤ x0) (S_V : Sta Z Z.heap "com/example/evident_ledger/evidentledger/ExecutorVerdict" "$VALUES" "[Lcom/example/evident_ledger/evidentledger/ExecutorVerdict;" (.ref aV)) (hne : aV ≠ x0) :
    MetFree l (⟨"com/example/evident_ledger/evidentledger/ExecutorVerdict$Tally", "<init>", "()V"⟩ : MethodName) (head1 (Jvm.Cond.code (⟨"com/example/evident_ledger/evidentledger/ExecutorVerdict$Tally", "<init>", "()V"⟩ : MethodName) prog_27_method_1_code 1 none :: ws) ({ frames := 2, cells := 2, slots := 6, locals := 26 } : Room)) (fun a U => a = #[(.ref x0)] ∧ Z.Warmed39 U.vm ∧ U.heap = h0) (fun _ _ _ _ _ => True) (fun _ U o U' => ∃ v L, o = .returned v ∧ Q4 Z x0 u0 aV kV aA aU aB h0 n0 v U'.heap L ∧ FrameEnd U o U' L ({ frames := 2, cells := 2, slots := 6, locals := 26 } : Room).cells ({ frames := 2, cells := 2, slots := 6, locals := 26 } : Room).slots) := by
  refine MetFree.of_bodySF (plainFor_of_name pn4) hisR ?_
  intro p e s m args below meth c s₁ Bd hml0 hP hK
  obtain ⟨rfl, hZ, hh⟩ := hP
  have hx := Bd.exec
  have hby := Bd.bytes
  have hml : c.maxLocals = 1 := hml0
  have hown : s.vm.findClass "com/example/evident_ledger/evidentledger/ExecutorVerdict$Tally" = some m.cls := findClass_of_methodNamed Bd.named
  have hnm := (name_of_methodNamed Bd.named Bd.method).1
  have X0 : Stand p l e ({ frames := 2, cells := 2, slots := 6, locals := 26 } : Room) s m #[(.ref x0)] below meth c s₁ [] 0 0 := Stand.of_body Bd
  have e0 : s₁.heap = h0 := by rw [← hh, Bd.state]; rfl
  have N0 := Fr.nil n0
  have pre0 : Steps p.tables e below (s₁.setTop (entryFrame m #[(.ref x0)] 1)) (s₁.setTop (mkF m 0 #[.val (.ref x0)] [])) := castTop (ef4 m x0) (Steps.refl _)
  have K0 := Keep.refl h0 [x0]
  have st1 : Steps p.tables e below (s₁.setTop (mkF m 0 #[.val (.ref x0)] [])) (s₁.setTop (mkF m 1 #[.val (.ref x0)] [(.ref x0)])) := by
    refine XS.aloadN X0.here hx rfl (hb hby d4_0) rfl rfl ?_
    show Steps p.tables e below (s₁.setTop (mkF m 1 #[.val (.ref x0)] [(.ref x0)])) _
    exact Steps.refl _
  have pre1 := pre0.trans st1
  obtain ⟨T2, X2, e2, st2⟩ := initO X0 hx hZ hown (hw _ (List.mem_of_getElem? (i := 11) rfl)) (hw _ (List.mem_of_getElem? (i := 12) rfl)) (hw _ (List.mem_of_getElem? (i := 13) rfl)) e0 (g := (mkF m 1 #[.val (.ref x0)] [(.ref x0)])) rfl (by rw [hml]; rfl) rfl (hb hby d4_1) (by decide) (W := 0) (by show 2 * 0 + _ ≤ _; exact Nat.le_of_eq rfl) (by decide)
  have pre2 : Steps p.tables e below (s₁.setTop (entryFrame m #[(.ref x0)] 1)) (T2.setTop (mkF m 4 #[.val (.ref x0)] [])) := pre1.trans (st2 _ (Steps.refl _))
  have st3 : Steps p.tables e below (T2.setTop (mkF m 4 #[.val (.ref x0)] [])) (T2.setTop (mkF m 5 #[.val (.ref x0)] [(.ref x0)])) := by
    refine XS.aloadN X2.here hx rfl (hb hby d4_4) rfl rfl ?_
    show Steps p.tables e below (T2.setTop (mkF m 5 #[.val (.ref x0)] [(.ref x0)])) _
    exact Steps.refl _
  have pre3 := pre2.trans st3
  obtain ⟨_, _, ⟨T4, L4, k4, n4⟩, -, X4, ⟨Lc4, hQ4, l4, y4, z4⟩, st4⟩ := Jvm.LawKit.callS X2 hx (y := (⟨"com/example/evident_ledger/evidentledger/ExecutorVerdict", "values", "()[Lcom/example/evident_ledger/evidentledger/ExecutorVerdict;"⟩ : MethodName)) hown (mvT hZ (hw _ (List.mem_of_getElem? (i := 14) rfl))) (mvT hZ (hw _ (List.mem_of_getElem? (i := 15) rfl))) (mvT hZ (hw _ (List.mem_of_getElem? (i := 16) rfl))) (mvT hZ (hw _ (List.mem_of_getElem? (i := 17) rfl))) (by decide) (backOf (W := 1) (rm3 l Z a0 hw [] aV kV aA aU aB h0 n0 Z0 O0 B2 B3 S_V) hZ (hw _ (List.mem_of_getElem? (i := 17) rfl)) (hw _ (List.mem_of_getElem? (i := 16) rfl)) (by decide) (by decide)) (g := (mkF m 5 #[.val (.ref x0)] [(.ref x0)])) rfl (by rw [hml]; rfl) (argsL := []) (rest := [(.ref x0)]) (lenOf pd4_0 rfl) rfl (by show 2 * 0 + _ ≤ _; exact Nat.le_of_eq rfl) (hb hby d4_5) (fun _ _ => ⟨rfl, e2, (by decide : 0 + 1 ≤ _), (by decide : 0 + 3 ≤ _)⟩)
  dsimp only [Pt.U, Pt.locs, Pt.cells, Pt.slots] at X4 l4 y4 z4 st4 hQ4
  subst l4 y4 z4
  obtain ⟨b4, rfl, Nq4, Kq4, gf4, P4_0⟩ := hQ4
  have gn4 : n0 ≤ b4 := Nat.le_trans Z0 gf4
  have sz4 : h0.size ≤ b4 := Nat.le_trans K0.1 gf4
  have nex0_b4 : x0 ≠ b4 := Nat.ne_of_lt (Nat.lt_of_lt_of_le B0.lt gf4)
  have neaV_b4 : aV ≠ b4 := Nat.ne_of_lt (Nat.lt_of_lt_of_le B2.lt gf4)
  have F5 : Exa Z T4.heap x0 "com/example/evident_ledger/evidentledger/ExecutorVerdict$Tally" := B0.keep Kq4
  have F6 : Fld Z T4.heap x0 "com/example/evident_ledger/evidentledger/ExecutorVerdict$Tally" "counts" "[J" u0 := B1.keep Kq4 nin0
  have F7 : Exa Z T4.heap aV "[Lcom/example/evident_ledger/evidentledger/ExecutorVerdict;" := B2.keep Kq4
  have F8 : Arv Z T4.heap aV kV (.object "com/example/evident_ledger/evidentledger/ExecutorVerdict") (3 : Int32) [(.ref aA), (.ref aU), (.ref aB)] .null := B3.keep Kq4 nin0
  have KK4 := K0.trans Kq4 all0
  have Z4 : n0 ≤ T4.heap.size := Nat.le_trans Z0 Kq4.1
  have O4 := O0.keep Kq4 all0
  have N4 := Fr.app N0 Nq4
  have pre4 : Steps p.tables e below (s₁.setTop (entryFrame m #[(.ref x0)] 1)) (T4.setTop (mkF m 8 #[.val (.ref x0)] [(.ref b4), (.ref x0)])) := pre3.trans (st4 _ (Steps.refl _))
  obtain ⟨cl9, Ar9, q9, S9, G9, H9, J9⟩ := id P4_0
  have st9 : Steps p.tables e below (T4.setTop (mkF m 8 #[.val (.ref x0)] [(.ref b4), (.ref x0)])) (T4.setTop (mkF m 9 #[.val (.ref x0)] [(.int (3 : Int32)), (.ref x0)])) := by
    refine X4.arraylength hx Ar9.1 (State.isArrayOf_alike hZ.alike Ar9.2.1) (g := (mkF m 8 #[.val (.ref x0)] [(.ref b4), (.ref x0)])) rfl rfl (hb hby d4_8) _ ?_
    rw [len_of S9 G9]
    exact Steps.refl _
  have pre9 := pre4.trans st9
  obtain ⟨T10, h10, k10, X10, e10, E10, A10, st10⟩ := newP X4 hx hZ (hw _ (List.mem_of_getElem? (i := 33) rfl)) rfl (g := (mkF m 9 #[.val (.ref x0)] [(.int (3 : Int32)), (.ref x0)])) rfl (hb hby d4_9) rfl (by decide) (cap := 3) (by decide) (by decide) (by decide) (by decide)
  obtain ⟨b10, g10⟩ : ∃ z, z = T4.heap.size := ⟨_, rfl⟩
  rw [← g10] at A10 st10
  have pre10 : Steps p.tables e below (s₁.setTop (entryFrame m #[(.ref x0)] 1)) (T10.setTop (mkF m 11 #[.val (.ref x0)] [(.ref b10), (.ref x0)])) := pre9.trans (st10 _ (Steps.refl _))
  have gn10 : n0 ≤ b10 := Nat.le_trans Z4 (Nat.le_of_eq g10.symm)
  have sz10 : h0.size ≤ b10 := Nat.le_trans KK4.1 (Nat.le_of_eq g10.symm)
  have nex0_b10 : x0 ≠ b10 := Nat.ne_of_lt (Nat.lt_of_lt_of_le F5.lt (Nat.le_of_eq g10.symm))
  have neaV_b10 : aV ≠ b10 := Nat.ne_of_lt (Nat.lt_of_lt_of_le F7.lt (Nat.le_of_eq g10.symm))
  have neb4_b10 : b4 ≠ b10 := Nat.ne_of_lt (Nat.lt_of_lt_of_le P4_0.lt (Nat.le_of_eq g10.symm))
  have F11 : Exa Z h10 x0 "com/example/evident_ledger/evidentledger/ExecutorVerdict$Tally" := F5.ext E10
  have F12 : Fld Z h10 x0 "com/example/evident_ledger/evidentledger/ExecutorVerdict$Tally" "counts" "[J" u0 := F6.ext E10
  have F13 : Exa Z h10 aV "[Lcom/example/evident_ledger/evidentledger/ExecutorVerdict;" := F7.ext E10
  have F14 : Arv Z h10 aV kV (.object "com/example/evident_ledger/evidentledger/ExecutorVerdict") (3 : Int32) [(.ref aA), (.ref aU), (.ref aB)] .null := F8.ext E10
  have F15 : Arv Z h10 b4 kV (.object "com/example/evident_ledger/evidentledger/ExecutorVerdict") (3 : Int32) [(.ref aA), (.ref aU), (.ref aB)] .null := P4_0.ext E10
  have K10 := KK4.ext E10
  have Z10 : n0 ≤ h10.size := Nat.le_trans Z4 E10.1
  have O10 := O4.ext E10
  have F16 : Arv Z h10 b10 k10 .long (3 : Int32) [(.long (0 : Int64)), (.long (0 : Int64)), (.long (0 : Int64))] (.long (0 : Int64)) := (Arv.new A10 (by decide)).pad (pad_rep [] (.long (0 : Int64)) 3)
  obtain ⟨T17, h17, X17, e17, W17, st17⟩ := putF X10 hx hZ hown (host := "") (Or.inl (hw _ (List.mem_of_getElem? (i := 34) rfl))) Via.refl e10 F12 F11 (Or.inr ⟨(hw _ (List.mem_of_getElem? (i := 35) rfl)), rfl, hnm⟩) (hw _ (List.mem_of_getElem? (i := 6) rfl)) (ty := (.array .long)) (by decide) rfl rfl (g := (mkF m 11 #[.val (.ref x0)] [(.ref b10), (.ref x0)])) rfl rfl (hb hby d4_11)
  have pre17 : Steps p.tables e below (s₁.setTop (entryFrame m #[(.ref x0)] 1)) (T17.setTop (mkF m 14 #[.val (.ref x0)] [])) := pre10.trans (st17 _ (Steps.refl _))
  have F18 : Exa Z h17 x0 "com/example/evident_ledger/evidentledger/ExecutorVerdict$Tally" := F11.wr W17
  have F20 : Exa Z h17 aV "[Lcom/example/evident_ledger/evidentledger/ExecutorVerdict;" := F13.wr W17
  have F21 : Arv Z h17 aV kV (.object "com/example/evident_ledger/evidentledger/ExecutorVerdict") (3 : Int32) [(.ref aA), (.ref aU), (.ref aB)] .null := F14.other W17 hne
  have F22 : Arv Z h17 b4 kV (.object "com/example/evident_ledger/evidentledger/ExecutorVerdict") (3 : Int32) [(.ref aA), (.ref aU), (.ref aB)] .null := F15.other W17 (Ne.symm nex0_b4)
  have F23 : Arv Z h17 b10 k10 .long (3 : Int32) [(.long (0 : Int64)), (.long (0 : Int64)), (.long (0 : Int64))] (.long (0 : Int64)) := F16.other W17 (Ne.symm nex0_b10)
  have K17 := K10.wr W17 (Or.inl (List.mem_of_getElem? (i := 0) rfl))
  have Z17 : n0 ≤ h17.size := Nat.le_trans Z10 (Keep.of_wr W17).1
  have O17 := O10.wr W17 g_x0
  have Fw17 : Fld Z h17 x0 "com/example/evident_ledger/evidentledger/ExecutorVerdict$Tally" "counts" "[J" (.ref b10) := F12.same W17
  have N17 := Fr.snoc X17 N4 g_x0
  obtain ⟨fs, hr, hrun, hended, hW, hsame⟩ := X17.leave (v := none) (fun _ => rfl)
  refine ⟨_, _, pre17.trans ?_, hrun, hended, _, _, rfl, ?_, ⟨_, rfl⟩, hW, hsame.mono (by decide) (by decide)⟩
  · show Steps p.tables e below (T17.setTop (mkF m 14 #[.val (.ref x0)] [])) _
    exact X17.returnOut hx Bd.returns (hb hby d4_14) hr
  · show Q4 Z x0 u0 aV kV aA aU aB h0 n0 _ T17.heap _
    rw [e17]
    exact ⟨b10, k10, rfl, N17, K17, F18, Fw17, F23, sz10⟩
def own_up (v : Int64) (w k : Int32) : Int64 := if w = k then v + (1 : Int64) else v
theorem d5_0 : decode prog_27_method_2_code 0 = .ok (.aload_n 0, 1) := by decide +kernel
theorem d5_1 : decode prog_27_method_2_code 1 = .ok (.getfield 13, 3) := by decide +kernel
theorem d5_4 : decode prog_27_method_2_code 4 = .ok (.aload_n 1, 1) := by decide +kernel
theorem d5_5 : decode prog_27_method_2_code 5 = .ok (.invokevirtual 19, 3) := by decide +kernel
theorem d5_8 : decode prog_27_method_2_code 8 = .ok (.dup2, 1) := by decide +kernel
theorem d5_9 : decode prog_27_method_2_code 9 = .ok (.laload, 1) := by decide +kernel
theorem d5_10 : decode prog_27_method_2_code 10 = .ok (.lconst 1, 1) := by decide +kernel
theorem d5_11 : decode prog_27_method_2_code 11 = .ok (.ladd, 1) := by decide +kernel
theorem d5_12 : decode prog_27_method_2_code 12 = .ok (.lastore, 1) := by decide +kernel
theorem d5_13 : decode prog_27_method_2_code 13 = .ok (.return_, 1) := by decide +kernel
theorem pn5 : plainName "com/example/evident_ledger/evidentledger/ExecutorVerdict$Tally" = true := by first | (simp [plainName, overriddenIn]; done) | decide +kernel
theorem pd5_0 : parseMethodDescriptor "()I" = some ⟨[], some .int⟩ := by decide +kernel
theorem ef5 (m : MethodId) (x0 : Addr) (x1 : Addr) : entryFrame m #[(.ref x0), (.ref x1)] 2 = mkF m 0 #[.val (.ref x0), .val (.ref x1)] [] := by first | (simp [entryFrame, mkF, argsToLocals, Value.category]; done) | rfl
def Q5 (Z : State) (x0 : Addr) (x1 : Addr) (ar : Addr) (kk : ClassId) (cn0 : Int64) (cn1 : Int64) (cn2 : Int64) (w0 : Int32) (h0 : Heap) (n0 : Nat) (v : Option Value) (h : Heap) (L : List Loc) : Prop := v = none ∧ Fr n0 L ∧ Keep h0 h [ar] ∧ Arv Z h ar kk .long (3 : Int32) [(.long (own_up cn0 w0 (0 : Int32))), (.long (own_up cn1 w0 (1 : Int32))), (.long (own_up cn2 w0 (2 : Int32)))] (.long (0 : Int64))
set_option maxRecDepth 65536 in
set_option maxHeartbeats 40000000 in
theorem rm5 (l : Launch) (Z : State) (a0 : Array Value) (hw : ∀ d ∈ tables_1, d.before a0 Z = true) (ws : List Jvm.Cond) (x0 : Addr) (x1 : Addr) (ar : Addr) (kk : ClassId) (cn0 : Int64) (cn1 : Int64) (cn2 : Int64) (w0 : Int32) (h0 : Heap) (n0 : Nat) (Z0 : n0 ≤ h0.size) (B0 : Fld Z h0 x0 "com/example/evident_ledger/evidentledger/ExecutorVerdict$Tally" "counts" "[J" (.ref ar)) (B1 : Arv Z h0 ar kk .long (3 : Int32) [(.long cn0), (.long cn1), (.long cn2)] (.long (0 : Int64))) (B2 : Exa Z h0 x1 "com/example/evident_ledger/evidentledger/ExecutorVerdict") (B3 : Fld Z h0 x1 "java/lang/Enum" "ordinal" "I" (.int w0)) (g_ar : n0 ≤ ar) (hj : w0 = (0 : Int32) ∨ w0 = (1 : Int32) ∨ w0 = (2 : Int32)) (ho : x0 ≠ ar) (hp : x1 ≠ ar) :
    MetFree l (⟨"com/example/evident_ledger/evidentledger/ExecutorVerdict$Tally", "count", "(Lcom/example/evident_ledger/evidentledger/ExecutorVerdict;)V"⟩ : MethodName) (head1 (Jvm.Cond.code (⟨"com/example/evident_ledger/evidentledger/ExecutorVerdict$Tally", "count", "(Lcom/example/evident_ledger/evidentledger/ExecutorVerdict;)V"⟩ : MethodName) prog_27_method_2_code 2 none :: ws) ({ frames := 1, cells := 0, slots := 0, locals := 13 } : Room)) (fun a U => a = #[(.ref x0), (.ref x1)] ∧ Z.Warmed39 U.vm ∧ U.heap = h0) (fun _ _ _ _ _ => True) (fun _ U o U' => ∃ v L, o = .returned v ∧ Q5 Z x0 x1 ar kk cn0 cn1 cn2 w0 h0 n0 v U'.heap L ∧ FrameEnd U o U' L ({ frames := 1, cells := 0, slots := 0, locals := 13 } : Room).cells ({ frames := 1, cells := 0, slots := 0, locals := 13 } : Room).slots) := by
  refine MetFree.of_bodySF (plainFor_of_name pn5) hisR ?_
  intro p e s m args below meth c s₁ Bd hml0 hP hK
  obtain ⟨rfl, hZ, hh⟩ := hP
  have hx := Bd.exec
  have hby := Bd.bytes
  have hml : c.maxLocals = 2 := hml0
  have hown : s.vm.findClass "com/example/evident_ledger/evidentledger/ExecutorVerdict$Tally" = some m.cls := findClass_of_methodNamed Bd.named
  have hnm := (name_of_methodNamed Bd.named Bd.method).1
  have X0 : Stand p l e ({ frames := 1, cells := 0, slots := 0, locals := 13 } : Room) s m #[(.ref x0), (.ref x1)] below meth c s₁ [] 0 0 := Stand.of_body Bd
  have e0 : s₁.heap = h0 := by rw [← hh, Bd.state]; rfl
  have N0 := Fr.nil n0
  have pre0 : Steps p.tables e below (s₁.setTop (entryFrame m #[(.ref x0), (.ref x1)] 2)) (s₁.setTop (mkF m 0 #[.val (.ref x0), .val (.ref x1)] [])) := castTop (ef5 m x0 x1) (Steps.refl _)
  have K0 := Keep.refl h0 [ar]
  rcases hj with rfl | rfl | rfl
  · have st1 : Steps p.tables e below (s₁.setTop (mkF m 0 #[.val (.ref x0), .val (.ref x1)] [])) (s₁.setTop (mkF m 1 #[.val (.ref x0), .val (.ref x1)] [(.ref x0)])) := by
      refine XS.aloadN X0.here hx rfl (hb hby d5_0) rfl rfl ?_
      show Steps p.tables e below (s₁.setTop (mkF m 1 #[.val (.ref x0), .val (.ref x1)] [(.ref x0)])) _
      exact Steps.refl _
    have pre1 := pre0.trans st1
    obtain ⟨T2, X2, e2, st2⟩ := getF X0 hx hZ hown (host := "") (Or.inl (hw _ (List.mem_of_getElem? (i := 34) rfl))) Via.refl e0 B0 (g := (mkF m 1 #[.val (.ref x0), .val (.ref x1)] [(.ref x0)])) rfl rfl (hb hby d5_1)
    have pre2 : Steps p.tables e below (s₁.setTop (entryFrame m #[(.ref x0), (.ref x1)] 2)) (T2.setTop (mkF m 4 #[.val (.ref x0), .val (.ref x1)] [(.ref ar)])) := pre1.trans (st2 _ (Steps.refl _))
    have st3 : Steps p.tables e below (T2.setTop (mkF m 4 #[.val (.ref x0), .val (.ref x1)] [(.ref ar)])) (T2.setTop (mkF m 5 #[.val (.ref x0), .val (.ref x1)] [(.ref x1), (.ref ar)])) := by
      refine XS.aloadN X2.here hx rfl (hb hby d5_4) rfl rfl ?_
      show Steps p.tables e below (T2.setTop (mkF m 5 #[.val (.ref x0), .val (.ref x1)] [(.ref x1), (.ref ar)])) _
      exact Steps.refl _
    have pre3 := pre2.trans st3
    obtain ⟨cq4, kq4, q4a, q4b, q4c⟩ := isOf hZ e2 B2
    obtain ⟨_, _, ⟨T4, L4, k4, n4⟩, -, X4, ⟨Lc4, hQ4, l4, y4, z4⟩, st4⟩ := X2.virtualBackUp hx (owner := "java/lang/Enum") (x := (⟨"com/example/evident_ledger/evidentledger/ExecutorVerdict", "ordinal", "()I"⟩ : MethodName)) (y := (⟨"java/lang/Enum", "ordinal", "()I"⟩ : MethodName)) hown (mvT hZ (hw _ (List.mem_of_getElem? (i := 45) rfl))) (mvT hZ (hw _ (List.mem_of_getElem? (i := 46) rfl))) (mvT hZ (hw _ (List.mem_of_getElem? (i := 47) rfl))) (by decide) (mvT hZ (hw _ (List.mem_of_getElem? (i := 49) rfl))) (mvT hZ (hw _ (List.mem_of_getElem? (i := 48) rfl))) (backOf (W := 1) (rm2 l Z a0 hw [] x1 (0 : Int32) h0 n0 Z0 B3) hZ (hw _ (List.mem_of_getElem? (i := 51) rfl)) (hw _ (List.mem_of_getElem? (i := 50) rfl)) (by decide) (by decide)) q4a q4c (g := (mkF m 5 #[.val (.ref x0), .val (.ref x1)] [(.ref x1), (.ref ar)])) rfl (by rw [hml]; rfl) (Steps.refl _) (argsL := []) (rest := [(.ref ar)]) (lenOf pd5_0 rfl) rfl (by show 2 * 0 + _ ≤ _; exact Nat.le_of_eq rfl) (hb hby d5_5) (fun _ _ => ⟨rfl, e2, (by decide : 0 + 0 ≤ _), (by decide : 0 + 0 ≤ _)⟩)
    dsimp only [Pt.U, Pt.locs, Pt.cells, Pt.slots] at X4 l4 y4 z4 st4 hQ4
    subst l4 y4 z4
    obtain ⟨rfl, Nq4, e4⟩ := hQ4
    have N4 := Fr.app N0 Nq4
    have pre4 : Steps p.tables e below (s₁.setTop (entryFrame m #[(.ref x0), (.ref x1)] 2)) (T4.setTop (mkF m 8 #[.val (.ref x0), .val (.ref x1)] [(.int (0 : Int32)), (.ref ar)])) := pre3.trans st4
    have st5 : Steps p.tables e below (T4.setTop (mkF m 8 #[.val (.ref x0), .val (.ref x1)] [(.int (0 : Int32)), (.ref ar)])) (T4.setTop (mkF m 9 #[.val (.ref x0), .val (.ref x1)] [(.int (0 : Int32)), (.ref ar), (.int (0 : Int32)), (.ref ar)])) := by
      refine Jvm.Free.XT.dup2 X4.here hx rfl (hb hby d5_8) rfl rfl rfl ?_
      show Steps p.tables e below (T4.setTop (mkF m 9 #[.val (.ref x0), .val (.ref x1)] [(.int (0 : Int32)), (.ref ar), (.int (0 : Int32)), (.ref ar)])) _
      exact Steps.refl _
    have pre5 := pre4.trans st5
    obtain ⟨cl6, Ar6, q6, S6, G6, H6, J6⟩ := id B1
    have in6 : ¬ ((0 : Int32) < 0 ∨ cl6.slots.size ≤ ((0 : Int32)).toNatClampNeg) := inb_of S6 ⟨by decide, by decide⟩
    have at6 : cl6.slots[((0 : Int32)).toNatClampNeg]? = some (.long cn0) := Has.at H6 in6 rfl
    have st6 : Steps p.tables e below (T4.setTop (mkF m 9 #[.val (.ref x0), .val (.ref x1)] [(.int (0 : Int32)), (.ref ar), (.int (0 : Int32)), (.ref ar)])) (T4.setTop (mkF m 10 #[.val (.ref x0), .val (.ref x1)] [(.long cn0), (.int (0 : Int32)), (.ref ar)])) := X4.laload hx (j := (0 : Int32)) (v := (.long cn0)) (by rw [e4]; exact Ar6.1) (State.isArrayOf_alike hZ.alike Ar6.2.1) Ar6.2.2 in6 at6 (g := (mkF m 9 #[.val (.ref x0), .val (.ref x1)] [(.int (0 : Int32)), (.ref ar), (.int (0 : Int32)), (.ref ar)])) rfl rfl (hb hby d5_9) _ (Steps.refl _)
    have pre6 := pre5.trans st6
    obtain ⟨v7, hv7⟩ : ∃ z : Int64, z = (cn0 + (1 : Int64)) := ⟨_, rfl⟩
    have st8 : Steps p.tables e below (T4.setTop (mkF m 10 #[.val (.ref x0), .val (.ref x1)] [(.long cn0), (.int (0 : Int32)), (.ref ar)])) (T4.setTop (mkF m 12 #[.val (.ref x0), .val (.ref x1)] [(.long v7), (.int (0 : Int32)), (.ref ar)])) := by
      subst v7
      refine XS.lconst X4.here hx rfl (hb hby d5_10) ?_
      show Steps p.tables e below (T4.setTop (mkF m 11 #[.val (.ref x0), .val (.ref x1)] [(.long (1 : Int64)), (.long cn0), (.int (0 : Int32)), (.ref ar)])) _
      refine XS.ladd X4.here hx rfl (hb hby d5_11) rfl ?_
      show Steps p.tables e below (T4.setTop (mkF m 12 #[.val (.ref x0), .val (.ref x1)] [(.long (cn0 + (1 : Int64))), (.int (0 : Int32)), (.ref ar)])) _
      exact Steps.refl _
    have pre8 := pre6.trans st8
    obtain ⟨cl9, Ar9, q9, S9, G9, H9, J9⟩ := id B1
    have in9 : ¬ ((0 : Int32) < 0 ∨ cl9.slots.size ≤ ((0 : Int32)).toNatClampNeg) := inb_of S9 ⟨by decide, by decide⟩
    obtain ⟨T9, h9, X9, e9, W9, st9⟩ := stJ X4 hx hZ e4 Ar9 (j := (0 : Int32)) in9 (g := (mkF m 12 #[.val (.ref x0), .val (.ref x1)] [(.long v7), (.int (0 : Int32)), (.ref ar)])) rfl rfl (hb hby d5_12)
    have pre9 : Steps p.tables e below (s₁.setTop (entryFrame m #[(.ref x0), (.ref x1)] 2)) (T9.setTop (mkF m 13 #[.val (.ref x0), .val (.ref x1)] [])) := pre8.trans (st9 _ (Steps.refl _))
    have F10 : Fld Z h9 x0 "com/example/evident_ledger/evidentledger/ExecutorVerdict$Tally" "counts" "[J" (.ref ar) := B0.other W9 (Or.inl ho)
    have F12 : Exa Z h9 x1 "com/example/evident_ledger/evidentledger/ExecutorVerdict" := B2.wr W9
    have F13 : Fld Z h9 x1 "java/lang/Enum" "ordinal" "I" (.int (0 : Int32)) := B3.other W9 (Or.inl hp)
    have K9 := K0.wr W9 (Or.inl (List.mem_of_getElem? (i := 0) rfl))
    have Z9 : n0 ≤ h9.size := Nat.le_trans Z0 (Keep.of_wr W9).1
    have V9 : Arv Z h9 ar kk .long (3 : Int32) [(.long v7), (.long cn1), (.long cn2)] (.long (0 : Int64)) := Arv.set Ar9 q9 S9 G9 H9 J9 rfl W9 0 rfl (Nat.le_of_ble_eq_true rfl)
    have N9 := Fr.snoc X9 N4 g_ar
    obtain ⟨fs, hr, hrun, hended, hW, hsame⟩ := X9.leave (v := none) (fun _ => rfl)
    refine ⟨_, _, pre9.trans ?_, hrun, hended, _, _, rfl, ?_, ⟨_, rfl⟩, hW, hsame.mono (by decide) (by decide)⟩
    · show Steps p.tables e below (T9.setTop (mkF m 13 #[.val (.ref x0), .val (.ref x1)] [])) _
      exact X9.returnOut hx Bd.returns (hb hby d5_13) hr
    · show Q5 Z x0 x1 ar kk cn0 cn1 cn2 (0 : Int32) h0 n0 _ T9.heap _
      rw [e9]
      have hup : [(Value.long (own_up cn0 (0 : Int32) (0 : Int32))), (Value.long (own_up cn1 (0 : Int32) (1 : Int32))), (Value.long (own_up cn2 (0 : Int32) (2 : Int32)))] = ([(Value.long v7), (Value.long cn1), (Value.long cn2)] : List Value) := by simp [own_up, hv7]
      exact ⟨rfl, N9, K9, by rw [hup]; exact V9⟩
  · have st14 : Steps p.tables e below (s₁.setTop (mkF m 0 #[.val (.ref x0), .val (.ref x1)] [])) (s₁.setTop (mkF m 1 #[.val (.ref x0), .val (.ref x1)] [(.ref x0)])) := by
      refine XS.aloadN X0.here hx rfl (hb hby d5_0) rfl rfl ?_
      show Steps p.tables e below (s₁.setTop (mkF m 1 #[.val (.ref x0), .val (.ref x1)] [(.ref x0)])) _
      exact Steps.refl _
    have pre14 := pre0.trans st14
    obtain ⟨T15, X15, e15, st15⟩ := getF X0 hx hZ hown (host := "") (Or.inl (hw _ (List.mem_of_getElem? (i := 34) rfl))) Via.refl e0 B0 (g := (mkF m 1 #[.val (.ref x0), .val (.ref x1)] [(.ref x0)])) rfl rfl (hb hby d5_1)
    have pre15 : Steps p.tables e below (s₁.setTop (entryFrame m #[(.ref x0), (.ref x1)] 2)) (T15.setTop (mkF m 4 #[.val (.ref x0), .val (.ref x1)] [(.ref ar)])) := pre14.trans (st15 _ (Steps.refl _))
    have st16 : Steps p.tables e below (T15.setTop (mkF m 4 #[.val (.ref x0), .val (.ref x1)] [(.ref ar)])) (T15.setTop (mkF m 5 #[.val (.ref x0), .val (.ref x1)] [(.ref x1), (.ref ar)])) := by
      refine XS.aloadN X15.here hx rfl (hb hby d5_4) rfl rfl ?_
      show Steps p.tables e below (T15.setTop (mkF m 5 #[.val (.ref x0), .val (.ref x1)] [(.ref x1), (.ref ar)])) _
      exact Steps.refl _
    have pre16 := pre15.trans st16
    obtain ⟨cq17, kq17, q17a, q17b, q17c⟩ := isOf hZ e15 B2
    obtain ⟨_, _, ⟨T17, L17, k17, n17⟩, -, X17, ⟨Lc17, hQ17, l17, y17, z17⟩, st17⟩ := X15.virtualBackUp hx (owner := "java/lang/Enum") (x := (⟨"com/example/evident_ledger/evidentledger/ExecutorVerdict", "ordinal", "()I"⟩ : MethodName)) (y := (⟨"java/lang/Enum", "ordinal", "()I"⟩ : MethodName)) hown (mvT hZ (hw _ (List.mem_of_getElem? (i := 45) rfl))) (mvT hZ (hw _ (List.mem_of_getElem? (i := 46) rfl))) (mvT hZ (hw _ (List.mem_of_getElem? (i := 47) rfl))) (by decide) (mvT hZ (hw _ (List.mem_of_getElem? (i := 49) rfl))) (mvT hZ (hw _ (List.mem_of_getElem? (i := 48) rfl))) (backOf (W := 1) (rm2 l Z a0 hw [] x1 (1 : Int32) h0 n0 Z0 B3) hZ (hw _ (List.mem_of_getElem? (i := 51) rfl)) (hw _ (List.mem_of_getElem? (i := 50) rfl)) (by decide) (by decide)) q17a q17c (g := (mkF m 5 #[.val (.ref x0), .val (.ref x1)] [(.ref x1), (.ref ar)])) rfl (by rw [hml]; rfl) (Steps.refl _) (argsL := []) (rest := [(.ref ar)]) (lenOf pd5_0 rfl) rfl (by show 2 * 0 + _ ≤ _; exact Nat.le_of_eq rfl) (hb hby d5_5) (fun _ _ => ⟨rfl, e15, (by decide : 0 + 0 ≤ _), (by decide : 0 + 0 ≤ _)⟩)
    dsimp only [Pt.U, Pt.locs, Pt.cells, Pt.slots] at X17 l17 y17 z17 st17 hQ17
    subst l17 y17 z17
    obtain ⟨rfl, Nq17, e17⟩ := hQ17
    have N17 := Fr.app N0 Nq17
    have pre17 : Steps p.tables e below (s₁.setTop (entryFrame m #[(.ref x0), (.ref x1)] 2)) (T17.setTop (mkF m 8 #[.val (.ref x0), .val (.ref x1)] [(.int (1 : Int32)), (.ref ar)])) := pre16.trans st17
    have st18 : Steps p.tables e below (T17.setTop (mkF m 8 #[.val (.ref x0), .val (.ref x1)] [(.int (1 : Int32)), (.ref ar)])) (T17.setTop (mkF m 9 #[.val (.ref x0), .val (.ref x1)] [(.int (1 : Int32)), (.ref ar), (.int (1 : Int32)), (.ref ar)])) := by
      refine Jvm.Free.XT.dup2 X17.here hx rfl (hb hby d5_8) rfl rfl rfl ?_
      show Steps p.tables e below (T17.setTop (mkF m 9 #[.val (.ref x0), .val (.ref x1)] [(.int (1 : Int32)), (.ref ar), (.int (1 : Int32)), (.ref ar)])) _
      exact Steps.refl _
    have pre18 := pre17.trans st18
    obtain ⟨cl19, Ar19, q19, S19, G19, H19, J19⟩ := id B1
    have in19 : ¬ ((1 : Int32) < 0 ∨ cl19.slots.size ≤ ((1 : Int32)).toNatClampNeg) := inb_of S19 ⟨by decide, by decide⟩
    have at19 : cl19.slots[((1 : Int32)).toNatClampNeg]? = some (.long cn1) := Has.at H19 in19 rfl
    have st19 : Steps p.tables e below (T17.setTop (mkF m 9 #[.val (.ref x0), .val (.ref x1)] [(.int (1 : Int32)), (.ref ar), (.int (1 : Int32)), (.ref ar)])) (T17.setTop (mkF m 10 #[.val (.ref x0), .val (.ref x1)] [(.long cn1), (.int (1 : Int32)), (.ref ar)])) := X17.laload hx (j := (1 : Int32)) (v := (.long cn1)) (by rw [e17]; exact Ar19.1) (State.isArrayOf_alike hZ.alike Ar19.2.1) Ar19.2.2 in19 at19 (g := (mkF m 9 #[.val (.ref x0), .val (.ref x1)] [(.int (1 : Int32)), (.ref ar), (.int (1 : Int32)), (.ref ar)])) rfl rfl (hb hby d5_9) _ (Steps.refl _)
    have pre19 := pre18.trans st19
    obtain ⟨v20, hv20⟩ : ∃ z : Int64, z = (cn1 + (1 : Int64)) := ⟨_, rfl⟩
    have st21 : Steps p.tables e below (T17.setTop (mkF m 10 #[.val (.ref x0), .val (.ref x1)] [(.long cn1), (.int (1 : Int32)), (.ref ar)])) (T17.setTop (mkF m 12 #[.val (.ref x0), .val (.ref x1)] [(.long v20), (.int (1 : Int32)), (.ref ar)])) := by
      subst v20
      refine XS.lconst X17.here hx rfl (hb hby d5_10) ?_
      show Steps p.tables e below (T17.setTop (mkF m 11 #[.val (.ref x0), .val (.ref x1)] [(.long (1 : Int64)), (.long cn1), (.int (1 : Int32)), (.ref ar)])) _
      refine XS.ladd X17.here hx rfl (hb hby d5_11) rfl ?_
      show Steps p.tables e below (T17.setTop (mkF m 12 #[.val (.ref x0), .val (.ref x1)] [(.long (cn1 + (1 : Int64))), (.int (1 : Int32)), (.ref ar)])) _
      exact Steps.refl _
    have pre21 := pre19.trans st21
    obtain ⟨cl22, Ar22, q22, S22, G22, H22, J22⟩ := id B1
    have in22 : ¬ ((1 : Int32) < 0 ∨ cl22.slots.size ≤ ((1 : Int32)).toNatClampNeg) := inb_of S22 ⟨by decide, by decide⟩
    obtain ⟨T22, h22, X22, e22, W22, st22⟩ := stJ X17 hx hZ e17 Ar22 (j := (1 : Int32)) in22 (g := (mkF m 12 #[.val (.ref x0), .val (.ref x1)] [(.long v20), (.int (1 : Int32)), (.ref ar)])) rfl rfl (hb hby d5_12)
    have pre22 : Steps p.tables e below (s₁.setTop (entryFrame m #[(.ref x0), (.ref x1)] 2)) (T22.setTop (mkF m 13 #[.val (.ref x0), .val (.ref x1)] [])) := pre21.trans (st22 _ (Steps.refl _))
    have F23 : Fld Z h22 x0 "com/example/evident_ledger/evidentledger/ExecutorVerdict$Tally" "counts" "[J" (.ref ar) := B0.other W22 (Or.inl ho)
    have F25 : Exa Z h22 x1 "com/example/evident_ledger/evidentledger/ExecutorVerdict" := B2.wr W22
    have F26 : Fld Z h22 x1 "java/lang/Enum" "ordinal" "I" (.int (1 : Int32)) := B3.other W22 (Or.inl hp)
    have K22 := K0.wr W22 (Or.inl (List.mem_of_getElem? (i := 0) rfl))
    have Z22 : n0 ≤ h22.size := Nat.le_trans Z0 (Keep.of_wr W22).1
    have V22 : Arv Z h22 ar kk .long (3 : Int32) [(.long cn0), (.long v20), (.long cn2)] (.long (0 : Int64)) := Arv.set Ar22 q22 S22 G22 H22 J22 rfl W22 1 rfl (Nat.le_of_ble_eq_true rfl)
    have N22 := Fr.snoc X22 N17 g_ar
    obtain ⟨fs, hr, hrun, hended, hW, hsame⟩ := X22.leave (v := none) (fun _ => rfl)
    refine ⟨_, _, pre22.trans ?_, hrun, hended, _, _, rfl, ?_, ⟨_, rfl⟩, hW, hsame.mono (by decide) (by decide)⟩
    · show Steps p.tables e below (T22.setTop (mkF m 13 #[.val (.ref x0), .val (.ref x1)] [])) _
      exact X22.returnOut hx Bd.returns (hb hby d5_13) hr
    · show Q5 Z x0 x1 ar kk cn0 cn1 cn2 (1 : Int32) h0 n0 _ T22.heap _
      rw [e22]
      have hup : [(Value.long (own_up cn0 (1 : Int32) (0 : Int32))), (Value.long (own_up cn1 (1 : Int32) (1 : Int32))), (Value.long (own_up cn2 (1 : Int32) (2 : Int32)))] = ([(Value.long cn0), (Value.long v20), (Value.long cn2)] : List Value) := by simp [own_up, hv20]
      exact ⟨rfl, N22, K22, by rw [hup]; exact V22⟩
  · have st27 : Steps p.tables e below (s₁.setTop (mkF m 0 #[.val (.ref x0), .val (.ref x1)] [])) (s₁.setTop (mkF m 1 #[.val (.ref x0), .val (.ref x1)] [(.ref x0)])) := by
      refine XS.aloadN X0.here hx rfl (hb hby d5_0) rfl rfl ?_
      show Steps p.tables e below (s₁.setTop (mkF m 1 #[.val (.ref x0), .val (.ref x1)] [(.ref x0)])) _
      exact Steps.refl _
    have pre27 := pre0.trans st27
    obtain ⟨T28, X28, e28, st28⟩ := getF X0 hx hZ hown (host := "") (Or.inl (hw _ (List.mem_of_getElem? (i := 34) rfl))) Via.refl e0 B0 (g := (mkF m 1 #[.val (.ref x0), .val (.ref x1)] [(.ref x0)])) rfl rfl (hb hby d5_1)
    have pre28 : Steps p.tables e below (s₁.setTop (entryFrame m #[(.ref x0), (.ref x1)] 2)) (T28.setTop (mkF m 4 #[.val (.ref x0), .val (.ref x1)] [(.ref ar)])) := pre27.trans (st28 _ (Steps.refl _))
    have st29 : Steps p.tables e below (T28.setTop (mkF m 4 #[.val (.ref x0), .val (.ref x1)] [(.ref ar)])) (T28.setTop (mkF m 5 #[.val (.ref x0), .val (.ref x1)] [(.ref x1), (.ref ar)])) := by
      refine XS.aloadN X28.here hx rfl (hb hby d5_4) rfl rfl ?_
      show Steps p.tables e below (T28.setTop (mkF m 5 #[.val (.ref x0), .val (.ref x1)] [(.ref x1), (.ref ar)])) _
      exact Steps.refl _
    have pre29 := pre28.trans st29
    obtain ⟨cq30, kq30, q30a, q30b, q30c⟩ := isOf hZ e28 B2
    obtain ⟨_, _, ⟨T30, L30, k30, n30⟩, -, X30, ⟨Lc30, hQ30, l30, y30, z30⟩, st30⟩ := X28.virtualBackUp hx (owner := "java/lang/Enum") (x := (⟨"com/example/evident_ledger/evidentledger/ExecutorVerdict", "ordinal", "()I"⟩ : MethodName)) (y := (⟨"java/lang/Enum", "ordinal", "()I"⟩ : MethodName)) hown (mvT hZ (hw _ (List.mem_of_getElem? (i := 45) rfl))) (mvT hZ (hw _ (List.mem_of_getElem? (i := 46) rfl))) (mvT hZ (hw _ (List.mem_of_getElem? (i := 47) rfl))) (by decide) (mvT hZ (hw _ (List.mem_of_getElem? (i := 49) rfl))) (mvT hZ (hw _ (List.mem_of_getElem? (i := 48) rfl))) (backOf (W := 1) (rm2 l Z a0 hw [] x1 (2 : Int32) h0 n0 Z0 B3) hZ (hw _ (List.mem_of_getElem? (i := 51) rfl)) (hw _ (List.mem_of_getElem? (i := 50) rfl)) (by decide) (by decide)) q30a q30c (g := (mkF m 5 #[.val (.ref x0), .val (.ref x1)] [(.ref x1), (.ref ar)])) rfl (by rw [hml]; rfl) (Steps.refl _) (argsL := []) (rest := [(.ref ar)]) (lenOf pd5_0 rfl) rfl (by show 2 * 0 + _ ≤ _; exact Nat.le_of_eq rfl) (hb hby d5_5) (fun _ _ => ⟨rfl, e28, (by decide : 0 + 0 ≤ _), (by decide : 0 + 0 ≤ _)⟩)
    dsimp only [Pt.U, Pt.locs, Pt.cells, Pt.slots] at X30 l30 y30 z30 st30 hQ30
    subst l30 y30 z30
    obtain ⟨rfl, Nq30, e30⟩ := hQ30
    have N30 := Fr.app N0 Nq30
    have pre30 : Steps p.tables e below (s₁.setTop (entryFrame m #[(.ref x0), (.ref x1)] 2)) (T30.setTop (mkF m 8 #[.val (.ref x0), .val (.ref x1)] [(.int (2 : Int32)), (.ref ar)])) := pre29.trans st30
    have st31 : Steps p.tables e below (T30.setTop (mkF m 8 #[.val (.ref x0), .val (.ref x1)] [(.int (2 : Int32)), (.ref ar)])) (T30.setTop (mkF m 9 #[.val (.ref x0), .val (.ref x1)] [(.int (2 : Int32)), (.ref ar), (.int (2 : Int32)), (.ref ar)])) := by
      refine Jvm.Free.XT.dup2 X30.here hx rfl (hb hby d5_8) rfl rfl rfl ?_
      show Steps p.tables e below (T30.setTop (mkF m 9 #[.val (.ref x0), .val (.ref x1)] [(.int (2 : Int32)), (.ref ar), (.int (2 : Int32)), (.ref ar)])) _
      exact Steps.refl _
    have pre31 := pre30.trans st31
    obtain ⟨cl32, Ar32, q32, S32, G32, H32, J32⟩ := id B1
    have in32 : ¬ ((2 : Int32) < 0 ∨ cl32.slots.size ≤ ((2 : Int32)).toNatClampNeg) := inb_of S32 ⟨by decide, by decide⟩
    have at32 : cl32.slots[((2 : Int32)).toNatClampNeg]? = some (.long cn2) := Has.at H32 in32 rfl
    have st32 : Steps p.tables e below (T30.setTop (mkF m 9 #[.val (.ref x0), .val (.ref x1)] [(.int (2 : Int32)), (.ref ar), (.int (2 : Int32)), (.ref ar)])) (T30.setTop (mkF m 10 #[.val (.ref x0), .val (.ref x1)] [(.long cn2), (.int (2 : Int32)), (.ref ar)])) := X30.laload hx (j := (2 : Int32)) (v := (.long cn2)) (by rw [e30]; exact Ar32.1) (State.isArrayOf_alike hZ.alike Ar32.2.1) Ar32.2.2 in32 at32 (g := (mkF m 9 #[.val (.ref x0), .val (.ref x1)] [(.int (2 : Int32)), (.ref ar), (.int (2 : Int32)), (.ref ar)])) rfl rfl (hb hby d5_9) _ (Steps.refl _)
    have pre32 := pre31.trans st32
    obtain ⟨v33, hv33⟩ : ∃ z : Int64, z = (cn2 + (1 : Int64)) := ⟨_, rfl⟩
    have st34 : Steps p.tables e below (T30.setTop (mkF m 10 #[.val (.ref x0), .val (.ref x1)] [(.long cn2), (.int (2 : Int32)), (.ref ar)])) (T30.setTop (mkF m 12 #[.val (.ref x0), .val (.ref x1)] [(.long v33), (.int (2 : Int32)), (.ref ar)])) := by
      subst v33
      refine XS.lconst X30.here hx rfl (hb hby d5_10) ?_
      show Steps p.tables e below (T30.setTop (mkF m 11 #[.val (.ref x0), .val (.ref x1)] [(.long (1 : Int64)), (.long cn2), (.int (2 : Int32)), (.ref ar)])) _
      refine XS.ladd X30.here hx rfl (hb hby d5_11) rfl ?_
      show Steps p.tables e below (T30.setTop (mkF m 12 #[.val (.ref x0), .val (.ref x1)] [(.long (cn2 + (1 : Int64))), (.int (2 : Int32)), (.ref ar)])) _
      exact Steps.refl _
    have pre34 := pre32.trans st34
    obtain ⟨cl35, Ar35, q35, S35, G35, H35, J35⟩ := id B1
    have in35 : ¬ ((2 : Int32) < 0 ∨ cl35.slots.size ≤ ((2 : Int32)).toNatClampNeg) := inb_of S35 ⟨by decide, by decide⟩
    obtain ⟨T35, h35, X35, e35, W35, st35⟩ := stJ X30 hx hZ e30 Ar35 (j := (2 : Int32)) in35 (g := (mkF m 12 #[.val (.ref x0), .val (.ref x1)] [(.long v33), (.int (2 : Int32)), (.ref ar)])) rfl rfl (hb hby d5_12)
    have pre35 : Steps p.tables e below (s₁.setTop (entryFrame m #[(.ref x0), (.ref x1)] 2)) (T35.setTop (mkF m 13 #[.val (.ref x0), .val (.ref x1)] [])) := pre34.trans (st35 _ (Steps.refl _))
    have F36 : Fld Z h35 x0 "com/example/evident_ledger/evidentledger/ExecutorVerdict$Tally" "counts" "[J" (.ref ar) := B0.other W35 (Or.inl ho)
    have F38 : Exa Z h35 x1 "com/example/evident_ledger/evidentledger/ExecutorVerdict" := B2.wr W35
    have F39 : Fld Z h35 x1 "java/lang/Enum" "ordinal" "I" (.int (2 : Int32)) := B3.other W35 (Or.inl hp)
    have K35 := K0.wr W35 (Or.inl (List.mem_of_getElem? (i := 0) rfl))
    have Z35 : n0 ≤ h35.size := Nat.le_trans Z0 (Keep.of_wr W35).1
    have V35 : Arv Z h35 ar kk .long (3 : Int32) [(.long cn0), (.long cn1), (.long v33)] (.long (0 : Int64)) := Arv.set Ar35 q35 S35 G35 H35 J35 rfl W35 2 rfl (Nat.le_of_ble_eq_true rfl)
    have N35 := Fr.snoc X35 N30 g_ar
    obtain ⟨fs, hr, hrun, hended, hW, hsame⟩ := X35.leave (v := none) (fun _ => rfl)
    refine ⟨_, _, pre35.trans ?_, hrun, hended, _, _, rfl, ?_, ⟨_, rfl⟩, hW, hsame.mono (by decide) (by decide)⟩
    · show Steps p.tables e below (T35.setTop (mkF m 13 #[.val (.ref x0), .val (.ref x1)] [])) _
      exact X35.returnOut hx Bd.returns (hb hby d5_13) hr
    · show Q5 Z x0 x1 ar kk cn0 cn1 cn2 (2 : Int32) h0 n0 _ T35.heap _
      rw [e35]
      have hup : [(Value.long (own_up cn0 (2 : Int32) (0 : Int32))), (Value.long (own_up cn1 (2 : Int32) (1 : Int32))), (Value.long (own_up cn2 (2 : Int32) (2 : Int32)))] = ([(Value.long cn0), (Value.long cn1), (Value.long v33)] : List Value) := by simp [own_up, hv33]
      exact ⟨rfl, N35, K35, by rw [hup]; exact V35⟩
theorem d6a_0 : decode prog_27_method_3_code 0 = .ok (.aload_n 0, 1) := by decide +kernel
theorem d6a_1 : decode prog_27_method_3_code 1 = .ok (.getfield 13, 3) := by decide +kernel
theorem d6a_4 : decode prog_27_method_3_code 4 = .ok (.aload_n 1, 1) := by decide +kernel
theorem d6a_5 : decode prog_27_method_3_code 5 = .ok (.invokevirtual 19, 3) := by decide +kernel
theorem d6a_8 : decode prog_27_method_3_code 8 = .ok (.laload, 1) := by decide +kernel
theorem d6a_9 : decode prog_27_method_3_code 9 = .ok (.lreturn, 1) := by decide +kernel
theorem pn6a : plainName "com/example/evident_ledger/evidentledger/ExecutorVerdict$Tally" = true := by first | (simp [plainName, overriddenIn]; done) | decide +kernel
theorem pd6a_0 : parseMethodDescriptor "()I" = some ⟨[], some .int⟩ := by decide +kernel
theorem ef6a (m : MethodId) (x0 : Addr) (x1 : Addr) : entryFrame m #[(.ref x0), (.ref x1)] 2 = mkF m 0 #[.val (.ref x0), .val (.ref x1)] [] := by first | (simp [entryFrame, mkF, argsToLocals, Value.category]; done) | rfl
def Q6a (Z : State) (x0 : Addr) (x1 : Addr) (ar : Addr) (kk : ClassId) (cn0 : Int64) (cn1 : Int64) (cn2 : Int64) (h0 : Heap) (n0 : Nat) (v : Option Value) (h : Heap) (L : List Loc) : Prop := v = some (.long cn0) ∧ Fr n0 L ∧ h = h0
set_option maxRecDepth 65536 in
set_option maxHeartbeats 40000000 in
theorem rm6a (l : Launch) (Z : State) (a0 : Array Value) (hw : ∀ d ∈ tables_1, d.before a0 Z = true) (ws : List Jvm.Cond) (x0 : Addr) (x1 : Addr) (ar : Addr) (kk : ClassId) (cn0 : Int64) (cn1 : Int64) (cn2 : Int64) (h0 : Heap) (n0 : Nat) (Z0 : n0 ≤ h0.size) (B0 : Fld Z h0 x0 "com/example/evident_ledger/evidentledger/ExecutorVerdict$Tally" "counts" "[J" (.ref ar)) (B1 : Arv Z h0 ar kk .long (3 : Int32) [(.long cn0), (.long cn1), (.long cn2)] (.long (0 : Int64))) (B2 : Exa Z h0 x1 "com/example/evident_ledger/evidentledger/ExecutorVerdict") (B3 : Fld Z h0 x1 "java/lang/Enum" "ordinal" "I" (.int (0 : Int32))) :
    MetFree l (⟨"com/example/evident_ledger/evidentledger/ExecutorVerdict$Tally", "of", "(Lcom/example/evident_ledger/evidentledger/ExecutorVerdict;)J"⟩ : MethodName) (head1 (Jvm.Cond.code (⟨"com/example/evident_ledger/evidentledger/ExecutorVerdict$Tally", "of", "(Lcom/example/evident_ledger/evidentledger/ExecutorVerdict;)J"⟩ : MethodName) prog_27_method_3_code 2 (some .long) :: ws) ({ frames := 1, cells := 0, slots := 0, locals := 13 } : Room)) (fun a U => a = #[(.ref x0), (.ref x1)] ∧ Z.Warmed39 U.vm ∧ U.heap = h0) (fun _ _ _ _ _ => True) (fun _ U o U' => ∃ v L, o = .returned v ∧ Q6a Z x0 x1 ar kk cn0 cn1 cn2 h0 n0 v U'.heap L ∧ FrameEnd U o U' L ({ frames := 1, cells := 0, slots := 0, locals := 13 } : Room).cells ({ frames := 1, cells := 0, slots := 0, locals := 13 } : Room).slots) := by
  refine MetFree.of_bodySF (plainFor_of_name pn6a) hisR ?_
  intro p e s m args below meth c s₁ Bd hml0 hP hK
  obtain ⟨rfl, hZ, hh⟩ := hP
  have hx := Bd.exec
  have hby := Bd.bytes
  have hml : c.maxLocals = 2 := hml0
  have hown : s.vm.findClass "com/example/evident_ledger/evidentledger/ExecutorVerdict$Tally" = some m.cls := findClass_of_methodNamed Bd.named
  have hnm := (name_of_methodNamed Bd.named Bd.method).1
  have X0 : Stand p l e ({ frames := 1, cells := 0, slots := 0, locals := 13 } : Room) s m #[(.ref x0), (.ref x1)] below meth c s₁ [] 0 0 := Stand.of_body Bd
  have e0 : s₁.heap = h0 := by rw [← hh, Bd.state]; rfl
  have N0 := Fr.nil n0
  have pre0 : Steps p.tables e below (s₁.setTop (entryFrame m #[(.ref x0), (.ref x1)] 2)) (s₁.setTop (mkF m 0 #[.val (.ref x0), .val (.ref x1)] [])) := castTop (ef6a m x0 x1) (Steps.refl _)
  have st1 : Steps p.tables e below (s₁.setTop (mkF m 0 #[.val (.ref x0), .val (.ref x1)] [])) (s₁.setTop (mkF m 1 #[.val (.ref x0), .val (.ref x1)] [(.ref x0)])) := by
    refine XS.aloadN X0.here hx rfl (hb hby d6a_0) rfl rfl ?_
    show Steps p.tables e below (s₁.setTop (mkF m 1 #[.val (.ref x0), .val (.ref x1)] [(.ref x0)])) _
    exact Steps.refl _
  have pre1 := pre0.trans st1
  obtain ⟨T2, X2, e2, st2⟩ := getF X0 hx hZ hown (host := "") (Or.inl (hw _ (List.mem_of_getElem? (i := 34) rfl))) Via.refl e0 B0 (g := (mkF m 1 #[.val (.ref x0), .val (.ref x1)] [(.ref x0)])) rfl rfl (hb hby d6a_1)
  have pre2 : Steps p.tables e below (s₁.setTop (entryFrame m #[(.ref x0), (.ref x1)] 2)) (T2.setTop (mkF m 4 #[.val (.ref x0), .val (.ref x1)] [(.ref ar)])) := pre1.trans (st2 _ (Steps.refl _))
  have st3 : Steps p.tables e below (T2.setTop (mkF m 4 #[.val (.ref x0), .val (.ref x1)] [(.ref ar)])) (T2.setTop (mkF m 5 #[.val (.ref x0), .val (.ref x1)] [(.ref x1), (.ref ar)])) := by
    refine XS.aloadN X2.here hx rfl (hb hby d6a_4) rfl rfl ?_
    show Steps p.tables e below (T2.setTop (mkF m 5 #[.val (.ref x0), .val (.ref x1)] [(.ref x1), (.ref ar)])) _
    exact Steps.refl _
  have pre3 := pre2.trans st3
  obtain ⟨cq4, kq4, q4a, q4b, q4c⟩ := isOf hZ e2 B2
  obtain ⟨_, _, ⟨T4, L4, k4, n4⟩, -, X4, ⟨Lc4, hQ4, l4, y4, z4⟩, st4⟩ := X2.virtualBackUp hx (owner := "java/lang/Enum") (x := (⟨"com/example/evident_ledger/evidentledger/ExecutorVerdict", "ordinal", "()I"⟩ : MethodName)) (y := (⟨"java/lang/Enum", "ordinal", "()I"⟩ : MethodName)) hown (mvT hZ (hw _ (List.mem_of_getElem? (i := 45) rfl))) (mvT hZ (hw _ (List.mem_of_getElem? (i := 46) rfl))) (mvT hZ (hw _ (List.mem_of_getElem? (i := 47) rfl))) (by decide) (mvT hZ (hw _ (List.mem_of_getElem? (i := 49) rfl))) (mvT hZ (hw _ (List.mem_of_getElem? (i := 48) rfl))) (backOf (W := 1) (rm2 l Z a0 hw [] x1 (0 : Int32) h0 n0 Z0 B3) hZ (hw _ (List.mem_of_getElem? (i := 51) rfl)) (hw _ (List.mem_of_getElem? (i := 50) rfl)) (by decide) (by decide)) q4a q4c (g := (mkF m 5 #[.val (.ref x0), .val (.ref x1)] [(.ref x1), (.ref ar)])) rfl (by rw [hml]; rfl) (Steps.refl _) (argsL := []) (rest := [(.ref ar)]) (lenOf pd6a_0 rfl) rfl (by show 2 * 0 + _ ≤ _; exact Nat.le_of_eq rfl) (hb hby d6a_5) (fun _ _ => ⟨rfl, e2, (by decide : 0 + 0 ≤ _), (by decide : 0 + 0 ≤ _)⟩)
  dsimp only [Pt.U, Pt.locs, Pt.cells, Pt.slots] at X4 l4 y4 z4 st4 hQ4
  subst l4 y4 z4
  obtain ⟨rfl, Nq4, e4⟩ := hQ4
  have N4 := Fr.app N0 Nq4
  have pre4 : Steps p.tables e below (s₁.setTop (entryFrame m #[(.ref x0), (.ref x1)] 2)) (T4.setTop (mkF m 8 #[.val (.ref x0), .val (.ref x1)] [(.int (0 : Int32)), (.ref ar)])) := pre3.trans st4
  obtain ⟨cl5, Ar5, q5, S5, G5, H5, J5⟩ := id B1
  have in5 : ¬ ((0 : Int32) < 0 ∨ cl5.slots.size ≤ ((0 : Int32)).toNatClampNeg) := inb_of S5 ⟨by decide, by decide⟩
  have at5 : cl5.slots[((0 : Int32)).toNatClampNeg]? = some (.long cn0) := Has.at H5 in5 rfl
  have st5 : Steps p.tables e below (T4.setTop (mkF m 8 #[.val (.ref x0), .val (.ref x1)] [(.int (0 : Int32)), (.ref ar)])) (T4.setTop (mkF m 9 #[.val (.ref x0), .val (.ref x1)] [(.long cn0)])) := X4.laload hx (j := (0 : Int32)) (v := (.long cn0)) (by rw [e4]; exact Ar5.1) (State.isArrayOf_alike hZ.alike Ar5.2.1) Ar5.2.2 in5 at5 (g := (mkF m 8 #[.val (.ref x0), .val (.ref x1)] [(.int (0 : Int32)), (.ref ar)])) rfl rfl (hb hby d6a_8) _ (Steps.refl _)
  have pre5 := pre4.trans st5
  obtain ⟨fs, hr, hrun, hended, hW, hsame⟩ := X4.leave (v := some (.long cn0)) (fun h => by rw [Bd.returns] at h; cases h)
  refine ⟨_, _, pre5.trans ?_, hrun, hended, _, _, rfl, ?_, ⟨_, rfl⟩, hW, hsame.mono (by decide) (by decide)⟩
  · show Steps p.tables e below (T4.setTop (mkF m 9 #[.val (.ref x0), .val (.ref x1)] [(.long cn0)])) _
    jvm_step X4.here [X4.here.top, hx, (hb hby d6a_9), X4.method', Bd.returns, narrow]
    first | (intro acts; rw [hr _ acts rfl rfl rfl]) | rw [hr _ _ rfl rfl rfl]
    exact Steps.refl _
  · show Q6a Z x0 x1 ar kk cn0 cn1 cn2 h0 n0 _ T4.heap _
    rw [e4]
    exact ⟨by rfl, N4, rfl⟩
theorem d6b_0 : decode prog_27_method_3_code 0 = .ok (.aload_n 0, 1) := by decide +kernel
theorem d6b_1 : decode prog_27_method_3_code 1 = .ok (.getfield 13, 3) := by decide +kernel
theorem d6b_4 : decode prog_27_method_3_code 4 = .ok (.aload_n 1, 1) := by decide +kernel
theorem d6b_5 : decode prog_27_method_3_code 5 = .ok (.invokevirtual 19, 3) := by decide +kernel
theorem d6b_8 : decode prog_27_method_3_code 8 = .ok (.laload, 1) := by decide +kernel
theorem d6b_9 : decode prog_27_method_3_code 9 = .ok (.lreturn, 1) := by decide +kernel
theorem pn6b : plainName "com/example/evident_ledger/evidentledger/ExecutorVerdict$Tally" = true := by first | (simp [plainName, overriddenIn]; done) | decide +kernel
theorem pd6b_0 : parseMethodDescriptor "()I" = some ⟨[], some .int⟩ := by decide +kernel
theorem ef6b (m : MethodId) (x0 : Addr) (x1 : Addr) : entryFrame m #[(.ref x0), (.ref x1)] 2 = mkF m 0 #[.val (.ref x0), .val (.ref x1)] [] := by first | (simp [entryFrame, mkF, argsToLocals, Value.category]; done) | rfl
def Q6b (Z : State) (x0 : Addr) (x1 : Addr) (ar : Addr) (kk : ClassId) (cn0 : Int64) (cn1 : Int64) (cn2 : Int64) (h0 : Heap) (n0 : Nat) (v : Option Value) (h : Heap) (L : List Loc) : Prop := v = some (.long cn1) ∧ Fr n0 L ∧ h = h0
set_option maxRecDepth 65536 in
set_option maxHeartbeats 40000000 in
theorem rm6b (l : Launch) (Z : State) (a0 : Array Value) (hw : ∀ d ∈ tables_1, d.before a0 Z = true) (ws : List Jvm.Cond) (x0 : Addr) (x1 : Addr) (ar : Addr) (kk : ClassId) (cn0 : Int64) (cn1 : Int64) (cn2 : Int64) (h0 : Heap) (n0 : Nat) (Z0 : n0 ≤ h0.size) (B0 : Fld Z h0 x0 "com/example/evident_ledger/evidentledger/ExecutorVerdict$Tally" "counts" "[J" (.ref ar)) (B1 : Arv Z h0 ar kk .long (3 : Int32) [(.long cn0), (.long cn1), (.long cn2)] (.long (0 : Int64))) (B2 : Exa Z h0 x1 "com/example/evident_ledger/evidentledger/ExecutorVerdict") (B3 : Fld Z h0 x1 "java/lang/Enum" "ordinal" "I" (.int (1 : Int32))) :
    MetFree l (⟨"com/example/evident_ledger/evidentledger/ExecutorVerdict$Tally", "of", "(Lcom/example/evident_ledger/evidentledger/ExecutorVerdict;)J"⟩ : MethodName) (head1 (Jvm.Cond.code (⟨"com/example/evident_ledger/evidentledger/ExecutorVerdict$Tally", "of", "(Lcom/example/evident_ledger/evidentledger/ExecutorVerdict;)J"⟩ : MethodName) prog_27_method_3_code 2 (some .long) :: ws) ({ frames := 1, cells := 0, slots := 0, locals := 13 } : Room)) (fun a U => a = #[(.ref x0), (.ref x1)] ∧ Z.Warmed39 U.vm ∧ U.heap = h0) (fun _ _ _ _ _ => True) (fun _ U o U' => ∃ v L, o = .returned v ∧ Q6b Z x0 x1 ar kk cn0 cn1 cn2 h0 n0 v U'.heap L ∧ FrameEnd U o U' L ({ frames := 1, cells := 0, slots := 0, locals := 13 } : Room).cells ({ frames := 1, cells := 0, slots := 0, locals := 13 } : Room).slots) := by
  refine MetFree.of_bodySF (plainFor_of_name pn6b) hisR ?_
  intro p e s m args below meth c s₁ Bd hml0 hP hK
  obtain ⟨rfl, hZ, hh⟩ := hP
  have hx := Bd.exec
  have hby := Bd.bytes
  have hml : c.maxLocals = 2 := hml0
  have hown : s.vm.findClass "com/example/evident_ledger/evidentledger/ExecutorVerdict$Tally" = some m.cls := findClass_of_methodNamed Bd.named
  have hnm := (name_of_methodNamed Bd.named Bd.method).1
  have X0 : Stand p l e ({ frames := 1, cells := 0, slots := 0, locals := 13 } : Room) s m #[(.ref x0), (.ref x1)] below meth c s₁ [] 0 0 := Stand.of_body Bd
  have e0 : s₁.heap = h0 := by rw [← hh, Bd.state]; rfl
  have N0 := Fr.nil n0
  have pre0 : Steps p.tables e below (s₁.setTop (entryFrame m #[(.ref x0), (.ref x1)] 2)) (s₁.setTop (mkF m 0 #[.val (.ref x0), .val (.ref x1)] [])) := castTop (ef6b m x0 x1) (Steps.refl _)
  have st1 : Steps p.tables e below (s₁.setTop (mkF m 0 #[.val (.ref x0), .val (.ref x1)] [])) (s₁.setTop (mkF m 1 #[.val (.ref x0), .val (.ref x1)] [(.ref x0)])) := by
    refine XS.aloadN X0.here hx rfl (hb hby d6b_0) rfl rfl ?_
    show Steps p.tables e below (s₁.setTop (mkF m 1 #[.val (.ref x0), .val (.ref x1)] [(.ref x0)])) _
    exact Steps.refl _
  have pre1 := pre0.trans st1
  obtain ⟨T2, X2, e2, st2⟩ := getF X0 hx hZ hown (host := "") (Or.inl (hw _ (List.mem_of_getElem? (i := 34) rfl))) Via.refl e0 B0 (g := (mkF m 1 #[.val (.ref x0), .val (.ref x1)] [(.ref x0)])) rfl rfl (hb hby d6b_1)
  have pre2 : Steps p.tables e below (s₁.setTop (entryFrame m #[(.ref x0), (.ref x1)] 2)) (T2.setTop (mkF m 4 #[.val (.ref x0), .val (.ref x1)] [(.ref ar)])) := pre1.trans (st2 _ (Steps.refl _))
  have st3 : Steps p.tables e below (T2.setTop (mkF m 4 #[.val (.ref x0), .val (.ref x1)] [(.ref ar)])) (T2.setTop (mkF m 5 #[.val (.ref x0), .val (.ref x1)] [(.ref x1), (.ref ar)])) := by
    refine XS.aloadN X2.here hx rfl (hb hby d6b_4) rfl rfl ?_
    show Steps p.tables e below (T2.setTop (mkF m 5 #[.val (.ref x0), .val (.ref x1)] [(.ref x1), (.ref ar)])) _
    exact Steps.refl _
  have pre3 := pre2.trans st3
  obtain ⟨cq4, kq4, q4a, q4b, q4c⟩ := isOf hZ e2 B2
  obtain ⟨_, _, ⟨T4, L4, k4, n4⟩, -, X4, ⟨Lc4, hQ4, l4, y4, z4⟩, st4⟩ := X2.virtualBackUp hx (owner := "java/lang/Enum") (x := (⟨"com/example/evident_ledger/evidentledger/ExecutorVerdict", "ordinal", "()I"⟩ : MethodName)) (y := (⟨"java/lang/Enum", "ordinal", "()I"⟩ : MethodName)) hown (mvT hZ (hw _ (List.mem_of_getElem? (i := 45) rfl))) (mvT hZ (hw _ (List.mem_of_getElem? (i := 46) rfl))) (mvT hZ (hw _ (List.mem_of_getElem? (i := 47) rfl))) (by decide) (mvT hZ (hw _ (List.mem_of_getElem? (i := 49) rfl))) (mvT hZ (hw _ (List.mem_of_getElem? (i := 48) rfl))) (backOf (W := 1) (rm2 l Z a0 hw [] x1 (1 : Int32) h0 n0 Z0 B3) hZ (hw _ (List.mem_of_getElem? (i := 51) rfl)) (hw _ (List.mem_of_getElem? (i := 50) rfl)) (by decide) (by decide)) q4a q4c (g := (mkF m 5 #[.val (.ref x0), .val (.ref x1)] [(.ref x1), (.ref ar)])) rfl (by rw [hml]; rfl) (Steps.refl _) (argsL := []) (rest := [(.ref ar)]) (lenOf pd6b_0 rfl) rfl (by show 2 * 0 + _ ≤ _; exact Nat.le_of_eq rfl) (hb hby d6b_5) (fun _ _ => ⟨rfl, e2, (by decide : 0 + 0 ≤ _), (by decide : 0 + 0 ≤ _)⟩)
  dsimp only [Pt.U, Pt.locs, Pt.cells, Pt.slots] at X4 l4 y4 z4 st4 hQ4
  subst l4 y4 z4
  obtain ⟨rfl, Nq4, e4⟩ := hQ4
  have N4 := Fr.app N0 Nq4
  have pre4 : Steps p.tables e below (s₁.setTop (entryFrame m #[(.ref x0), (.ref x1)] 2)) (T4.setTop (mkF m 8 #[.val (.ref x0), .val (.ref x1)] [(.int (1 : Int32)), (.ref ar)])) := pre3.trans st4
  obtain ⟨cl5, Ar5, q5, S5, G5, H5, J5⟩ := id B1
  have in5 : ¬ ((1 : Int32) < 0 ∨ cl5.slots.size ≤ ((1 : Int32)).toNatClampNeg) := inb_of S5 ⟨by decide, by decide⟩
  have at5 : cl5.slots[((1 : Int32)).toNatClampNeg]? = some (.long cn1) := Has.at H5 in5 rfl
  have st5 : Steps p.tables e below (T4.setTop (mkF m 8 #[.val (.ref x0), .val (.ref x1)] [(.int (1 : Int32)), (.ref ar)])) (T4.setTop (mkF m 9 #[.val (.ref x0), .val (.ref x1)] [(.long cn1)])) := X4.laload hx (j := (1 : Int32)) (v := (.long cn1)) (by rw [e4]; exact Ar5.1) (State.isArrayOf_alike hZ.alike Ar5.2.1) Ar5.2.2 in5 at5 (g := (mkF m 8 #[.val (.ref x0), .val (.ref x1)] [(.int (1 : Int32)), (.ref ar)])) rfl rfl (hb hby d6b_8) _ (Steps.refl _)
  have pre5 := pre4.trans st5
  obtain ⟨fs, hr, hrun, hended, hW, hsame⟩ := X4.leave (v := some (.long cn1)) (fun h => by rw [Bd.returns] at h; cases h)
  refine ⟨_, _, pre5.trans ?_, hrun, hended, _, _, rfl, ?_, ⟨_, rfl⟩, hW, hsame.mono (by decide) (by decide)⟩
  · show Steps p.tables e below (T4.setTop (mkF m 9 #[.val (.ref x0), .val (.ref x1)] [(.long cn1)])) _
    jvm_step X4.here [X4.here.top, hx, (hb hby d6b_9), X4.method', Bd.returns, narrow]
    first | (intro acts; rw [hr _ acts rfl rfl rfl]) | rw [hr _ _ rfl rfl rfl]
    exact Steps.refl _
  · show Q6b Z x0 x1 ar kk cn0 cn1 cn2 h0 n0 _ T4.heap _
    rw [e4]
    exact ⟨by rfl, N4, rfl⟩
theorem d6c_0 : decode prog_27_method_3_code 0 = .ok (.aload_n 0, 1) := by decide +kernel
theorem d6c_1 : decode prog_27_method_3_code 1 = .ok (.getfield 13, 3) := by decide +kernel
theorem d6c_4 : decode prog_27_method_3_code 4 = .ok (.aload_n 1, 1) := by decide +kernel
theorem d6c_5 : decode prog_27_method_3_code 5 = .ok (.invokevirtual 19, 3) := by decide +kernel
theorem d6c_8 : decode prog_27_method_3_code 8 = .ok (.laload, 1) := by decide +kernel
theorem d6c_9 : decode prog_27_method_3_code 9 = .ok (.lreturn, 1) := by decide +kernel
theorem pn6c : plainName "com/example/evident_ledger/evidentledger/ExecutorVerdict$Tally" = true := by first | (simp [plainName, overriddenIn]; done) | decide +kernel
theorem pd6c_0 : parseMethodDescriptor "()I" = some ⟨[], some .int⟩ := by decide +kernel
theorem ef6c (m : MethodId) (x0 : Addr) (x1 : Addr) : entryFrame m #[(.ref x0), (.ref x1)] 2 = mkF m 0 #[.val (.ref x0), .val (.ref x1)] [] := by first | (simp [entryFrame, mkF, argsToLocals, Value.category]; done) | rfl
def Q6c (Z : State) (x0 : Addr) (x1 : Addr) (ar : Addr) (kk : ClassId) (cn0 : Int64) (cn1 : Int64) (cn2 : Int64) (h0 : Heap) (n0 : Nat) (v : Option Value) (h : Heap) (L : List Loc) : Prop := v = some (.long cn2) ∧ Fr n0 L ∧ h = h0
set_option maxRecDepth 65536 in
set_option maxHeartbeats 40000000 in
theorem rm6c (l : Launch) (Z : State) (a0 : Array Value) (hw : ∀ d ∈ tables_1, d.before a0 Z = true) (ws : List Jvm.Cond) (x0 : Addr) (x1 : Addr) (ar : Addr) (kk : ClassId) (cn0 : Int64) (cn1 : Int64) (cn2 : Int64) (h0 : Heap) (n0 : Nat) (Z0 : n0 ≤ h0.size) (B0 : Fld Z h0 x0 "com/example/evident_ledger/evidentledger/ExecutorVerdict$Tally" "counts" "[J" (.ref ar)) (B1 : Arv Z h0 ar kk .long (3 : Int32) [(.long cn0), (.long cn1), (.long cn2)] (.long (0 : Int64))) (B2 : Exa Z h0 x1 "com/example/evident_ledger/evidentledger/ExecutorVerdict") (B3 : Fld Z h0 x1 "java/lang/Enum" "ordinal" "I" (.int (2 : Int32))) :
    MetFree l (⟨"com/example/evident_ledger/evidentledger/ExecutorVerdict$Tally", "of", "(Lcom/example/evident_ledger/evidentledger/ExecutorVerdict;)J"⟩ : MethodName) (head1 (Jvm.Cond.code (⟨"com/example/evident_ledger/evidentledger/ExecutorVerdict$Tally", "of", "(Lcom/example/evident_ledger/evidentledger/ExecutorVerdict;)J"⟩ : MethodName) prog_27_method_3_code 2 (some .long) :: ws) ({ frames := 1, cells := 0, slots := 0, locals := 13 } : Room)) (fun a U => a = #[(.ref x0), (.ref x1)] ∧ Z.Warmed39 U.vm ∧ U.heap = h0) (fun _ _ _ _ _ => True) (fun _ U o U' => ∃ v L, o = .returned v ∧ Q6c Z x0 x1 ar kk cn0 cn1 cn2 h0 n0 v U'.heap L ∧ FrameEnd U o U' L ({ frames := 1, cells := 0, slots := 0, locals := 13 } : Room).cells ({ frames := 1, cells := 0, slots := 0, locals := 13 } : Room).slots) := by
  refine MetFree.of_bodySF (plainFor_of_name pn6c) hisR ?_
  intro p e s m args below meth c s₁ Bd hml0 hP hK
  obtain ⟨rfl, hZ, hh⟩ := hP
  have hx := Bd.exec
  have hby := Bd.bytes
  have hml : c.maxLocals = 2 := hml0
  have hown : s.vm.findClass "com/example/evident_ledger/evidentledger/ExecutorVerdict$Tally" = some m.cls := findClass_of_methodNamed Bd.named
  have hnm := (name_of_methodNamed Bd.named Bd.method).1
  have X0 : Stand p l e ({ frames := 1, cells := 0, slots := 0, locals := 13 } : Room) s m #[(.ref x0), (.ref x1)] below meth c s₁ [] 0 0 := Stand.of_body Bd
  have e0 : s₁.heap = h0 := by rw [← hh, Bd.state]; rfl
  have N0 := Fr.nil n0
  have pre0 : Steps p.tables e below (s₁.setTop (entryFrame m #[(.ref x0), (.ref x1)] 2)) (s₁.setTop (mkF m 0 #[.val (.ref x0), .val (.ref x1)] [])) := castTop (ef6c m x0 x1) (Steps.refl _)
  have st1 : Steps p.tables e below (s₁.setTop (mkF m 0 #[.val (.ref x0), .val (.ref x1)] [])) (s₁.setTop (mkF m 1 #[.val (.ref x0), .val (.ref x1)] [(.ref x0)])) := by
    refine XS.aloadN X0.here hx rfl (hb hby d6c_0) rfl rfl ?_
    show Steps p.tables e below (s₁.setTop (mkF m 1 #[.val (.ref x0), .val (.ref x1)] [(.ref x0)])) _
    exact Steps.refl _
  have pre1 := pre0.trans st1
  obtain ⟨T2, X2, e2, st2⟩ := getF X0 hx hZ hown (host := "") (Or.inl (hw _ (List.mem_of_getElem? (i := 34) rfl))) Via.refl e0 B0 (g := (mkF m 1 #[.val (.ref x0), .val (.ref x1)] [(.ref x0)])) rfl rfl (hb hby d6c_1)
  have pre2 : Steps p.tables e below (s₁.setTop (entryFrame m #[(.ref x0), (.ref x1)] 2)) (T2.setTop (mkF m 4 #[.val (.ref x0), .val (.ref x1)] [(.ref ar)])) := pre1.trans (st2 _ (Steps.refl _))
  have st3 : Steps p.tables e below (T2.setTop (mkF m 4 #[.val (.ref x0), .val (.ref x1)] [(.ref ar)])) (T2.setTop (mkF m 5 #[.val (.ref x0), .val (.ref x1)] [(.ref x1), (.ref ar)])) := by
    refine XS.aloadN X2.here hx rfl (hb hby d6c_4) rfl rfl ?_
    show Steps p.tables e below (T2.setTop (mkF m 5 #[.val (.ref x0), .val (.ref x1)] [(.ref x1), (.ref ar)])) _
    exact Steps.refl _
  have pre3 := pre2.trans st3
  obtain ⟨cq4, kq4, q4a, q4b, q4c⟩ := isOf hZ e2 B2
  obtain ⟨_, _, ⟨T4, L4, k4, n4⟩, -, X4, ⟨Lc4, hQ4, l4, y4, z4⟩, st4⟩ := X2.virtualBackUp hx (owner := "java/lang/Enum") (x := (⟨"com/example/evident_ledger/evidentledger/ExecutorVerdict", "ordinal", "()I"⟩ : MethodName)) (y := (⟨"java/lang/Enum", "ordinal", "()I"⟩ : MethodName)) hown (mvT hZ (hw _ (List.mem_of_getElem? (i := 45) rfl))) (mvT hZ (hw _ (List.mem_of_getElem? (i := 46) rfl))) (mvT hZ (hw _ (List.mem_of_getElem? (i := 47) rfl))) (by decide) (mvT hZ (hw _ (List.mem_of_getElem? (i := 49) rfl))) (mvT hZ (hw _ (List.mem_of_getElem? (i := 48) rfl))) (backOf (W := 1) (rm2 l Z a0 hw [] x1 (2 : Int32) h0 n0 Z0 B3) hZ (hw _ (List.mem_of_getElem? (i := 51) rfl)) (hw _ (List.mem_of_getElem? (i := 50) rfl)) (by decide) (by decide)) q4a q4c (g := (mkF m 5 #[.val (.ref x0), .val (.ref x1)] [(.ref x1), (.ref ar)])) rfl (by rw [hml]; rfl) (Steps.refl _) (argsL := []) (rest := [(.ref ar)]) (lenOf pd6c_0 rfl) rfl (by show 2 * 0 + _ ≤ _; exact Nat.le_of_eq rfl) (hb hby d6c_5) (fun _ _ => ⟨rfl, e2, (by decide : 0 + 0 ≤ _), (by decide : 0 + 0 ≤ _)⟩)
  dsimp only [Pt.U, Pt.locs, Pt.cells, Pt.slots] at X4 l4 y4 z4 st4 hQ4
  subst l4 y4 z4
  obtain ⟨rfl, Nq4, e4⟩ := hQ4
  have N4 := Fr.app N0 Nq4
  have pre4 : Steps p.tables e below (s₁.setTop (entryFrame m #[(.ref x0), (.ref x1)] 2)) (T4.setTop (mkF m 8 #[.val (.ref x0), .val (.ref x1)] [(.int (2 : Int32)), (.ref ar)])) := pre3.trans st4
  obtain ⟨cl5, Ar5, q5, S5, G5, H5, J5⟩ := id B1
  have in5 : ¬ ((2 : Int32) < 0 ∨ cl5.slots.size ≤ ((2 : Int32)).toNatClampNeg) := inb_of S5 ⟨by decide, by decide⟩
  have at5 : cl5.slots[((2 : Int32)).toNatClampNeg]? = some (.long cn2) := Has.at H5 in5 rfl
  have st5 : Steps p.tables e below (T4.setTop (mkF m 8 #[.val (.ref x0), .val (.ref x1)] [(.int (2 : Int32)), (.ref ar)])) (T4.setTop (mkF m 9 #[.val (.ref x0), .val (.ref x1)] [(.long cn2)])) := X4.laload hx (j := (2 : Int32)) (v := (.long cn2)) (by rw [e4]; exact Ar5.1) (State.isArrayOf_alike hZ.alike Ar5.2.1) Ar5.2.2 in5 at5 (g := (mkF m 8 #[.val (.ref x0), .val (.ref x1)] [(.int (2 : Int32)), (.ref ar)])) rfl rfl (hb hby d6c_8) _ (Steps.refl _)
  have pre5 := pre4.trans st5
  obtain ⟨fs, hr, hrun, hended, hW, hsame⟩ := X4.leave (v := some (.long cn2)) (fun h => by rw [Bd.returns] at h; cases h)
  refine ⟨_, _, pre5.trans ?_, hrun, hended, _, _, rfl, ?_, ⟨_, rfl⟩, hW, hsame.mono (by decide) (by decide)⟩
  · show Steps p.tables e below (T4.setTop (mkF m 9 #[.val (.ref x0), .val (.ref x1)] [(.long cn2)])) _
    jvm_step X4.here [X4.here.top, hx, (hb hby d6c_9), X4.method', Bd.returns, narrow]
    first | (intro acts; rw [hr _ acts rfl rfl rfl]) | rw [hr _ _ rfl rfl rfl]
    exact Steps.refl _
  · show Q6c Z x0 x1 ar kk cn0 cn1 cn2 h0 n0 _ T4.heap _
    rw [e4]
    exact ⟨by rfl, N4, rfl⟩
theorem d7_0 : decode method_3_code 0 = .ok (.iload_n 0, 1) := by decide +kernel
theorem d7_1 : decode method_3_code 1 = .ok (.ifCond .ne 7, 3) := by decide +kernel
theorem d7_4 : decode method_3_code 4 = .ok (.getstatic 8, 3) := by decide +kernel
theorem d7_7 : decode method_3_code 7 = .ok (.areturn, 1) := by decide +kernel
theorem d7_8 : decode method_3_code 8 = .ok (.iload_n 0, 1) := by decide +kernel
theorem d7_9 : decode method_3_code 9 = .ok (.iconst 1, 1) := by decide +kernel
theorem d7_10 : decode method_3_code 10 = .ok (.if_icmp .ne 7, 3) := by decide +kernel
theorem d7_13 : decode method_3_code 13 = .ok (.getstatic 14, 3) := by decide +kernel
theorem d7_16 : decode method_3_code 16 = .ok (.areturn, 1) := by decide +kernel
theorem d7_17 : decode method_3_code 17 = .ok (.getstatic 17, 3) := by decide +kernel
theorem d7_20 : decode method_3_code 20 = .ok (.areturn, 1) := by decide +kernel
theorem pn7 : plainName "com/example/evident_ledger/evidentledger/TallyCountPinLaw" = true := by first | (simp [plainName, overriddenIn]; done) | decide +kernel
theorem ef7 (m : MethodId) (x0 : Int32) : entryFrame m #[(.int x0)] 1 = mkF m 0 #[.val (.int x0)] [] := by first | (simp [entryFrame, mkF, argsToLocals, Value.category]; done) | rfl
def Q7 (Z : State) (x0 : Int32) (aA : Addr) (aU : Addr) (aB : Addr) (h0 : Heap) (n0 : Nat) (v : Option Value) (h : Heap) (L : List Loc) : Prop := ∃ (rr : Addr), v = some (.ref rr) ∧ Fr n0 L ∧ Keep h0 h [] ∧ Exa Z h rr "com/example/evident_ledger/evidentledger/ExecutorVerdict" ∧ Fld Z h rr "java/lang/Enum" "ordinal" "I" (.int x0) ∧ (rr = aA ∨ rr = aU ∨ rr = aB)
set_option maxRecDepth 65536 in
set_option maxHeartbeats 40000000 in
theorem rm7 (l : Launch) (Z : State) (a0 : Array Value) (hw : ∀ d ∈ tables_1, d.before a0 Z = true) (ws : List Jvm.Cond) (x0 : Int32) (aA : Addr) (aU : Addr) (aB : Addr) (h0 : Heap) (n0 : Nat) (Z0 : n0 ≤ h0.size) (O0 : Old Z n0 h0) (B0 : Exa Z h0 aA "com/example/evident_ledger/evidentledger/ExecutorVerdict") (B1 : Exa Z h0 aU "com/example/evident_ledger/evidentledger/ExecutorVerdict") (B2 : Exa Z h0 aB "com/example/evident_ledger/evidentledger/ExecutorVerdict") (B3 : Fld Z h0 aA "java/lang/Enum" "ordinal" "I" (.int (0 : Int32))) (B4 : Fld Z h0 aU "java/lang/Enum" "ordinal" "I" (.int (1 : Int32))) (B5 : Fld Z h0 aB "java/lang/Enum" "ordinal" "I" (.int (2 : Int32))) (S_A : Sta Z Z.heap "com/example/evident_ledger/evidentledger/ExecutorVerdict" "ATTESTED" "Lcom/example/evident_ledger/evidentledger/ExecutorVerdict;" (.ref aA)) (S_U : Sta Z Z.heap "com/example/evident_ledger/evidentledger/ExecutorVerdict" "UNATTESTED" "Lcom/example/evident_ledger/evidentledger/ExecutorVerdict;" (.ref aU)) (S_B : Sta Z Z.heap "com/example/evident_ledger/evidentledger/ExecutorVerdict" "ABSENT" "Lcom/example/evident_ledger/evidentledger/ExecutorVerdict;" (.ref aB)) (hk : x0 = (0 : Int32) ∨ x0 = (1 : Int32) ∨ x0 = (2 : Int32)) :
    MetFree l (⟨"com/example/evident_ledger/evidentledger/TallyCountPinLaw", "verdict", "(I)Lcom/example/evident_ledger/evidentledger/ExecutorVerdict;"⟩ : MethodName) (head1 (Jvm.Cond.code (⟨"com/example/evident_ledger/evidentledger/TallyCountPinLaw", "verdict", "(I)Lcom/example/evident_ledger/evidentledger/ExecutorVerdict;"⟩ : MethodName) method_3_code 1 (some (.object "com/example/evident_ledger/evidentledger/ExecutorVerdict")) :: ws) ({ frames := 0, cells := 0, slots := 0, locals := 0 } : Room)) (fun a U => a = #[(.int x0)] ∧ Z.Warmed39 U.vm ∧ U.heap = h0) (fun _ _ _ _ _ => True) (fun _ U o U' => ∃ v L, o = .returned v ∧ Q7 Z x0 aA aU aB h0 n0 v U'.heap L ∧ FrameEnd U o U' L ({ frames := 0, cells := 0, slots := 0, locals := 0 } : Room).cells ({ frames := 0, cells := 0, slots := 0, locals := 0 } : Room).slots) := by
  refine MetFree.of_bodySF (plainFor_of_name pn7) hisR ?_
  intro p e s m args below meth c s₁ Bd hml0 hP hK
  obtain ⟨rfl, hZ, hh⟩ := hP
  have hx := Bd.exec
  have hby := Bd.bytes
  have hml : c.maxLocals = 1 := hml0
  have hown : s.vm.findClass "com/example/evident_ledger/evidentledger/TallyCountPinLaw" = some m.cls := findClass_of_methodNamed Bd.named
  have hnm := (name_of_methodNamed Bd.named Bd.method).1
  have X0 : Stand p l e ({ frames := 0, cells := 0, slots := 0, locals := 0 } : Room) s m #[(.int x0)] below meth c s₁ [] 0 0 := Stand.of_body Bd
  have e0 : s₁.heap = h0 := by rw [← hh, Bd.state]; rfl
  have N0 := Fr.nil n0
  have pre0 : Steps p.tables e below (s₁.setTop (entryFrame m #[(.int x0)] 1)) (s₁.setTop (mkF m 0 #[.val (.int x0)] [])) := castTop (ef7 m x0) (Steps.refl _)
  have K0 := Keep.refl h0 []
  have st1 : Steps p.tables e below (s₁.setTop (mkF m 0 #[.val (.int x0)] [])) (s₁.setTop (mkF m 1 #[.val (.int x0)] [(.int x0)])) := by
    refine XS.iloadN X0.here hx rfl (hb hby d7_0) rfl ?_
    show Steps p.tables e below (s₁.setTop (mkF m 1 #[.val (.int x0)] [(.int x0)])) _
    exact Steps.refl _
  have pre1 := pre0.trans st1
  by_cases hc1 : x0 = (0 : Int32)
  · have st2 : Steps p.tables e below (s₁.setTop (mkF m 1 #[.val (.int x0)] [(.int x0)])) (s₁.setTop (mkF m 4 #[.val (.int x0)] [])) := by
      refine XS.ifNo X0.here hx rfl (hb hby d7_1) rfl ((if0 _ _).trans (teq hc1).2) ?_
      exact Steps.refl _
    have pre2 := pre1.trans st2
    obtain ⟨T3, X3, e3, st3⟩ := getS2 X0 hx hZ hown (host := "") (Or.inl (hw _ (List.mem_of_getElem? (i := 39) rfl))) Via.refl e0 (S_A.ext O0.2) (g := (mkF m 4 #[.val (.int x0)] [])) rfl (hb hby d7_4)
    have pre3 : Steps p.tables e below (s₁.setTop (entryFrame m #[(.int x0)] 1)) (T3.setTop (mkF m 7 #[.val (.int x0)] [(.ref aA)])) := pre2.trans (st3 _ (Steps.refl _))
    obtain ⟨fs, hr, hrun, hended, hW, hsame⟩ := X3.leave (v := some (.ref aA)) (fun h => by rw [Bd.returns] at h; cases h)
    refine ⟨_, _, pre3.trans ?_, hrun, hended, _, _, rfl, ?_, ⟨_, rfl⟩, hW, hsame.mono (by decide) (by decide)⟩
    · show Steps p.tables e below (T3.setTop (mkF m 7 #[.val (.int x0)] [(.ref aA)])) _
      jvm_step X3.here [X3.here.top, hx, (hb hby d7_7), X3.method', Bd.returns, Value.isRef, FieldType.isReference]
      first | (intro acts; rw [hr _ acts rfl rfl rfl]) | rw [hr _ _ rfl rfl rfl]
      exact Steps.refl _
    · show Q7 Z x0 aA aU aB h0 n0 _ T3.heap _
      rw [e3]
      subst hc1
      exact ⟨aA, rfl, N0, K0, B0, B3, Or.inl rfl⟩
  · have st4 : Steps p.tables e below (s₁.setTop (mkF m 1 #[.val (.int x0)] [(.int x0)])) (s₁.setTop (mkF m 8 #[.val (.int x0)] [])) := by
      refine XS.ifYes X0.here hx rfl (pc0 := 1) (pc' := 8) rfl (hb hby d7_1) rfl ((if0 _ _).trans (feq hc1).2) (by decide) (by decide) ?_
      exact Steps.refl _
    have pre4 := pre1.trans st4
    have st5 : Steps p.tables e below (s₁.setTop (mkF m 8 #[.val (.int x0)] [])) (s₁.setTop (mkF m 10 #[.val (.int x0)] [(.int (1 : Int32)), (.int x0)])) := by
      refine XS.iloadN X0.here hx rfl (hb hby d7_8) rfl ?_
      show Steps p.tables e below (s₁.setTop (mkF m 9 #[.val (.int x0)] [(.int x0)])) _
      refine XS.iconst X0.here hx rfl (hb hby d7_9) ?_
      show Steps p.tables e below (s₁.setTop (mkF m 10 #[.val (.int x0)] [(.int (1 : Int32)), (.int x0)])) _
      exact Steps.refl _
    have pre5 := pre4.trans st5
    by_cases hc10 : x0 = (1 : Int32)
    · have st6 : Steps p.tables e below (s₁.setTop (mkF m 10 #[.val (.int x0)] [(.int (1 : Int32)), (.int x0)])) (s₁.setTop (mkF m 13 #[.val (.int x0)] [])) := by
        refine XS.icmpNo X0.here hx rfl (hb hby d7_10) rfl (teq hc10).2 ?_
        exact Steps.refl _
      have pre6 := pre5.trans st6
      obtain ⟨T7, X7, e7, st7⟩ := getS2 X0 hx hZ hown (host := "") (Or.inl (hw _ (List.mem_of_getElem? (i := 54) rfl))) Via.refl e0 (S_U.ext O0.2) (g := (mkF m 13 #[.val (.int x0)] [])) rfl (hb hby d7_13)
      have pre7 : Steps p.tables e below (s₁.setTop (entryFrame m #[(.int x0)] 1)) (T7.setTop (mkF m 16 #[.val (.int x0)] [(.ref aU)])) := pre6.trans (st7 _ (Steps.refl _))
      obtain ⟨fs, hr, hrun, hended, hW, hsame⟩ := X7.leave (v := some (.ref aU)) (fun h => by rw [Bd.returns] at h; cases h)
      refine ⟨_, _, pre7.trans ?_, hrun, hended, _, _, rfl, ?_, ⟨_, rfl⟩, hW, hsame.mono (by decide) (by decide)⟩
      · show Steps p.tables e below (T7.setTop (mkF m 16 #[.val (.int x0)] [(.ref aU)])) _
        jvm_step X7.here [X7.here.top, hx, (hb hby d7_16), X7.method', Bd.returns, Value.isRef, FieldType.isReference]
        first | (intro acts; rw [hr _ acts rfl rfl rfl]) | rw [hr _ _ rfl rfl rfl]
        exact Steps.refl _
      · show Q7 Z x0 aA aU aB h0 n0 _ T7.heap _
        rw [e7]
        subst hc10
        exact ⟨aU, rfl, N0, K0, B1, B4, Or.inr (Or.inl rfl)⟩
    · have st8 : Steps p.tables e below (s₁.setTop (mkF m 10 #[.val (.int x0)] [(.int (1 : Int32)), (.int x0)])) (s₁.setTop (mkF m 17 #[.val (.int x0)] [])) := by
        refine XS.icmpYes X0.here hx rfl (pc0 := 10) (pc' := 17) rfl (hb hby d7_10) rfl (feq hc10).2 (by decide) (by decide) ?_
        exact Steps.refl _
      have pre8 := pre5.trans st8
      obtain ⟨T9, X9, e9, st9⟩ := getS2 X0 hx hZ hown (host := "") (Or.inl (hw _ (List.mem_of_getElem? (i := 55) rfl))) Via.refl e0 (S_B.ext O0.2) (g := (mkF m 17 #[.val (.int x0)] [])) rfl (hb hby d7_17)
      have pre9 : Steps p.tables e below (s₁.setTop (entryFrame m #[(.int x0)] 1)) (T9.setTop (mkF m 20 #[.val (.int x0)] [(.ref aB)])) := pre8.trans (st9 _ (Steps.refl _))
      obtain ⟨fs, hr, hrun, hended, hW, hsame⟩ := X9.leave (v := some (.ref aB)) (fun h => by rw [Bd.returns] at h; cases h)
      refine ⟨_, _, pre9.trans ?_, hrun, hended, _, _, rfl, ?_, ⟨_, rfl⟩, hW, hsame.mono (by decide) (by decide)⟩
      · show Steps p.tables e below (T9.setTop (mkF m 20 #[.val (.int x0)] [(.ref aB)])) _
        jvm_step X9.here [X9.here.top, hx, (hb hby d7_20), X9.method', Bd.returns, Value.isRef, FieldType.isReference]
        first | (intro acts; rw [hr _ acts rfl rfl rfl]) | rw [hr _ _ rfl rfl rfl]
        exact Steps.refl _
      · show Q7 Z x0 aA aU aB h0 n0 _ T9.heap _
        rw [e9]
        obtain rfl : x0 = (2 : Int32) := hk.elim (fun h => absurd h hc1) (fun h => h.elim (fun h => absurd h hc10) id)
        exact ⟨aB, rfl, N0, K0, B2, B5, Or.inr (Or.inr rfl)⟩
theorem d8_0 : decode method_4_code 0 = .ok (.iload_n 2, 1) := by decide +kernel
theorem d8_1 : decode method_4_code 1 = .ok (.ifCond .eq 12, 3) := by decide +kernel
theorem d8_4 : decode method_4_code 4 = .ok (.iload_n 0, 1) := by decide +kernel
theorem d8_5 : decode method_4_code 5 = .ok (.iload_n 1, 1) := by decide +kernel
theorem d8_6 : decode method_4_code 6 = .ok (.if_icmp .ne 7, 3) := by decide +kernel
theorem d8_9 : decode method_4_code 9 = .ok (.lconst 1, 1) := by decide +kernel
theorem d8_10 : decode method_4_code 10 = .ok (.goto 4, 3) := by decide +kernel
theorem d8_13 : decode method_4_code 13 = .ok (.lconst 0, 1) := by decide +kernel
theorem d8_14 : decode method_4_code 14 = .ok (.lreturn, 1) := by decide +kernel
theorem pn8 : plainName "com/example/evident_ledger/evidentledger/TallyCountPinLaw" = true := by first | (simp [plainName, overriddenIn]; done) | decide +kernel
theorem ef8 (m : MethodId) (x0 : Int32) (x1 : Int32) (x2 : Int32) : entryFrame m #[(.int x0), (.int x1), (.int x2)] 3 = mkF m 0 #[.val (.int x0), .val (.int x1), .val (.int x2)] [] := by first | (simp [entryFrame, mkF, argsToLocals, Value.category]; done) | rfl
def own_F8 (x0 : Int32) (x1 : Int32) (x2 : Int32) : Int64 := (if x2 = (0 : Int32) then (0 : Int64) else (if x0 = x1 then (1 : Int64) else (0 : Int64)))
def Q8 (Z : State) (x0 : Int32) (x1 : Int32) (x2 : Int32) (h0 : Heap) (n0 : Nat) (v : Option Value) (h : Heap) (L : List Loc) : Prop := v = some (.long (own_F8 x0 x1 x2)) ∧ Fr n0 L ∧ h = h0
set_option maxRecDepth 65536 in
set_option maxHeartbeats 40000000 in
theorem rm8 (l : Launch) (Z : State) (a0 : Array Value) (hw : ∀ d ∈ tables_1, d.before a0 Z = true) (ws : List Jvm.Cond) (x0 : Int32) (x1 : Int32) (x2 : Int32) (h0 : Heap) (n0 : Nat) (Z0 : n0 ≤ h0.size) :
    MetFree l (⟨"com/example/evident_ledger/evidentledger/TallyCountPinLaw", "hit", "(IIZ)J"⟩ : MethodName) (head1 (Jvm.Cond.code (⟨"com/example/evident_ledger/evidentledger/TallyCountPinLaw", "hit", "(IIZ)J"⟩ : MethodName) method_4_code 3 (some .long) :: ws) ({ frames := 0, cells := 0, slots := 0, locals := 0 } : Room)) (fun a U => a = #[(.int x0), (.int x1), (.int x2)] ∧ Z.Warmed39 U.vm ∧ U.heap = h0) (fun _ _ _ _ _ => True) (fun _ U o U' => ∃ v L, o = .returned v ∧ Q8 Z x0 x1 x2 h0 n0 v U'.heap L ∧ FrameEnd U o U' L ({ frames := 0, cells := 0, slots := 0, locals := 0 } : Room).cells ({ frames := 0, cells := 0, slots := 0, locals := 0 } : Room).slots) := by
  refine MetFree.of_bodySF (plainFor_of_name pn8) hisR ?_
  intro p e s m args below meth c s₁ Bd hml0 hP hK
  obtain ⟨rfl, hZ, hh⟩ := hP
  have hx := Bd.exec
  have hby := Bd.bytes
  have hml : c.maxLocals = 3 := hml0
  have hown : s.vm.findClass "com/example/evident_ledger/evidentledger/TallyCountPinLaw" = some m.cls := findClass_of_methodNamed Bd.named
  have hnm := (name_of_methodNamed Bd.named Bd.method).1
  have X0 : Stand p l e ({ frames := 0, cells := 0, slots := 0, locals := 0 } : Room) s m #[(.int x0), (.int x1), (.int x2)] below meth c s₁ [] 0 0 := Stand.of_body Bd
  have e0 : s₁.heap = h0 := by rw [← hh, Bd.state]; rfl
  have N0 := Fr.nil n0
  have pre0 : Steps p.tables e below (s₁.setTop (entryFrame m #[(.int x0), (.int x1), (.int x2)] 3)) (s₁.setTop (mkF m 0 #[.val (.int x0), .val (.int x1), .val (.int x2)] [])) := castTop (ef8 m x0 x1 x2) (Steps.refl _)
  obtain ⟨v1, hv1⟩ : ∃ z : Int64, z = (if x2 = (0 : Int32) then (0 : Int64) else (if x0 = x1 then (1 : Int64) else (0 : Int64))) := ⟨_, rfl⟩
  have st2 : Steps p.tables e below (s₁.setTop (mkF m 0 #[.val (.int x0), .val (.int x1), .val (.int x2)] [])) (s₁.setTop (mkF m 14 #[.val (.int x0), .val (.int x1), .val (.int x2)] [(.long v1)])) := by
    subst v1
    refine XS.iloadN X0.here hx rfl (hb hby d8_0) rfl ?_
    show Steps p.tables e below (s₁.setTop (mkF m 1 #[.val (.int x0), .val (.int x1), .val (.int x2)] [(.int x2)])) _
    refine Steps.trans (s₂ := s₁.setTop (mkF m 14 #[.val (.int x0), .val (.int x1), .val (.int x2)] [(.long (if x2 = (0 : Int32) then (0 : Int64) else (if x0 = x1 then (1 : Int64) else (0 : Int64))))])) ?_ ?_
    · by_cases hc1 : x2 = (0 : Int32)
      · refine XS.ifYes X0.here hx rfl (pc0 := 1) (pc' := 13) rfl (hb hby d8_1) rfl ((if0 _ _).trans (teq hc1).1) (by decide) (by decide) ?_
        show Steps p.tables e below (s₁.setTop (mkF m 13 #[.val (.int x0), .val (.int x1), .val (.int x2)] [])) _
        refine XS.lconst X0.here hx rfl (hb hby d8_13) ?_
        show Steps p.tables e below (s₁.setTop (mkF m 14 #[.val (.int x0), .val (.int x1), .val (.int x2)] [(.long (0 : Int64))])) _
        try simp only [if_pos hc1]
        exact Steps.refl _
      · refine XS.ifNo X0.here hx rfl (hb hby d8_1) rfl ((if0 _ _).trans (feq hc1).1) ?_
        show Steps p.tables e below (s₁.setTop (mkF m 4 #[.val (.int x0), .val (.int x1), .val (.int x2)] [])) _
        refine XS.iloadN X0.here hx rfl (hb hby d8_4) rfl ?_
        show Steps p.tables e below (s₁.setTop (mkF m 5 #[.val (.int x0), .val (.int x1), .val (.int x2)] [(.int x0)])) _
        refine XS.iloadN X0.here hx rfl (hb hby d8_5) rfl ?_
        show Steps p.tables e below (s₁.setTop (mkF m 6 #[.val (.int x0), .val (.int x1), .val (.int x2)] [(.int x1), (.int x0)])) _
        refine Steps.trans (s₂ := s₁.setTop (mkF m 14 #[.val (.int x0), .val (.int x1), .val (.int x2)] [(.long (if x0 = x1 then (1 : Int64) else (0 : Int64)))])) ?_ ?_
        · by_cases hc6 : x0 = x1
          · refine XS.icmpNo X0.here hx rfl (hb hby d8_6) rfl (teq hc6).2 ?_
            show Steps p.tables e below (s₁.setTop (mkF m 9 #[.val (.int x0), .val (.int x1), .val (.int x2)] [])) _
            refine XS.lconst X0.here hx rfl (hb hby d8_9) ?_
            show Steps p.tables e below (s₁.setTop (mkF m 10 #[.val (.int x0), .val (.int x1), .val (.int x2)] [(.long (1 : Int64))])) _
            refine XS.goto X0.here hx rfl (pc0 := 10) (pc' := 14) rfl (hb hby d8_10) (by decide) (by decide) ?_
            show Steps p.tables e below (s₁.setTop (mkF m 14 #[.val (.int x0), .val (.int x1), .val (.int x2)] [(.long (1 : Int64))])) _
            try simp only [if_pos hc6]
            exact Steps.refl _
          · refine XS.icmpYes X0.here hx rfl (pc0 := 6) (pc' := 13) rfl (hb hby d8_6) rfl (feq hc6).2 (by decide) (by decide) ?_
            show Steps p.tables e below (s₁.setTop (mkF m 13 #[.val (.int x0), .val (.int x1), .val (.int x2)] [])) _
            refine XS.lconst X0.here hx rfl (hb hby d8_13) ?_
            show Steps p.tables e below (s₁.setTop (mkF m 14 #[.val (.int x0), .val (.int x1), .val (.int x2)] [(.long (0 : Int64))])) _
            try simp only [if_neg hc6]
            exact Steps.refl _
        show Steps p.tables e below (s₁.setTop (mkF m 14 #[.val (.int x0), .val (.int x1), .val (.int x2)] [(.long (if x0 = x1 then (1 : Int64) else (0 : Int64)))])) _
        try simp only [if_neg hc1]
        exact Steps.refl _
    show Steps p.tables e below (s₁.setTop (mkF m 14 #[.val (.int x0), .val (.int x1), .val (.int x2)] [(.long (if x2 = (0 : Int32) then (0 : Int64) else (if x0 = x1 then (1 : Int64) else (0 : Int64))))])) _
    exact Steps.refl _
  have pre2 := pre0.trans st2
  obtain ⟨fs, hr, hrun, hended, hW, hsame⟩ := X0.leave (v := some (.long v1)) (fun h => by rw [Bd.returns] at h; cases h)
  refine ⟨_, _, pre2.trans ?_, hrun, hended, _, _, rfl, ?_, ⟨_, rfl⟩, hW, hsame.mono (by decide) (by decide)⟩
  · show Steps p.tables e below (s₁.setTop (mkF m 14 #[.val (.int x0), .val (.int x1), .val (.int x2)] [(.long v1)])) _
    jvm_step X0.here [X0.here.top, hx, (hb hby d8_14), X0.method', Bd.returns, narrow]
    first | (intro acts; rw [hr _ acts rfl rfl rfl]) | rw [hr _ _ rfl rfl rfl]
    exact Steps.refl _
  · show Q8 Z x0 x1 x2 h0 n0 _ s₁.heap _
    rw [e0]
    have hF : own_F8 x0 x1 x2 = v1 := by
      subst v1
      simp only [own_F8]
    exact ⟨by rw [hF], N0, rfl⟩
theorem own_kind {x v : Int32} (h : v = own_F1 x) : v = (0 : Int32) ∨ v = (1 : Int32) ∨ v = (2 : Int32) := by
  have q := own_mask x
  have r := (c_irem (x &&& (2147483647 : Int32)) (3 : Int32) 3 (by decide)).1 q.1
  have e0 : (0 : Int32).toInt = 0 := by decide
  have e1 : (1 : Int32).toInt = 1 := by decide
  have e2 : (2 : Int32).toInt = 2 := by decide
  have h' : v = ((x &&& (2147483647 : Int32)) % (3 : Int32)) := h
  rw [← h'] at r
  rw [← Int32.toInt_inj, ← Int32.toInt_inj, ← Int32.toInt_inj]
  omega
theorem own_st (v : Int64) (k j : Int32) (c : Prop) [Decidable c] : (if c then own_up v k j else v) = v + own_F8 k j (if c then (1 : Int32) else (0 : Int32)) := by
  have z : v + (0 : Int64) = v := by simp
  by_cases h : c
  · by_cases g : k = j
    · simp only [if_pos h, own_up, own_F8, if_pos g]; rfl
    · simp only [if_pos h, own_up, own_F8, if_neg g]; exact z.symm
  · simp only [if_neg h, own_F8, if_true]; exact z.symm
theorem pn0 : plainName "com/example/evident_ledger/evidentledger/TallyCountPinLaw" = true := by first | (simp [plainName, overriddenIn]; done) | decide +kernel
theorem pd0_0 : parseMethodDescriptor "(I)I" = some ⟨[.int], some .int⟩ := by decide +kernel
theorem pd0_1 : parseMethodDescriptor "()V" = some ⟨[], none⟩ := by decide +kernel
theorem pd0_2 : parseMethodDescriptor "(I)Lcom/example/evident_ledger/evidentledger/ExecutorVerdict;" = some ⟨[.int], some (.object "com/example/evident_ledger/evidentledger/ExecutorVerdict")⟩ := by decide +kernel
theorem pd0_3 : parseMethodDescriptor "(Lcom/example/evident_ledger/evidentledger/ExecutorVerdict;)V" = some ⟨[(.object "com/example/evident_ledger/evidentledger/ExecutorVerdict")], none⟩ := by decide +kernel
theorem pd0_4 : parseMethodDescriptor "(IIZ)J" = some ⟨[.int, .int, .boolean], some .long⟩ := by decide +kernel
theorem pd0_5 : parseMethodDescriptor "(Lcom/example/evident_ledger/evidentledger/ExecutorVerdict;)J" = some ⟨[(.object "com/example/evident_ledger/evidentledger/ExecutorVerdict")], some .long⟩ := by decide +kernel
theorem ef0 (m : MethodId) (x0 : Int32) (x1 : Int32) (x2 : Int32) (x3 : Int32) (x4 : Int32) : entryFrame m #[(.int x0), (.int x1), (.int x2), (.int x3), (.int x4)] maxLocals = mkF m 0 #[.val (.int x0), .val (.int x1), .val (.int x2), .val (.int x3), .val (.int x4), .unset, .unset, .unset, .unset, .unset, .unset, .unset, .unset, .unset, .unset, .unset, .unset] [] := by first | (simp [entryFrame, mkF, argsToLocals, Value.category, maxLocals]; done) | rfl
def Q0 (Z : State) (x0 : Int32) (x1 : Int32) (x2 : Int32) (x3 : Int32) (x4 : Int32) (aV : Addr) (aA : Addr) (aU : Addr) (aB : Addr) (kV : ClassId) (h0 : Heap) (n0 : Nat) (v : Option Value) (h : Heap) (L : List Loc) : Prop := v = some (.int 1) ∧ Fr n0 L
set_option maxRecDepth 65536 in
set_option maxHeartbeats 40000000 in
theorem rm0 (l : Launch) (Z : State) (a0 : Array Value) (hw : ∀ d ∈ tables_1, d.before a0 Z = true) (ws : List Jvm.Cond) (x0 : Int32) (x1 : Int32) (x2 : Int32) (x3 : Int32) (x4 : Int32) (aV : Addr) (aA : Addr) (aU : Addr) (aB : Addr) (kV : ClassId) (h0 : Heap) (n0 : Nat) (Z0 : n0 ≤ h0.size) (O0 : Old Z n0 h0) (B0 : Exa Z h0 aV "[Lcom/example/evident_ledger/evidentledger/ExecutorVerdict;") (B1 : Exa Z h0 aA "com/example/evident_ledger/evidentledger/ExecutorVerdict") (B2 : Exa Z h0 aU "com/example/evident_ledger/evidentledger/ExecutorVerdict") (B3 : Exa Z h0 aB "com/example/evident_ledger/evidentledger/ExecutorVerdict") (B4 : Fld Z h0 aA "java/lang/Enum" "ordinal" "I" (.int (0 : Int32))) (B5 : Fld Z h0 aU "java/lang/Enum" "ordinal" "I" (.int (1 : Int32))) (B6 : Fld Z h0 aB "java/lang/Enum" "ordinal" "I" (.int (2 : Int32))) (B7 : Arv Z h0 aV kV (.object "com/example/evident_ledger/evidentledger/ExecutorVerdict") (3 : Int32) [(.ref aA), (.ref aU), (.ref aB)] .null) (S_V : Sta Z Z.heap "com/example/evident_ledger/evidentledger/ExecutorVerdict" "$VALUES" "[Lcom/example/evident_ledger/evidentledger/ExecutorVerdict;" (.ref aV)) (S_A : Sta Z Z.heap "com/example/evident_ledger/evidentledger/ExecutorVerdict" "ATTESTED" "Lcom/example/evident_ledger/evidentledger/ExecutorVerdict;" (.ref aA)) (S_U : Sta Z Z.heap "com/example/evident_ledger/evidentledger/ExecutorVerdict" "UNATTESTED" "Lcom/example/evident_ledger/evidentledger/ExecutorVerdict;" (.ref aU)) (S_B : Sta Z Z.heap "com/example/evident_ledger/evidentledger/ExecutorVerdict" "ABSENT" "Lcom/example/evident_ledger/evidentledger/ExecutorVerdict;" (.ref aB)) :
    MetFree l x (head1 (Jvm.Cond.code x code maxLocals ret :: ws) room_1) (fun a U => a = #[(.int x0), (.int x1), (.int x2), (.int x3), (.int x4)] ∧ Z.Warmed39 U.vm ∧ U.heap = h0) (fun _ _ _ _ _ => True) (fun _ U o U' => ∃ v L, o = .returned v ∧ Q0 Z x0 x1 x2 x3 x4 aV aA aU aB kV h0 n0 v U'.heap L ∧ FrameEnd U o U' L room_1.cells room_1.slots) := by
  refine MetFree.of_bodySF (plainFor_of_name pn0) hisR ?_
  intro p e s m args below meth c s₁ Bd hml0 hP hK
  obtain ⟨rfl, hZ, hh⟩ := hP
  have hx := Bd.exec
  have hby := Bd.bytes
  have hml : c.maxLocals = 17 := hml0
  have hown : s.vm.findClass "com/example/evident_ledger/evidentledger/TallyCountPinLaw" = some m.cls := findClass_of_methodNamed Bd.named
  have hnm := (name_of_methodNamed Bd.named Bd.method).1
  have X0 : Stand p l e room_1 s m #[(.int x0), (.int x1), (.int x2), (.int x3), (.int x4)] below meth c s₁ [] 0 0 := Stand.of_body Bd
  have e0 : s₁.heap = h0 := by rw [← hh, Bd.state]; rfl
  have N0 := Fr.nil n0
  have pre0 : Steps p.tables e below (s₁.setTop (entryFrame m #[(.int x0), (.int x1), (.int x2), (.int x3), (.int x4)] maxLocals)) (s₁.setTop (mkF m 0 #[.val (.int x0), .val (.int x1), .val (.int x2), .val (.int x3), .val (.int x4), .unset, .unset, .unset, .unset, .unset, .unset, .unset, .unset, .unset, .unset, .unset, .unset] [])) := castTop (ef0 m x0 x1 x2 x3 x4) (Steps.refl _)
  have K0 := Keep.refl h0 []
  obtain ⟨v1, hv1⟩ : ∃ z : Int32, z = ((x4 &&& (2147483647 : Int32)) % (5 : Int32)) := ⟨_, rfl⟩
  have st2 : Steps p.tables e below (s₁.setTop (mkF m 0 #[.val (.int x0), .val (.int x1), .val (.int x2), .val (.int x3), .val (.int x4), .unset, .unset, .unset, .unset, .unset, .unset, .unset, .unset, .unset, .unset, .unset, .unset] [])) (s₁.setTop (mkF m 10 #[.val (.int x0), .val (.int x1), .val (.int x2), .val (.int x3), .val (.int x4), .val (.int v1), .unset, .unset, .unset, .unset, .unset, .unset, .unset, .unset, .unset, .unset, .unset] [(.int x0)])) := by
    subst v1
    refine XS.iload X0.here hx rfl (hb hby at_0) rfl ?_
    show Steps p.tables e below (s₁.setTop (mkF m 2 #[.val (.int x0), .val (.int x1), .val (.int x2), .val (.int x3), .val (.int x4), .unset, .unset, .unset, .unset, .unset, .unset, .unset, .unset, .unset, .unset, .unset, .unset] [(.int x4)])) _
    refine X0.ldcInt hx hown (mvT hZ (hw _ (List.mem_of_getElem? (i := 0) rfl))) (g := (mkF m 2 #[.val (.int x0), .val (.int x1), .val (.int x2), .val (.int x3), .val (.int x4), .unset, .unset, .unset, .unset, .unset, .unset, .unset, .unset, .unset, .unset, .unset, .unset] [(.int x4)])) rfl (hb hby at_2) _ ?_
    show Steps p.tables e below (s₁.setTop (mkF m 4 #[.val (.int x0), .val (.int x1), .val (.int x2), .val (.int x3), .val (.int x4), .unset, .unset, .unset, .unset, .unset, .unset, .unset, .unset, .unset, .unset, .unset, .unset] [(.int (2147483647 : Int32)), (.int x4)])) _
    refine XS.iand X0.here hx rfl (hb hby at_4) rfl ?_
    show Steps p.tables e below (s₁.setTop (mkF m 5 #[.val (.int x0), .val (.int x1), .val (.int x2), .val (.int x3), .val (.int x4), .unset, .unset, .unset, .unset, .unset, .unset, .unset, .unset, .unset, .unset, .unset, .unset] [(.int (x4 &&& (2147483647 : Int32)))])) _
    refine XS.iconst X0.here hx rfl (hb hby at_5) ?_
    show Steps p.tables e below (s₁.setTop (mkF m 6 #[.val (.int x0), .val (.int x1), .val (.int x2), .val (.int x3), .val (.int x4), .unset, .unset, .unset, .unset, .unset, .unset, .unset, .unset, .unset, .unset, .unset, .unset] [(.int (5 : Int32)), (.int (x4 &&& (2147483647 : Int32)))])) _
    refine iremM X0 hx rfl (hb hby at_6) rfl (by decide) ?_
    show Steps p.tables e below (s₁.setTop (mkF m 7 #[.val (.int x0), .val (.int x1), .val (.int x2), .val (.int x3), .val (.int x4), .unset, .unset, .unset, .unset, .unset, .unset, .unset, .unset, .unset, .unset, .unset, .unset] [(.int ((x4 &&& (2147483647 : Int32)) % (5 : Int32)))])) _
    refine XS.istore X0.here hx rfl (hb hby at_7) rfl (l' := #[.val (.int x0), .val (.int x1), .val (.int x2), .val (.int x3), .val (.int x4), .val (.int ((x4 &&& (2147483647 : Int32)) % (5 : Int32))), .unset, .unset, .unset, .unset, .unset, .unset, .unset, .unset, .unset, .unset, .unset]) rfl ?_
    show Steps p.tables e below (s₁.setTop (mkF m 9 #[.val (.int x0), .val (.int x1), .val (.int x2), .val (.int x3), .val (.int x4), .val (.int ((x4 &&& (2147483647 : Int32)) % (5 : Int32))), .unset, .unset, .unset, .unset, .unset, .unset, .unset, .unset, .unset, .unset, .unset] [])) _
    refine XS.iloadN X0.here hx rfl (hb hby at_9) rfl ?_
    show Steps p.tables e below (s₁.setTop (mkF m 10 #[.val (.int x0), .val (.int x1), .val (.int x2), .val (.int x3), .val (.int x4), .val (.int ((x4 &&& (2147483647 : Int32)) % (5 : Int32))), .unset, .unset, .unset, .unset, .unset, .unset, .unset, .unset, .unset, .unset, .unset] [(.int x0)])) _
    exact Steps.refl _
  have pre2 := pre0.trans st2
  obtain ⟨_, _, ⟨T3, L3, k3, n3⟩, -, X3, ⟨Lc3, hQ3, l3, y3, z3⟩, st3⟩ := Jvm.LawKit.callS X0 hx (y := (⟨"com/example/evident_ledger/evidentledger/TallyCountPinLaw", "kind", "(I)I"⟩ : MethodName)) hown (mvT hZ (hw _ (List.mem_of_getElem? (i := 1) rfl))) (mvT hZ (hw _ (List.mem_of_getElem? (i := 2) rfl))) (mvT hZ (hw _ (List.mem_of_getElem? (i := 3) rfl))) (mvT hZ (hw _ (List.mem_of_getElem? (i := 4) rfl))) (by decide) (backOf (W := 0) (rm1 l Z a0 hw [] x0 h0 n0 Z0) hZ (hw _ (List.mem_of_getElem? (i := 4) rfl)) (hw _ (List.mem_of_getElem? (i := 3) rfl)) (by decide) (by decide)) (g := (mkF m 10 #[.val (.int x0), .val (.int x1), .val (.int x2), .val (.int x3), .val (.int x4), .val (.int v1), .unset, .unset, .unset, .unset, .unset, .unset, .unset, .unset, .unset, .unset, .unset] [(.int x0)])) rfl (by rw [hml]; rfl) (argsL := [(.int x0)]) (rest := []) (lenOf pd0_0 rfl) rfl (by show 2 * 0 + _ ≤ _; exact Nat.le_of_eq rfl) (hb hby at_10) (fun _ _ => ⟨rfl, e0, (by decide : 0 + 0 ≤ _), (by decide : 0 + 0 ≤ _)⟩)
  dsimp only [Pt.U, Pt.locs, Pt.cells, Pt.slots] at X3 l3 y3 z3 st3 hQ3
  subst l3 y3 z3
  obtain ⟨rfl, Nq3, e3⟩ := hQ3
  have N3 := Fr.app N0 Nq3
  have pre3 : Steps p.tables e below (s₁.setTop (entryFrame m #[(.int x0), (.int x1), (.int x2), (.int x3), (.int x4)] maxLocals)) (T3.setTop (mkF m 13 #[.val (.int x0), .val (.int x1), .val (.int x2), .val (.int x3), .val (.int x4), .val (.int v1), .unset, .unset, .unset, .unset, .unset, .unset, .unset, .unset, .unset, .unset, .unset] [(.int (own_F1 x0))])) := pre2.trans (st3 _ (Steps.refl _))
  obtain ⟨v4, hv4⟩ : ∃ z : Int32, z = (own_F1 x0) := ⟨_, rfl⟩
  have st5 : Steps p.tables e below (T3.setTop (mkF m 13 #[.val (.int x0), .val (.int x1), .val (.int x2), .val (.int x3), .val (.int x4), .val (.int v1), .unset, .unset, .unset, .unset, .unset, .unset, .unset, .unset, .unset, .unset, .unset] [(.int (own_F1 x0))])) (T3.setTop (mkF m 16 #[.val (.int x0), .val (.int x1), .val (.int x2), .val (.int x3), .val (.int x4), .val (.int v1), .val (.int v4), .unset, .unset, .unset, .unset, .unset, .unset, .unset, .unset, .unset, .unset] [(.int x1)])) := by
    subst v4
    refine XS.istore X3.here hx rfl (hb hby at_13) rfl (l' := #[.val (.int x0), .val (.int x1), .val (.int x2), .val (.int x3), .val (.int x4), .val (.int v1), .val (.int (own_F1 x0)), .unset, .unset, .unset, .unset, .unset, .unset, .unset, .unset, .unset, .unset]) rfl ?_
    show Steps p.tables e below (T3.setTop (mkF m 15 #[.val (.int x0), .val (.int x1), .val (.int x2), .val (.int x3), .val (.int x4), .val (.int v1), .val (.int (own_F1 x0)), .unset, .unset, .unset, .unset, .unset, .unset, .unset, .unset, .unset, .unset] [])) _
    refine XS.iloadN X3.here hx rfl (hb hby at_15) rfl ?_
    show Steps p.tables e below (T3.setTop (mkF m 16 #[.val (.int x0), .val (.int x1), .val (.int x2), .val (.int x3), .val (.int x4), .val (.int v1), .val (.int (own_F1 x0)), .unset, .unset, .unset, .unset, .unset, .unset, .unset, .unset, .unset, .unset] [(.int x1)])) _
    exact Steps.refl _
  have pre5 := pre3.trans st5
  obtain ⟨_, _, ⟨T6, L6, k6, n6⟩, -, X6, ⟨Lc6, hQ6, l6, y6, z6⟩, st6⟩ := Jvm.LawKit.callS X3 hx (y := (⟨"com/example/evident_ledger/evidentledger/TallyCountPinLaw", "kind", "(I)I"⟩ : MethodName)) hown (mvT hZ (hw _ (List.mem_of_getElem? (i := 1) rfl))) (mvT hZ (hw _ (List.mem_of_getElem? (i := 2) rfl))) (mvT hZ (hw _ (List.mem_of_getElem? (i := 3) rfl))) (mvT hZ (hw _ (List.mem_of_getElem? (i := 4) rfl))) (by decide) (backOf (W := 0) (rm1 l Z a0 hw [] x1 h0 n0 Z0) hZ (hw _ (List.mem_of_getElem? (i := 4) rfl)) (hw _ (List.mem_of_getElem? (i := 3) rfl)) (by decide) (by decide)) (g := (mkF m 16 #[.val (.int x0), .val (.int x1), .val (.int x2), .val (.int x3), .val (.int x4), .val (.int v1), .val (.int v4), .unset, .unset, .unset, .unset, .unset, .unset, .unset, .unset, .unset, .unset] [(.int x1)])) rfl (by rw [hml]; rfl) (argsL := [(.int x1)]) (rest := []) (lenOf pd0_0 rfl) rfl (by show 2 * 0 + _ ≤ _; exact Nat.le_of_eq rfl) (hb hby at_16) (fun _ _ => ⟨rfl, e3, (by decide : 0 + 0 ≤ _), (by decide : 0 + 0 ≤ _)⟩)
  dsimp only [Pt.U, Pt.locs, Pt.cells, Pt.slots] at X6 l6 y6 z6 st6 hQ6
  subst l6 y6 z6
  obtain ⟨rfl, Nq6, e6⟩ := hQ6
  have N6 := Fr.app N3 Nq6
  have pre6 : Steps p.tables e below (s₁.setTop (entryFrame m #[(.int x0), (.int x1), (.int x2), (.int x3), (.int x4)] maxLocals)) (T6.setTop (mkF m 19 #[.val (.int x0), .val (.int x1), .val (.int x2), .val (.int x3), .val (.int x4), .val (.int v1), .val (.int v4), .unset, .unset, .unset, .unset, .unset, .unset, .unset, .unset, .unset, .unset] [(.int (own_F1 x1))])) := pre5.trans (st6 _ (Steps.refl _))
  obtain ⟨v7, hv7⟩ : ∃ z : Int32, z = (own_F1 x1) := ⟨_, rfl⟩
  have st8 : Steps p.tables e below (T6.setTop (mkF m 19 #[.val (.int x0), .val (.int x1), .val (.int x2), .val (.int x3), .val (.int x4), .val (.int v1), .val (.int v4), .unset, .unset, .unset, .unset, .unset, .unset, .unset, .unset, .unset, .unset] [(.int (own_F1 x1))])) (T6.setTop (mkF m 22 #[.val (.int x0), .val (.int x1), .val (.int x2), .val (.int x3), .val (.int x4), .val (.int v1), .val (.int v4), .val (.int v7), .unset, .unset, .unset, .unset, .unset, .unset, .unset, .unset, .unset] [(.int x2)])) := by
    subst v7
    refine XS.istore X6.here hx rfl (hb hby at_19) rfl (l' := #[.val (.int x0), .val (.int x1), .val (.int x2), .val (.int x3), .val (.int x4), .val (.int v1), .val (.int v4), .val (.int (own_F1 x1)), .unset, .unset, .unset, .unset, .unset, .unset, .unset, .unset, .unset]) rfl ?_
    show Steps p.tables e below (T6.setTop (mkF m 21 #[.val (.int x0), .val (.int x1), .val (.int x2), .val (.int x3), .val (.int x4), .val (.int v1), .val (.int v4), .val (.int (own_F1 x1)), .unset, .unset, .unset, .unset, .unset, .unset, .unset, .unset, .unset] [])) _
    refine XS.iloadN X6.here hx rfl (hb hby at_21) rfl ?_
    show Steps p.tables e below (T6.setTop (mkF m 22 #[.val (.int x0), .val (.int x1), .val (.int x2), .val (.int x3), .val (.int x4), .val (.int v1), .val (.int v4), .val (.int (own_F1 x1)), .unset, .unset, .unset, .unset, .unset, .unset, .unset, .unset, .unset] [(.int x2)])) _
    exact Steps.refl _
  have pre8 := pre6.trans st8
  obtain ⟨_, _, ⟨T9, L9, k9, n9⟩, -, X9, ⟨Lc9, hQ9, l9, y9, z9⟩, st9⟩ := Jvm.LawKit.callS X6 hx (y := (⟨"com/example/evident_ledger/evidentledger/TallyCountPinLaw", "kind", "(I)I"⟩ : MethodName)) hown (mvT hZ (hw _ (List.mem_of_getElem? (i := 1) rfl))) (mvT hZ (hw _ (List.mem_of_getElem? (i := 2) rfl))) (mvT hZ (hw _ (List.mem_of_getElem? (i := 3) rfl))) (mvT hZ (hw _ (List.mem_of_getElem? (i := 4) rfl))) (by decide) (backOf (W := 0) (rm1 l Z a0 hw [] x2 h0 n0 Z0) hZ (hw _ (List.mem_of_getElem? (i := 4) rfl)) (hw _ (List.mem_of_getElem? (i := 3) rfl)) (by decide) (by decide)) (g := (mkF m 22 #[.val (.int x0), .val (.int x1), .val (.int x2), .val (.int x3), .val (.int x4), .val (.int v1), .val (.int v4), .val (.int v7), .unset, .unset, .unset, .unset, .unset, .unset, .unset, .unset, .unset] [(.int x2)])) rfl (by rw [hml]; rfl) (argsL := [(.int x2)]) (rest := []) (lenOf pd0_0 rfl) rfl (by show 2 * 0 + _ ≤ _; exact Nat.le_of_eq rfl) (hb hby at_22) (fun _ _ => ⟨rfl, e6, (by decide : 0 + 0 ≤ _), (by decide : 0 + 0 ≤ _)⟩)
  dsimp only [Pt.U, Pt.locs, Pt.cells, Pt.slots] at X9 l9 y9 z9 st9 hQ9
  subst l9 y9 z9
  obtain ⟨rfl, Nq9, e9⟩ := hQ9
  have N9 := Fr.app N6 Nq9
  have pre9 : Steps p.tables e below (s₁.setTop (entryFrame m #[(.int x0), (.int x1), (.int x2), (.int x3), (.int x4)] maxLocals)) (T9.setTop (mkF m 25 #[.val (.int x0), .val (.int x1), .val (.int x2), .val (.int x3), .val (.int x4), .val (.int v1), .val (.int v4), .val (.int v7), .unset, .unset, .unset, .unset, .unset, .unset, .unset, .unset, .unset] [(.int (own_F1 x2))])) := pre8.trans (st9 _ (Steps.refl _))
  obtain ⟨v10, hv10⟩ : ∃ z : Int32, z = (own_F1 x2) := ⟨_, rfl⟩
  have st11 : Steps p.tables e below (T9.setTop (mkF m 25 #[.val (.int x0), .val (.int x1), .val (.int x2), .val (.int x3), .val (.int x4), .val (.int v1), .val (.int v4), .val (.int v7), .unset, .unset, .unset, .unset, .unset, .unset, .unset, .unset, .unset] [(.int (own_F1 x2))])) (T9.setTop (mkF m 28 #[.val (.int x0), .val (.int x1), .val (.int x2), .val (.int x3), .val (.int x4), .val (.int v1), .val (.int v4), .val (.int v7), .val (.int v10), .unset, .unset, .unset, .unset, .unset, .unset, .unset, .unset] [(.int x3)])) := by
    subst v10
    refine XS.istore X9.here hx rfl (hb hby at_25) rfl (l' := #[.val (.int x0), .val (.int x1), .val (.int x2), .val (.int x3), .val (.int x4), .val (.int v1), .val (.int v4), .val (.int v7), .val (.int (own_F1 x2)), .unset, .unset, .unset, .unset, .unset, .unset, .unset, .unset]) rfl ?_
    show Steps p.tables e below (T9.setTop (mkF m 27 #[.val (.int x0), .val (.int x1), .val (.int x2), .val (.int x3), .val (.int x4), .val (.int v1), .val (.int v4), .val (.int v7), .val (.int (own_F1 x2)), .unset, .unset, .unset, .unset, .unset, .unset, .unset, .unset] [])) _
    refine XS.iloadN X9.here hx rfl (hb hby at_27) rfl ?_
    show Steps p.tables e below (T9.setTop (mkF m 28 #[.val (.int x0), .val (.int x1), .val (.int x2), .val (.int x3), .val (.int x4), .val (.int v1), .val (.int v4), .val (.int v7), .val (.int (own_F1 x2)), .unset, .unset, .unset, .unset, .unset, .unset, .unset, .unset] [(.int x3)])) _
    exact Steps.refl _
  have pre11 := pre9.trans st11
  obtain ⟨_, _, ⟨T12, L12, k12, n12⟩, -, X12, ⟨Lc12, hQ12, l12, y12, z12⟩, st12⟩ := Jvm.LawKit.callS X9 hx (y := (⟨"com/example/evident_ledger/evidentledger/TallyCountPinLaw", "kind", "(I)I"⟩ : MethodName)) hown (mvT hZ (hw _ (List.mem_of_getElem? (i := 1) rfl))) (mvT hZ (hw _ (List.mem_of_getElem? (i := 2) rfl))) (mvT hZ (hw _ (List.mem_of_getElem? (i := 3) rfl))) (mvT hZ (hw _ (List.mem_of_getElem? (i := 4) rfl))) (by decide) (backOf (W := 0) (rm1 l Z a0 hw [] x3 h0 n0 Z0) hZ (hw _ (List.mem_of_getElem? (i := 4) rfl)) (hw _ (List.mem_of_getElem? (i := 3) rfl)) (by decide) (by decide)) (g := (mkF m 28 #[.val (.int x0), .val (.int x1), .val (.int x2), .val (.int x3), .val (.int x4), .val (.int v1), .val (.int v4), .val (.int v7), .val (.int v10), .unset, .unset, .unset, .unset, .unset, .unset, .unset, .unset] [(.int x3)])) rfl (by rw [hml]; rfl) (argsL := [(.int x3)]) (rest := []) (lenOf pd0_0 rfl) rfl (by show 2 * 0 + _ ≤ _; exact Nat.le_of_eq rfl) (hb hby at_28) (fun _ _ => ⟨rfl, e9, (by decide : 0 + 0 ≤ _), (by decide : 0 + 0 ≤ _)⟩)
  dsimp only [Pt.U, Pt.locs, Pt.cells, Pt.slots] at X12 l12 y12 z12 st12 hQ12
  subst l12 y12 z12
  obtain ⟨rfl, Nq12, e12⟩ := hQ12
  have N12 := Fr.app N9 Nq12
  have pre12 : Steps p.tables e below (s₁.setTop (entryFrame m #[(.int x0), (.int x1), (.int x2), (.int x3), (.int x4)] maxLocals)) (T12.setTop (mkF m 31 #[.val (.int x0), .val (.int x1), .val (.int x2), .val (.int x3), .val (.int x4), .val (.int v1), .val (.int v4), .val (.int v7), .val (.int v10), .unset, .unset, .unset, .unset, .unset, .unset, .unset, .unset] [(.int (own_F1 x3))])) := pre11.trans (st12 _ (Steps.refl _))
  obtain ⟨v13, hv13⟩ : ∃ z : Int32, z = (own_F1 x3) := ⟨_, rfl⟩
  have st14 : Steps p.tables e below (T12.setTop (mkF m 31 #[.val (.int x0), .val (.int x1), .val (.int x2), .val (.int x3), .val (.int x4), .val (.int v1), .val (.int v4), .val (.int v7), .val (.int v10), .unset, .unset, .unset, .unset, .unset, .unset, .unset, .unset] [(.int (own_F1 x3))])) (T12.setTop (mkF m 33 #[.val (.int x0), .val (.int x1), .val (.int x2), .val (.int x3), .val (.int x4), .val (.int v1), .val (.int v4), .val (.int v7), .val (.int v10), .val (.int v13), .unset, .unset, .unset, .unset, .unset, .unset, .unset] [])) := by
    subst v13
    refine XS.istore X12.here hx rfl (hb hby at_31) rfl (l' := #[.val (.int x0), .val (.int x1), .val (.int x2), .val (.int x3), .val (.int x4), .val (.int v1), .val (.int v4), .val (.int v7), .val (.int v10), .val (.int (own_F1 x3)), .unset, .unset, .unset, .unset, .unset, .unset, .unset]) rfl ?_
    show Steps p.tables e below (T12.setTop (mkF m 33 #[.val (.int x0), .val (.int x1), .val (.int x2), .val (.int x3), .val (.int x4), .val (.int v1), .val (.int v4), .val (.int v7), .val (.int v10), .val (.int (own_F1 x3)), .unset, .unset, .unset, .unset, .unset, .unset, .unset] [])) _
    exact Steps.refl _
  have pre14 := pre12.trans st14
  obtain ⟨T15, h15, X15, e15, E15, A15, D15, -, st15⟩ := newO X12 hx hZ hown (hw _ (List.mem_of_getElem? (i := 5) rfl)) (hw _ (List.mem_of_getElem? (i := 6) rfl)) (hw _ (List.mem_of_getElem? (i := 7) rfl)) e12 (g := (mkF m 33 #[.val (.int x0), .val (.int x1), .val (.int x2), .val (.int x3), .val (.int x4), .val (.int v1), .val (.int v4), .val (.int v7), .val (.int v10), .val (.int v13), .unset, .unset, .unset, .unset, .unset, .unset, .unset] [])) rfl (hb hby at_33) (by decide) (by decide)
  obtain ⟨b15, g15⟩ : ∃ z, z = h0.size := ⟨_, rfl⟩
  rw [← g15] at A15 D15 st15
  have pre15 : Steps p.tables e below (s₁.setTop (entryFrame m #[(.int x0), (.int x1), (.int x2), (.int x3), (.int x4)] maxLocals)) (T15.setTop (mkF m 36 #[.val (.int x0), .val (.int x1), .val (.int x2), .val (.int x3), .val (.int x4), .val (.int v1), .val (.int v4), .val (.int v7), .val (.int v10), .val (.int v13), .unset, .unset, .unset, .unset, .unset, .unset, .unset] [(.ref b15)])) := pre14.trans (st15 _ (Steps.refl _))
  have gn15 : n0 ≤ b15 := Nat.le_trans Z0 (Nat.le_of_eq g15.symm)
  have sz15 : h0.size ≤ b15 := Nat.le_trans K0.1 (Nat.le_of_eq g15.symm)
  have neaV_b15 : aV ≠ b15 := Nat.ne_of_lt (Nat.lt_of_lt_of_le B0.lt (Nat.le_of_eq g15.symm))
  have neaA_b15 : aA ≠ b15 := Nat.ne_of_lt (Nat.lt_of_lt_of_le B1.lt (Nat.le_of_eq g15.symm))
  have neaU_b15 : aU ≠ b15 := Nat.ne_of_lt (Nat.lt_of_lt_of_le B2.lt (Nat.le_of_eq g15.symm))
  have neaB_b15 : aB ≠ b15 := Nat.ne_of_lt (Nat.lt_of_lt_of_le B3.lt (Nat.le_of_eq g15.symm))
  have F16 : Exa Z h15 aV "[Lcom/example/evident_ledger/evidentledger/ExecutorVerdict;" := B0.ext E15
  have F17 : Exa Z h15 aA "com/example/evident_ledger/evidentledger/ExecutorVerdict" := B1.ext E15
  have F18 : Exa Z h15 aU "com/example/evident_ledger/evidentledger/ExecutorVerdict" := B2.ext E15
  have F19 : Exa Z h15 aB "com/example/evident_ledger/evidentledger/ExecutorVerdict" := B3.ext E15
  have F20 : Fld Z h15 aA "java/lang/Enum" "ordinal" "I" (.int (0 : Int32)) := B4.ext E15
  have F21 : Fld Z h15 aU "java/lang/Enum" "ordinal" "I" (.int (1 : Int32)) := B5.ext E15
  have F22 : Fld Z h15 aB "java/lang/Enum" "ordinal" "I" (.int (2 : Int32)) := B6.ext E15
  have F23 : Arv Z h15 aV kV (.object "com/example/evident_ledger/evidentledger/ExecutorVerdict") (3 : Int32) [(.ref aA), (.ref aU), (.ref aB)] .null := B7.ext E15
  have K15 := K0.ext E15
  have Z15 : n0 ≤ h15.size := Nat.le_trans Z0 E15.1
  have O15 := O0.ext E15
  have F24 : Fld Z h15 b15 "com/example/evident_ledger/evidentledger/ExecutorVerdict$Tally" "counts" "[J" .null := D15 (Or.inr (hw _ (List.mem_of_getElem? (i := 35) rfl))) (ty := (.array .long)) (by decide)
  have st25 : Steps p.tables e below (T15.setTop (mkF m 36 #[.val (.int x0), .val (.int x1), .val (.int x2), .val (.int x3), .val (.int x4), .val (.int v1), .val (.int v4), .val (.int v7), .val (.int v10), .val (.int v13), .unset, .unset, .unset, .unset, .unset, .unset, .unset] [(.ref b15)])) (T15.setTop (mkF m 37 #[.val (.int x0), .val (.int x1), .val (.int x2), .val (.int x3), .val (.int x4), .val (.int v1), .val (.int v4), .val (.int v7), .val (.int v10), .val (.int v13), .unset, .unset, .unset, .unset, .unset, .unset, .unset] [(.ref b15), (.ref b15)])) := by
    refine XS.dup X15.here hx rfl (hb hby at_36) rfl rfl ?_
    show Steps p.tables e below (T15.setTop (mkF m 37 #[.val (.int x0), .val (.int x1), .val (.int x2), .val (.int x3), .val (.int x4), .val (.int v1), .val (.int v4), .val (.int v7), .val (.int v10), .val (.int v13), .unset, .unset, .unset, .unset, .unset, .unset, .unset] [(.ref b15), (.ref b15)])) _
    exact Steps.refl _
  have pre25 := pre15.trans st25
  obtain ⟨_, _, ⟨T26, L26, k26, n26⟩, -, X26, ⟨Lc26, hQ26, l26, y26, z26⟩, st26⟩ := X15.specialBack hx (y := (⟨"com/example/evident_ledger/evidentledger/ExecutorVerdict$Tally", "<init>", "()V"⟩ : MethodName)) rfl hown (mvT hZ (hw _ (List.mem_of_getElem? (i := 8) rfl))) (mvT hZ (hw _ (List.mem_of_getElem? (i := 9) rfl))) (mvT hZ (hw _ (List.mem_of_getElem? (i := 10) rfl))) (by decide) (backOf (W := 1) (rm4 l Z a0 hw [] b15 .null aV kV aA aU aB h15 n0 Z15 O15 A15 F24 F16 F23 gn15 S_V neaV_b15) hZ (hw _ (List.mem_of_getElem? (i := 10) rfl)) (hw _ (List.mem_of_getElem? (i := 7) rfl)) (by decide) (by decide)) (g := (mkF m 37 #[.val (.int x0), .val (.int x1), .val (.int x2), .val (.int x3), .val (.int x4), .val (.int v1), .val (.int v4), .val (.int v7), .val (.int v10), .val (.int v13), .unset, .unset, .unset, .unset, .unset, .unset, .unset] [(.ref b15), (.ref b15)])) rfl (by rw [hml]; rfl) (Steps.refl _) (a := b15) (argsL := []) (rest := [(.ref b15)]) (lenOf pd0_1 rfl) rfl (by show 2 * 0 + _ ≤ _; exact Nat.le_of_eq rfl) (hb hby at_37) (fun _ _ => ⟨rfl, e15, (by decide : 1 + 2 ≤ _), (by decide : 1 + 6 ≤ _)⟩)
  dsimp only [Pt.U, Pt.locs, Pt.cells, Pt.slots] at X26 l26 y26 z26 st26 hQ26
  subst l26 y26 z26
  obtain ⟨ar_26, kk_26, rfl, Nq26, Kq26, P26_0, P26_1, P26_2, R26_0⟩ := hQ26
  have F27 : Exa Z T26.heap aV "[Lcom/example/evident_ledger/evidentledger/ExecutorVerdict;" := F16.keep Kq26
  have F28 : Exa Z T26.heap aA "com/example/evident_ledger/evidentledger/ExecutorVerdict" := F17.keep Kq26
  have F29 : Exa Z T26.heap aU "com/example/evident_ledger/evidentledger/ExecutorVerdict" := F18.keep Kq26
  have F30 : Exa Z T26.heap aB "com/example/evident_ledger/evidentledger/ExecutorVerdict" := F19.keep Kq26
  have F31 : Fld Z T26.heap aA "java/lang/Enum" "ordinal" "I" (.int (0 : Int32)) := F20.keep Kq26 (ninS neaA_b15 nin0)
  have F32 : Fld Z T26.heap aU "java/lang/Enum" "ordinal" "I" (.int (1 : Int32)) := F21.keep Kq26 (ninS neaU_b15 nin0)
  have F33 : Fld Z T26.heap aB "java/lang/Enum" "ordinal" "I" (.int (2 : Int32)) := F22.keep Kq26 (ninS neaB_b15 nin0)
  have F34 : Arv Z T26.heap aV kV (.object "com/example/evident_ledger/evidentledger/ExecutorVerdict") (3 : Int32) [(.ref aA), (.ref aU), (.ref aB)] .null := F23.keep Kq26 (ninS neaV_b15 nin0)
  have F35 : Exa Z T26.heap b15 "com/example/evident_ledger/evidentledger/ExecutorVerdict$Tally" := A15.keep Kq26
  have KK26 := K15.trans Kq26 (allS (Or.inr sz15) all0)
  have Z26 : n0 ≤ T26.heap.size := Nat.le_trans Z15 Kq26.1
  have O26 := O15.keep Kq26 (allS gn15 all0)
  have N26 := Fr.app N12 Nq26
  have pre26 : Steps p.tables e below (s₁.setTop (entryFrame m #[(.int x0), (.int x1), (.int x2), (.int x3), (.int x4)] maxLocals)) (T26.setTop (mkF m 40 #[.val (.int x0), .val (.int x1), .val (.int x2), .val (.int x3), .val (.int x4), .val (.int v1), .val (.int v4), .val (.int v7), .val (.int v10), .val (.int v13), .unset, .unset, .unset, .unset, .unset, .unset, .unset] [(.ref b15)])) := pre25.trans st26
  have gnA : n0 ≤ ar_26 := Nat.le_trans Z15 R26_0
  have szA : h0.size ≤ ar_26 := Nat.le_trans K15.1 R26_0
  have neaV_ar_26 : aV ≠ ar_26 := Nat.ne_of_lt (Nat.lt_of_lt_of_le F16.lt R26_0)
  have neaA_ar_26 : aA ≠ ar_26 := Nat.ne_of_lt (Nat.lt_of_lt_of_le F17.lt R26_0)
  have neaU_ar_26 : aU ≠ ar_26 := Nat.ne_of_lt (Nat.lt_of_lt_of_le F18.lt R26_0)
  have neaB_ar_26 : aB ≠ ar_26 := Nat.ne_of_lt (Nat.lt_of_lt_of_le F19.lt R26_0)
  have neb15_ar_26 : b15 ≠ ar_26 := Nat.ne_of_lt (Nat.lt_of_lt_of_le A15.lt R26_0)
  have st37 : Steps p.tables e below (T26.setTop (mkF m 40 #[.val (.int x0), .val (.int x1), .val (.int x2), .val (.int x3), .val (.int x4), .val (.int v1), .val (.int v4), .val (.int v7), .val (.int v10), .val (.int v13), .unset, .unset, .unset, .unset, .unset, .unset, .unset] [(.ref b15)])) (T26.setTop (mkF m 44 #[.val (.int x0), .val (.int x1), .val (.int x2), .val (.int x3), .val (.int x4), .val (.int v1), .val (.int v4), .val (.int v7), .val (.int v10), .val (.int v13), .val (.ref b15), .unset, .unset, .unset, .unset, .unset, .unset] [(.int v1)])) := by
    refine XS.astore X26.here hx rfl (hb hby at_40) rfl rfl (l' := #[.val (.int x0), .val (.int x1), .val (.int x2), .val (.int x3), .val (.int x4), .val (.int v1), .val (.int v4), .val (.int v7), .val (.int v10), .val (.int v13), .val (.ref b15), .unset, .unset, .unset, .unset, .unset, .unset]) rfl ?_
    show Steps p.tables e below (T26.setTop (mkF m 42 #[.val (.int x0), .val (.int x1), .val (.int x2), .val (.int x3), .val (.int x4), .val (.int v1), .val (.int v4), .val (.int v7), .val (.int v10), .val (.int v13), .val (.ref b15), .unset, .unset, .unset, .unset, .unset, .unset] [])) _
    refine XS.iload X26.here hx rfl (hb hby at_42) rfl ?_
    show Steps p.tables e below (T26.setTop (mkF m 44 #[.val (.int x0), .val (.int x1), .val (.int x2), .val (.int x3), .val (.int x4), .val (.int v1), .val (.int v4), .val (.int v7), .val (.int v10), .val (.int v13), .val (.ref b15), .unset, .unset, .unset, .unset, .unset, .unset] [(.int v1)])) _
    exact Steps.refl _
  have pre37 := pre26.trans st37
  obtain ⟨T69, h69, lc69, X69, e69, N69, Z69, O69, K69, pre69, J69_0, J69_1, J69_2, J69_3, J69_4, J69_5, J69_6, J69_7, J69_8, J69_9, J69_10, J69_11⟩ : ∃ (T' : State) (h' : Heap) (lc : List Loc), Stand p l e room_1 s m #[(.int x0), (.int x1), (.int x2), (.int x3), (.int x4)] below meth c T' lc 3 7 ∧ T'.heap = h' ∧ Fr n0 lc ∧ n0 ≤ h'.size ∧ Old Z n0 h' ∧ Keep h0 h' [] ∧ Steps p.tables e below (s₁.setTop (entryFrame m #[(.int x0), (.int x1), (.int x2), (.int x3), (.int x4)] maxLocals)) (T'.setTop (mkF m 57 #[.val (.int x0), .val (.int x1), .val (.int x2), .val (.int x3), .val (.int x4), .val (.int v1), .val (.int v4), .val (.int v7), .val (.int v10), .val (.int v13), .val (.ref b15), .unset, .unset, .unset, .unset, .unset, .unset] [])) ∧ Exa Z h' aV "[Lcom/example/evident_ledger/evidentledger/ExecutorVerdict;" ∧ Exa Z h' aA "com/example/evident_ledger/evidentledger/ExecutorVerdict" ∧ Exa Z h' aU "com/example/evident_ledger/evidentledger/ExecutorVerdict" ∧ Exa Z h' aB "com/example/evident_ledger/evidentledger/ExecutorVerdict" ∧ Fld Z h' aA "java/lang/Enum" "ordinal" "I" (.int (0 : Int32)) ∧ Fld Z h' aU "java/lang/Enum" "ordinal" "I" (.int (1 : Int32)) ∧ Fld Z h' aB "java/lang/Enum" "ordinal" "I" (.int (2 : Int32)) ∧ Arv Z h' aV kV (.object "com/example/evident_ledger/evidentledger/ExecutorVerdict") (3 : Int32) [(.ref aA), (.ref aU), (.ref aB)] .null ∧ Exa Z h' b15 "com/example/evident_ledger/evidentledger/ExecutorVerdict$Tally" ∧ Exa Z h' b15 "com/example/evident_ledger/evidentledger/ExecutorVerdict$Tally" ∧ Fld Z h' b15 "com/example/evident_ledger/evidentledger/ExecutorVerdict$Tally" "counts" "[J" (.ref ar_26) ∧ Arv Z h' ar_26 kk_26 .long (3 : Int32) [(.long (if (0 : Int32) < v1 then (own_up (0 : Int64) v4 (0 : Int32)) else (0 : Int64))), (.long (if (0 : Int32) < v1 then (own_up (0 : Int64) v4 (1 : Int32)) else (0 : Int64))), (.long (if (0 : Int32) < v1 then (own_up (0 : Int64) v4 (2 : Int32)) else (0 : Int64)))] (.long (0 : Int64)) := by
    by_cases hc44 : (0 : Int32) < v1
    · simp only [if_pos hc44]
      have st38 : Steps p.tables e below (T26.setTop (mkF m 44 #[.val (.int x0), .val (.int x1), .val (.int x2), .val (.int x3), .val (.int x4), .val (.int v1), .val (.int v4), .val (.int v7), .val (.int v10), .val (.int v13), .val (.ref b15), .unset, .unset, .unset, .unset, .unset, .unset] [(.int v1)])) (T26.setTop (mkF m 47 #[.val (.int x0), .val (.int x1), .val (.int x2), .val (.int x3), .val (.int x4), .val (.int v1), .val (.int v4), .val (.int v7), .val (.int v10), .val (.int v13), .val (.ref b15), .unset, .unset, .unset, .unset, .unset, .unset] [])) := by
        refine XS.ifNo X26.here hx rfl (hb hby at_44) rfl ((if0 _ _).trans (tlt hc44).2.2.2) ?_
        exact Steps.refl _
      have pre38 := pre37.trans st38
      have st39 : Steps p.tables e below (T26.setTop (mkF m 47 #[.val (.int x0), .val (.int x1), .val (.int x2), .val (.int x3), .val (.int x4), .val (.int v1), .val (.int v4), .val (.int v7), .val (.int v10), .val (.int v13), .val (.ref b15), .unset, .unset, .unset, .unset, .unset, .unset] [])) (T26.setTop (mkF m 51 #[.val (.int x0), .val (.int x1), .val (.int x2), .val (.int x3), .val (.int x4), .val (.int v1), .val (.int v4), .val (.int v7), .val (.int v10), .val (.int v13), .val (.ref b15), .unset, .unset, .unset, .unset, .unset, .unset] [(.int v4), (.ref b15)])) := by
        refine XS.aload X26.here hx rfl (hb hby at_47) rfl rfl ?_
        show Steps p.tables e below (T26.setTop (mkF m 49 #[.val (.int x0), .val (.int x1), .val (.int x2), .val (.int x3), .val (.int x4), .val (.int v1), .val (.int v4), .val (.int v7), .val (.int v10), .val (.int v13), .val (.ref b15), .unset, .unset, .unset, .unset, .unset, .unset] [(.ref b15)])) _
        refine XS.iload X26.here hx rfl (hb hby at_49) rfl ?_
        show Steps p.tables e below (T26.setTop (mkF m 51 #[.val (.int x0), .val (.int x1), .val (.int x2), .val (.int x3), .val (.int x4), .val (.int v1), .val (.int v4), .val (.int v7), .val (.int v10), .val (.int v13), .val (.ref b15), .unset, .unset, .unset, .unset, .unset, .unset] [(.int v4), (.ref b15)])) _
        exact Steps.refl _
      have pre39 := pre38.trans st39
      obtain ⟨_, _, ⟨T40, L40, k40, n40⟩, -, X40, ⟨Lc40, hQ40, l40, y40, z40⟩, st40⟩ := Jvm.LawKit.callS X26 hx (y := (⟨"com/example/evident_ledger/evidentledger/TallyCountPinLaw", "verdict", "(I)Lcom/example/evident_ledger/evidentledger/ExecutorVerdict;"⟩ : MethodName)) hown (mvT hZ (hw _ (List.mem_of_getElem? (i := 56) rfl))) (mvT hZ (hw _ (List.mem_of_getElem? (i := 57) rfl))) (mvT hZ (hw _ (List.mem_of_getElem? (i := 3) rfl))) (mvT hZ (hw _ (List.mem_of_getElem? (i := 58) rfl))) (by decide) (backOf (W := 1) (rm7 l Z a0 hw [] v4 aA aU aB T26.heap n0 Z26 O26 F28 F29 F30 F31 F32 F33 S_A S_U S_B (own_kind hv4)) hZ (hw _ (List.mem_of_getElem? (i := 58) rfl)) (hw _ (List.mem_of_getElem? (i := 3) rfl)) (by decide) (by decide)) (g := (mkF m 51 #[.val (.int x0), .val (.int x1), .val (.int x2), .val (.int x3), .val (.int x4), .val (.int v1), .val (.int v4), .val (.int v7), .val (.int v10), .val (.int v13), .val (.ref b15), .unset, .unset, .unset, .unset, .unset, .unset] [(.int v4), (.ref b15)])) rfl (by rw [hml]; rfl) (argsL := [(.int v4)]) (rest := [(.ref b15)]) (lenOf pd0_2 rfl) rfl (by show 2 * 0 + _ ≤ _; exact Nat.le_of_eq rfl) (hb hby at_51) (fun _ _ => ⟨rfl, rfl, (by decide : 3 + 0 ≤ _), (by decide : 7 + 0 ≤ _)⟩)
      dsimp only [Pt.U, Pt.locs, Pt.cells, Pt.slots] at X40 l40 y40 z40 st40 hQ40
      subst l40 y40 z40
      obtain ⟨rr_40, rfl, Nq40, Kq40, P40_0, P40_1, R40_0⟩ := hQ40
      have F41 : Exa Z T40.heap aV "[Lcom/example/evident_ledger/evidentledger/ExecutorVerdict;" := F27.keep Kq40
      have F42 : Exa Z T40.heap aA "com/example/evident_ledger/evidentledger/ExecutorVerdict" := F28.keep Kq40
      have F43 : Exa Z T40.heap aU "com/example/evident_ledger/evidentledger/ExecutorVerdict" := F29.keep Kq40
      have F44 : Exa Z T40.heap aB "com/example/evident_ledger/evidentledger/ExecutorVerdict" := F30.keep Kq40
      have F45 : Fld Z T40.heap aA "java/lang/Enum" "ordinal" "I" (.int (0 : Int32)) := F31.keep Kq40 nin0
      have F46 : Fld Z T40.heap aU "java/lang/Enum" "ordinal" "I" (.int (1 : Int32)) := F32.keep Kq40 nin0
      have F47 : Fld Z T40.heap aB "java/lang/Enum" "ordinal" "I" (.int (2 : Int32)) := F33.keep Kq40 nin0
      have F48 : Arv Z T40.heap aV kV (.object "com/example/evident_ledger/evidentledger/ExecutorVerdict") (3 : Int32) [(.ref aA), (.ref aU), (.ref aB)] .null := F34.keep Kq40 nin0
      have F49 : Exa Z T40.heap b15 "com/example/evident_ledger/evidentledger/ExecutorVerdict$Tally" := F35.keep Kq40
      have F50 : Exa Z T40.heap b15 "com/example/evident_ledger/evidentledger/ExecutorVerdict$Tally" := P26_0.keep Kq40
      have F51 : Fld Z T40.heap b15 "com/example/evident_ledger/evidentledger/ExecutorVerdict$Tally" "counts" "[J" (.ref ar_26) := P26_1.keep Kq40 nin0
      have F52 : Arv Z T40.heap ar_26 kk_26 .long (3 : Int32) [(.long (0 : Int64)), (.long (0 : Int64)), (.long (0 : Int64))] (.long (0 : Int64)) := P26_2.keep Kq40 nin0
      have KK40 := KK26.trans Kq40 all0
      have Z40 : n0 ≤ T40.heap.size := Nat.le_trans Z26 Kq40.1
      have O40 := O26.keep Kq40 all0
      have N40 := Fr.app N26 Nq40
      have pre40 : Steps p.tables e below (s₁.setTop (entryFrame m #[(.int x0), (.int x1), (.int x2), (.int x3), (.int x4)] maxLocals)) (T40.setTop (mkF m 54 #[.val (.int x0), .val (.int x1), .val (.int x2), .val (.int x3), .val (.int x4), .val (.int v1), .val (.int v4), .val (.int v7), .val (.int v10), .val (.int v13), .val (.ref b15), .unset, .unset, .unset, .unset, .unset, .unset] [(.ref rr_40), (.ref b15)])) := pre39.trans (st40 _ (Steps.refl _))
      obtain ⟨cq53, kq53, q53a, q53b, q53c⟩ := isOf hZ rfl F49
      obtain ⟨_, _, ⟨T53, L53, k53, n53⟩, -, X53, ⟨Lc53, hQ53, l53, y53, z53⟩, st53⟩ := X40.virtualBack hx (y := (⟨"com/example/evident_ledger/evidentledger/ExecutorVerdict$Tally", "count", "(Lcom/example/evident_ledger/evidentledger/ExecutorVerdict;)V"⟩ : MethodName)) (z := (⟨"com/example/evident_ledger/evidentledger/ExecutorVerdict$Tally", "count", "(Lcom/example/evident_ledger/evidentledger/ExecutorVerdict;)V"⟩ : MethodName)) hown (mvT hZ (hw _ (List.mem_of_getElem? (i := 59) rfl))) (mvT hZ (hw _ (List.mem_of_getElem? (i := 60) rfl))) (notFace_of_selects (args := #[]) (mvT hZ (hw _ (List.mem_of_getElem? (i := 62) rfl)))) (mvT hZ (hw _ (List.mem_of_getElem? (i := 62) rfl))) (mvT hZ (hw _ (List.mem_of_getElem? (i := 61) rfl))) (by decide) (backOf (W := 0) (rm5 l Z a0 hw [] b15 rr_40 ar_26 kk_26 (0 : Int64) (0 : Int64) (0 : Int64) v4 T40.heap n0 Z40 F51 F52 P40_0 P40_1 gnA (own_kind hv4) neb15_ar_26 (R40_0.elim (fun h => by rw [h]; exact neaA_ar_26) (fun h => h.elim (fun h => by rw [h]; exact neaU_ar_26) (fun h => by rw [h]; exact neaB_ar_26)))) hZ (hw _ (List.mem_of_getElem? (i := 63) rfl)) (hw _ (List.mem_of_getElem? (i := 7) rfl)) (by decide) (by decide)) q53a q53c (g := (mkF m 54 #[.val (.int x0), .val (.int x1), .val (.int x2), .val (.int x3), .val (.int x4), .val (.int v1), .val (.int v4), .val (.int v7), .val (.int v10), .val (.int v13), .val (.ref b15), .unset, .unset, .unset, .unset, .unset, .unset] [(.ref rr_40), (.ref b15)])) rfl (by rw [hml]; rfl) (Steps.refl _) (argsL := [(.ref rr_40)]) (rest := []) (lenOf pd0_3 rfl) rfl (by show 2 * 0 + _ ≤ _; exact Nat.le_of_eq rfl) (hb hby at_54) (fun _ _ => ⟨rfl, rfl, (by decide : 3 + 0 ≤ _), (by decide : 7 + 0 ≤ _)⟩)
      dsimp only [Pt.U, Pt.locs, Pt.cells, Pt.slots] at X53 l53 y53 z53 st53 hQ53
      subst l53 y53 z53
      obtain ⟨rfl, Nq53, Kq53, P53_0⟩ := hQ53
      have F54 : Exa Z T53.heap aV "[Lcom/example/evident_ledger/evidentledger/ExecutorVerdict;" := F41.keep Kq53
      have F55 : Exa Z T53.heap aA "com/example/evident_ledger/evidentledger/ExecutorVerdict" := F42.keep Kq53
      have F56 : Exa Z T53.heap aU "com/example/evident_ledger/evidentledger/ExecutorVerdict" := F43.keep Kq53
      have F57 : Exa Z T53.heap aB "com/example/evident_ledger/evidentledger/ExecutorVerdict" := F44.keep Kq53
      have F58 : Fld Z T53.heap aA "java/lang/Enum" "ordinal" "I" (.int (0 : Int32)) := F45.keep Kq53 (ninS neaA_ar_26 nin0)
      have F59 : Fld Z T53.heap aU "java/lang/Enum" "ordinal" "I" (.int (1 : Int32)) := F46.keep Kq53 (ninS neaU_ar_26 nin0)
      have F60 : Fld Z T53.heap aB "java/lang/Enum" "ordinal" "I" (.int (2 : Int32)) := F47.keep Kq53 (ninS neaB_ar_26 nin0)
      have F61 : Arv Z T53.heap aV kV (.object "com/example/evident_ledger/evidentledger/ExecutorVerdict") (3 : Int32) [(.ref aA), (.ref aU), (.ref aB)] .null := F48.keep Kq53 (ninS neaV_ar_26 nin0)
      have F62 : Exa Z T53.heap b15 "com/example/evident_ledger/evidentledger/ExecutorVerdict$Tally" := F49.keep Kq53
      have F63 : Exa Z T53.heap b15 "com/example/evident_ledger/evidentledger/ExecutorVerdict$Tally" := F50.keep Kq53
      have F64 : Fld Z T53.heap b15 "com/example/evident_ledger/evidentledger/ExecutorVerdict$Tally" "counts" "[J" (.ref ar_26) := F51.keep Kq53 (ninS neb15_ar_26 nin0)
      have F66 : Exa Z T53.heap rr_40 "com/example/evident_ledger/evidentledger/ExecutorVerdict" := P40_0.keep Kq53
      have KK53 := KK40.trans Kq53 (allS (Or.inr szA) all0)
      have Z53 : n0 ≤ T53.heap.size := Nat.le_trans Z40 Kq53.1
      have O53 := O40.keep Kq53 (allS gnA all0)
      have N53 := Fr.app N40 Nq53
      have pre53 : Steps p.tables e below (s₁.setTop (entryFrame m #[(.int x0), (.int x1), (.int x2), (.int x3), (.int x4)] maxLocals)) (T53.setTop (mkF m 57 #[.val (.int x0), .val (.int x1), .val (.int x2), .val (.int x3), .val (.int x4), .val (.int v1), .val (.int v4), .val (.int v7), .val (.int v10), .val (.int v13), .val (.ref b15), .unset, .unset, .unset, .unset, .unset, .unset] [])) := pre40.trans st53
      exact ⟨T53, _, _, X53, rfl, N53, Z53, O53, KK53, pre53, F54, F55, F56, F57, F58, F59, F60, F61, F62, F63, F64, P53_0⟩
    · simp only [if_neg hc44]
      have st68 : Steps p.tables e below (T26.setTop (mkF m 44 #[.val (.int x0), .val (.int x1), .val (.int x2), .val (.int x3), .val (.int x4), .val (.int v1), .val (.int v4), .val (.int v7), .val (.int v10), .val (.int v13), .val (.ref b15), .unset, .unset, .unset, .unset, .unset, .unset] [(.int v1)])) (T26.setTop (mkF m 57 #[.val (.int x0), .val (.int x1), .val (.int x2), .val (.int x3), .val (.int x4), .val (.int v1), .val (.int v4), .val (.int v7), .val (.int v10), .val (.int v13), .val (.ref b15), .unset, .unset, .unset, .unset, .unset, .unset] [])) := by
        refine XS.ifYes X26.here hx rfl (pc0 := 44) (pc' := 57) rfl (hb hby at_44) rfl ((if0 _ _).trans (flt hc44).2.2.2) (by decide) (by decide) ?_
        exact Steps.refl _
      have pre68 := pre37.trans st68
      exact ⟨T26, _, _, X26, rfl, N26, Z26, O26, KK26, pre68, F27, F28, F29, F30, F31, F32, F33, F34, F35, F35, P26_1, P26_2⟩
  have st70 : Steps p.tables e below (T69.setTop (mkF m 57 #[.val (.int x0), .val (.int x1), .val (.int x2), .val (.int x3), .val (.int x4), .val (.int v1), .val (.int v4), .val (.int v7), .val (.int v10), .val (.int v13), .val (.ref b15), .unset, .unset, .unset, .unset, .unset, .unset] [])) (T69.setTop (mkF m 60 #[.val (.int x0), .val (.int x1), .val (.int x2), .val (.int x3), .val (.int x4), .val (.int v1), .val (.int v4), .val (.int v7), .val (.int v10), .val (.int v13), .val (.ref b15), .unset, .unset, .unset, .unset, .unset, .unset] [(.int (1 : Int32)), (.int v1)])) := by
    refine XS.iload X69.here hx rfl (hb hby at_57) rfl ?_
    show Steps p.tables e below (T69.setTop (mkF m 59 #[.val (.int x0), .val (.int x1), .val (.int x2), .val (.int x3), .val (.int x4), .val (.int v1), .val (.int v4), .val (.int v7), .val (.int v10), .val (.int v13), .val (.ref b15), .unset, .unset, .unset, .unset, .unset, .unset] [(.int v1)])) _
    refine XS.iconst X69.here hx rfl (hb hby at_59) ?_
    show Steps p.tables e below (T69.setTop (mkF m 60 #[.val (.int x0), .val (.int x1), .val (.int x2), .val (.int x3), .val (.int x4), .val (.int v1), .val (.int v4), .val (.int v7), .val (.int v10), .val (.int v13), .val (.ref b15), .unset, .unset, .unset, .unset, .unset, .unset] [(.int (1 : Int32)), (.int v1)])) _
    exact Steps.refl _
  have pre70 := pre69.trans st70
  obtain ⟨T102, h102, lc102, X102, e102, N102, Z102, O102, K102, pre102, J102_0, J102_1, J102_2, J102_3, J102_4, J102_5, J102_6, J102_7, J102_8, J102_9, J102_10, J102_11⟩ : ∃ (T' : State) (h' : Heap) (lc : List Loc), Stand p l e room_1 s m #[(.int x0), (.int x1), (.int x2), (.int x3), (.int x4)] below meth c T' lc 3 7 ∧ T'.heap = h' ∧ Fr n0 lc ∧ n0 ≤ h'.size ∧ Old Z n0 h' ∧ Keep h0 h' [] ∧ Steps p.tables e below (s₁.setTop (entryFrame m #[(.int x0), (.int x1), (.int x2), (.int x3), (.int x4)] maxLocals)) (T'.setTop (mkF m 73 #[.val (.int x0), .val (.int x1), .val (.int x2), .val (.int x3), .val (.int x4), .val (.int v1), .val (.int v4), .val (.int v7), .val (.int v10), .val (.int v13), .val (.ref b15), .unset, .unset, .unset, .unset, .unset, .unset] [])) ∧ Exa Z h' aV "[Lcom/example/evident_ledger/evidentledger/ExecutorVerdict;" ∧ Exa Z h' aA "com/example/evident_ledger/evidentledger/ExecutorVerdict" ∧ Exa Z h' aU "com/example/evident_ledger/evidentledger/ExecutorVerdict" ∧ Exa Z h' aB "com/example/evident_ledger/evidentledger/ExecutorVerdict" ∧ Fld Z h' aA "java/lang/Enum" "ordinal" "I" (.int (0 : Int32)) ∧ Fld Z h' aU "java/lang/Enum" "ordinal" "I" (.int (1 : Int32)) ∧ Fld Z h' aB "java/lang/Enum" "ordinal" "I" (.int (2 : Int32)) ∧ Arv Z h' aV kV (.object "com/example/evident_ledger/evidentledger/ExecutorVerdict") (3 : Int32) [(.ref aA), (.ref aU), (.ref aB)] .null ∧ Exa Z h' b15 "com/example/evident_ledger/evidentledger/ExecutorVerdict$Tally" ∧ Exa Z h' b15 "com/example/evident_ledger/evidentledger/ExecutorVerdict$Tally" ∧ Fld Z h' b15 "com/example/evident_ledger/evidentledger/ExecutorVerdict$Tally" "counts" "[J" (.ref ar_26) ∧ Arv Z h' ar_26 kk_26 .long (3 : Int32) [(.long (if (1 : Int32) < v1 then (own_up (if (0 : Int32) < v1 then (own_up (0 : Int64) v4 (0 : Int32)) else (0 : Int64)) v7 (0 : Int32)) else (if (0 : Int32) < v1 then (own_up (0 : Int64) v4 (0 : Int32)) else (0 : Int64)))), (.long (if (1 : Int32) < v1 then (own_up (if (0 : Int32) < v1 then (own_up (0 : Int64) v4 (1 : Int32)) else (0 : Int64)) v7 (1 : Int32)) else (if (0 : Int32) < v1 then (own_up (0 : Int64) v4 (1 : Int32)) else (0 : Int64)))), (.long (if (1 : Int32) < v1 then (own_up (if (0 : Int32) < v1 then (own_up (0 : Int64) v4 (2 : Int32)) else (0 : Int64)) v7 (2 : Int32)) else (if (0 : Int32) < v1 then (own_up (0 : Int64) v4 (2 : Int32)) else (0 : Int64))))] (.long (0 : Int64)) := by
    by_cases hc60 : (1 : Int32) < v1
    · simp only [if_pos hc60]
      have st71 : Steps p.tables e below (T69.setTop (mkF m 60 #[.val (.int x0), .val (.int x1), .val (.int x2), .val (.int x3), .val (.int x4), .val (.int v1), .val (.int v4), .val (.int v7), .val (.int v10), .val (.int v13), .val (.ref b15), .unset, .unset, .unset, .unset, .unset, .unset] [(.int (1 : Int32)), (.int v1)])) (T69.setTop (mkF m 63 #[.val (.int x0), .val (.int x1), .val (.int x2), .val (.int x3), .val (.int x4), .val (.int v1), .val (.int v4), .val (.int v7), .val (.int v10), .val (.int v13), .val (.ref b15), .unset, .unset, .unset, .unset, .unset, .unset] [])) := by
        refine XS.icmpNo X69.here hx rfl (hb hby at_60) rfl (tlt hc60).2.2.2 ?_
        exact Steps.refl _
      have pre71 := pre70.trans st71
      have st72 : Steps p.tables e below (T69.setTop (mkF m 63 #[.val (.int x0), .val (.int x1), .val (.int x2), .val (.int x3), .val (.int x4), .val (.int v1), .val (.int v4), .val (.int v7), .val (.int v10), .val (.int v13), .val (.ref b15), .unset, .unset, .unset, .unset, .unset, .unset] [])) (T69.setTop (mkF m 67 #[.val (.int x0), .val (.int x1), .val (.int x2), .val (.int x3), .val (.int x4), .val (.int v1), .val (.int v4), .val (.int v7), .val (.int v10), .val (.int v13), .val (.ref b15), .unset, .unset, .unset, .unset, .unset, .unset] [(.int v7), (.ref b15)])) := by
        refine XS.aload X69.here hx rfl (hb hby at_63) rfl rfl ?_
        show Steps p.tables e below (T69.setTop (mkF m 65 #[.val (.int x0), .val (.int x1), .val (.int x2), .val (.int x3), .val (.int x4), .val (.int v1), .val (.int v4), .val (.int v7), .val (.int v10), .val (.int v13), .val (.ref b15), .unset, .unset, .unset, .unset, .unset, .unset] [(.ref b15)])) _
        refine XS.iload X69.here hx rfl (hb hby at_65) rfl ?_
        show Steps p.tables e below (T69.setTop (mkF m 67 #[.val (.int x0), .val (.int x1), .val (.int x2), .val (.int x3), .val (.int x4), .val (.int v1), .val (.int v4), .val (.int v7), .val (.int v10), .val (.int v13), .val (.ref b15), .unset, .unset, .unset, .unset, .unset, .unset] [(.int v7), (.ref b15)])) _
        exact Steps.refl _
      have pre72 := pre71.trans st72
      obtain ⟨_, _, ⟨T73, L73, k73, n73⟩, -, X73, ⟨Lc73, hQ73, l73, y73, z73⟩, st73⟩ := Jvm.LawKit.callS X69 hx (y := (⟨"com/example/evident_ledger/evidentledger/TallyCountPinLaw", "verdict", "(I)Lcom/example/evident_ledger/evidentledger/ExecutorVerdict;"⟩ : MethodName)) hown (mvT hZ (hw _ (List.mem_of_getElem? (i := 56) rfl))) (mvT hZ (hw _ (List.mem_of_getElem? (i := 57) rfl))) (mvT hZ (hw _ (List.mem_of_getElem? (i := 3) rfl))) (mvT hZ (hw _ (List.mem_of_getElem? (i := 58) rfl))) (by decide) (backOf (W := 1) (rm7 l Z a0 hw [] v7 aA aU aB h69 n0 Z69 O69 J69_1 J69_2 J69_3 J69_4 J69_5 J69_6 S_A S_U S_B (own_kind hv7)) hZ (hw _ (List.mem_of_getElem? (i := 58) rfl)) (hw _ (List.mem_of_getElem? (i := 3) rfl)) (by decide) (by decide)) (g := (mkF m 67 #[.val (.int x0), .val (.int x1), .val (.int x2), .val (.int x3), .val (.int x4), .val (.int v1), .val (.int v4), .val (.int v7), .val (.int v10), .val (.int v13), .val (.ref b15), .unset, .unset, .unset, .unset, .unset, .unset] [(.int v7), (.ref b15)])) rfl (by rw [hml]; rfl) (argsL := [(.int v7)]) (rest := [(.ref b15)]) (lenOf pd0_2 rfl) rfl (by show 2 * 0 + _ ≤ _; exact Nat.le_of_eq rfl) (hb hby at_67) (fun _ _ => ⟨rfl, e69, (by decide : 3 + 0 ≤ _), (by decide : 7 + 0 ≤ _)⟩)
      dsimp only [Pt.U, Pt.locs, Pt.cells, Pt.slots] at X73 l73 y73 z73 st73 hQ73
      subst l73 y73 z73
      obtain ⟨rr_73, rfl, Nq73, Kq73, P73_0, P73_1, R73_0⟩ := hQ73
      have F74 : Exa Z T73.heap aV "[Lcom/example/evident_ledger/evidentledger/ExecutorVerdict;" := J69_0.keep Kq73
      have F75 : Exa Z T73.heap aA "com/example/evident_ledger/evidentledger/ExecutorVerdict" := J69_1.keep Kq73
      have F76 : Exa Z T73.heap aU "com/example/evident_ledger/evidentledger/ExecutorVerdict" := J69_2.keep Kq73
      have F77 : Exa Z T73.heap aB "com/example/evident_ledger/evidentledger/ExecutorVerdict" := J69_3.keep Kq73
      have F78 : Fld Z T73.heap aA "java/lang/Enum" "ordinal" "I" (.int (0 : Int32)) := J69_4.keep Kq73 nin0
      have F79 : Fld Z T73.heap aU "java/lang/Enum" "ordinal" "I" (.int (1 : Int32)) := J69_5.keep Kq73 nin0
      have F80 : Fld Z T73.heap aB "java/lang/Enum" "ordinal" "I" (.int (2 : Int32)) := J69_6.keep Kq73 nin0
      have F81 : Arv Z T73.heap aV kV (.object "com/example/evident_ledger/evidentledger/ExecutorVerdict") (3 : Int32) [(.ref aA), (.ref aU), (.ref aB)] .null := J69_7.keep Kq73 nin0
      have F82 : Exa Z T73.heap b15 "com/example/evident_ledger/evidentledger/ExecutorVerdict$Tally" := J69_8.keep Kq73
      have F83 : Exa Z T73.heap b15 "com/example/evident_ledger/evidentledger/ExecutorVerdict$Tally" := J69_9.keep Kq73
      have F84 : Fld Z T73.heap b15 "com/example/evident_ledger/evidentledger/ExecutorVerdict$Tally" "counts" "[J" (.ref ar_26) := J69_10.keep Kq73 nin0
      have F85 : Arv Z T73.heap ar_26 kk_26 .long (3 : Int32) [(.long (if (0 : Int32) < v1 then (own_up (0 : Int64) v4 (0 : Int32)) else (0 : Int64))), (.long (if (0 : Int32) < v1 then (own_up (0 : Int64) v4 (1 : Int32)) else (0 : Int64))), (.long (if (0 : Int32) < v1 then (own_up (0 : Int64) v4 (2 : Int32)) else (0 : Int64)))] (.long (0 : Int64)) := J69_11.keep Kq73 nin0
      have KK73 := K69.trans Kq73 all0
      have Z73 : n0 ≤ T73.heap.size := Nat.le_trans Z69 Kq73.1
      have O73 := O69.keep Kq73 all0
      have N73 := Fr.app N69 Nq73
      have pre73 : Steps p.tables e below (s₁.setTop (entryFrame m #[(.int x0), (.int x1), (.int x2), (.int x3), (.int x4)] maxLocals)) (T73.setTop (mkF m 70 #[.val (.int x0), .val (.int x1), .val (.int x2), .val (.int x3), .val (.int x4), .val (.int v1), .val (.int v4), .val (.int v7), .val (.int v10), .val (.int v13), .val (.ref b15), .unset, .unset, .unset, .unset, .unset, .unset] [(.ref rr_73), (.ref b15)])) := pre72.trans (st73 _ (Steps.refl _))
      obtain ⟨cq86, kq86, q86a, q86b, q86c⟩ := isOf hZ rfl F82
      obtain ⟨_, _, ⟨T86, L86, k86, n86⟩, -, X86, ⟨Lc86, hQ86, l86, y86, z86⟩, st86⟩ := X73.virtualBack hx (y := (⟨"com/example/evident_ledger/evidentledger/ExecutorVerdict$Tally", "count", "(Lcom/example/evident_ledger/evidentledger/ExecutorVerdict;)V"⟩ : MethodName)) (z := (⟨"com/example/evident_ledger/evidentledger/ExecutorVerdict$Tally", "count", "(Lcom/example/evident_ledger/evidentledger/ExecutorVerdict;)V"⟩ : MethodName)) hown (mvT hZ (hw _ (List.mem_of_getElem? (i := 59) rfl))) (mvT hZ (hw _ (List.mem_of_getElem? (i := 60) rfl))) (notFace_of_selects (args := #[]) (mvT hZ (hw _ (List.mem_of_getElem? (i := 62) rfl)))) (mvT hZ (hw _ (List.mem_of_getElem? (i := 62) rfl))) (mvT hZ (hw _ (List.mem_of_getElem? (i := 61) rfl))) (by decide) (backOf (W := 0) (rm5 l Z a0 hw [] b15 rr_73 ar_26 kk_26 (if (0 : Int32) < v1 then (own_up (0 : Int64) v4 (0 : Int32)) else (0 : Int64)) (if (0 : Int32) < v1 then (own_up (0 : Int64) v4 (1 : Int32)) else (0 : Int64)) (if (0 : Int32) < v1 then (own_up (0 : Int64) v4 (2 : Int32)) else (0 : Int64)) v7 T73.heap n0 Z73 F84 F85 P73_0 P73_1 gnA (own_kind hv7) neb15_ar_26 (R73_0.elim (fun h => by rw [h]; exact neaA_ar_26) (fun h => h.elim (fun h => by rw [h]; exact neaU_ar_26) (fun h => by rw [h]; exact neaB_ar_26)))) hZ (hw _ (List.mem_of_getElem? (i := 63) rfl)) (hw _ (List.mem_of_getElem? (i := 7) rfl)) (by decide) (by decide)) q86a q86c (g := (mkF m 70 #[.val (.int x0), .val (.int x1), .val (.int x2), .val (.int x3), .val (.int x4), .val (.int v1), .val (.int v4), .val (.int v7), .val (.int v10), .val (.int v13), .val (.ref b15), .unset, .unset, .unset, .unset, .unset, .unset] [(.ref rr_73), (.ref b15)])) rfl (by rw [hml]; rfl) (Steps.refl _) (argsL := [(.ref rr_73)]) (rest := []) (lenOf pd0_3 rfl) rfl (by show 2 * 0 + _ ≤ _; exact Nat.le_of_eq rfl) (hb hby at_70) (fun _ _ => ⟨rfl, rfl, (by decide : 3 + 0 ≤ _), (by decide : 7 + 0 ≤ _)⟩)
      dsimp only [Pt.U, Pt.locs, Pt.cells, Pt.slots] at X86 l86 y86 z86 st86 hQ86
      subst l86 y86 z86
      obtain ⟨rfl, Nq86, Kq86, P86_0⟩ := hQ86
      have F87 : Exa Z T86.heap aV "[Lcom/example/evident_ledger/evidentledger/ExecutorVerdict;" := F74.keep Kq86
      have F88 : Exa Z T86.heap aA "com/example/evident_ledger/evidentledger/ExecutorVerdict" := F75.keep Kq86
      have F89 : Exa Z T86.heap aU "com/example/evident_ledger/evidentledger/ExecutorVerdict" := F76.keep Kq86
      have F90 : Exa Z T86.heap aB "com/example/evident_ledger/evidentledger/ExecutorVerdict" := F77.keep Kq86
      have F91 : Fld Z T86.heap aA "java/lang/Enum" "ordinal" "I" (.int (0 : Int32)) := F78.keep Kq86 (ninS neaA_ar_26 nin0)
      have F92 : Fld Z T86.heap aU "java/lang/Enum" "ordinal" "I" (.int (1 : Int32)) := F79.keep Kq86 (ninS neaU_ar_26 nin0)
      have F93 : Fld Z T86.heap aB "java/lang/Enum" "ordinal" "I" (.int (2 : Int32)) := F80.keep Kq86 (ninS neaB_ar_26 nin0)
      have F94 : Arv Z T86.heap aV kV (.object "com/example/evident_ledger/evidentledger/ExecutorVerdict") (3 : Int32) [(.ref aA), (.ref aU), (.ref aB)] .null := F81.keep Kq86 (ninS neaV_ar_26 nin0)
      have F95 : Exa Z T86.heap b15 "com/example/evident_ledger/evidentledger/ExecutorVerdict$Tally" := F82.keep Kq86
      have F96 : Exa Z T86.heap b15 "com/example/evident_ledger/evidentledger/ExecutorVerdict$Tally" := F83.keep Kq86
      have F97 : Fld Z T86.heap b15 "com/example/evident_ledger/evidentledger/ExecutorVerdict$Tally" "counts" "[J" (.ref ar_26) := F84.keep Kq86 (ninS neb15_ar_26 nin0)
      have F99 : Exa Z T86.heap rr_73 "com/example/evident_ledger/evidentledger/ExecutorVerdict" := P73_0.keep Kq86
      have KK86 := KK73.trans Kq86 (allS (Or.inr szA) all0)
      have Z86 : n0 ≤ T86.heap.size := Nat.le_trans Z73 Kq86.1
      have O86 := O73.keep Kq86 (allS gnA all0)
      have N86 := Fr.app N73 Nq86
      have pre86 : Steps p.tables e below (s₁.setTop (entryFrame m #[(.int x0), (.int x1), (.int x2), (.int x3), (.int x4)] maxLocals)) (T86.setTop (mkF m 73 #[.val (.int x0), .val (.int x1), .val (.int x2), .val (.int x3), .val (.int x4), .val (.int v1), .val (.int v4), .val (.int v7), .val (.int v10), .val (.int v13), .val (.ref b15), .unset, .unset, .unset, .unset, .unset, .unset] [])) := pre73.trans st86
      exact ⟨T86, _, _, X86, rfl, N86, Z86, O86, KK86, pre86, F87, F88, F89, F90, F91, F92, F93, F94, F95, F96, F97, P86_0⟩
    · simp only [if_neg hc60]
      have st101 : Steps p.tables e below (T69.setTop (mkF m 60 #[.val (.int x0), .val (.int x1), .val (.int x2), .val (.int x3), .val (.int x4), .val (.int v1), .val (.int v4), .val (.int v7), .val (.int v10), .val (.int v13), .val (.ref b15), .unset, .unset, .unset, .unset, .unset, .unset] [(.int (1 : Int32)), (.int v1)])) (T69.setTop (mkF m 73 #[.val (.int x0), .val (.int x1), .val (.int x2), .val (.int x3), .val (.int x4), .val (.int v1), .val (.int v4), .val (.int v7), .val (.int v10), .val (.int v13), .val (.ref b15), .unset, .unset, .unset, .unset, .unset, .unset] [])) := by
        refine XS.icmpYes X69.here hx rfl (pc0 := 60) (pc' := 73) rfl (hb hby at_60) rfl (flt hc60).2.2.2 (by decide) (by decide) ?_
        exact Steps.refl _
      have pre101 := pre70.trans st101
      exact ⟨T69, _, _, X69, e69, N69, Z69, O69, K69, pre101, J69_0, J69_1, J69_2, J69_3, J69_4, J69_5, J69_6, J69_7, J69_8, J69_8, J69_10, J69_11⟩
  have st103 : Steps p.tables e below (T102.setTop (mkF m 73 #[.val (.int x0), .val (.int x1), .val (.int x2), .val (.int x3), .val (.int x4), .val (.int v1), .val (.int v4), .val (.int v7), .val (.int v10), .val (.int v13), .val (.ref b15), .unset, .unset, .unset, .unset, .unset, .unset] [])) (T102.setTop (mkF m 76 #[.val (.int x0), .val (.int x1), .val (.int x2), .val (.int x3), .val (.int x4), .val (.int v1), .val (.int v4), .val (.int v7), .val (.int v10), .val (.int v13), .val (.ref b15), .unset, .unset, .unset, .unset, .unset, .unset] [(.int (2 : Int32)), (.int v1)])) := by
    refine XS.iload X102.here hx rfl (hb hby at_73) rfl ?_
    show Steps p.tables e below (T102.setTop (mkF m 75 #[.val (.int x0), .val (.int x1), .val (.int x2), .val (.int x3), .val (.int x4), .val (.int v1), .val (.int v4), .val (.int v7), .val (.int v10), .val (.int v13), .val (.ref b15), .unset, .unset, .unset, .unset, .unset, .unset] [(.int v1)])) _
    refine XS.iconst X102.here hx rfl (hb hby at_75) ?_
    show Steps p.tables e below (T102.setTop (mkF m 76 #[.val (.int x0), .val (.int x1), .val (.int x2), .val (.int x3), .val (.int x4), .val (.int v1), .val (.int v4), .val (.int v7), .val (.int v10), .val (.int v13), .val (.ref b15), .unset, .unset, .unset, .unset, .unset, .unset] [(.int (2 : Int32)), (.int v1)])) _
    exact Steps.refl _
  have pre103 := pre102.trans st103
  obtain ⟨T135, h135, lc135, X135, e135, N135, Z135, O135, K135, pre135, J135_0, J135_1, J135_2, J135_3, J135_4, J135_5, J135_6, J135_7, J135_8, J135_9, J135_10, J135_11⟩ : ∃ (T' : State) (h' : Heap) (lc : List Loc), Stand p l e room_1 s m #[(.int x0), (.int x1), (.int x2), (.int x3), (.int x4)] below meth c T' lc 3 7 ∧ T'.heap = h' ∧ Fr n0 lc ∧ n0 ≤ h'.size ∧ Old Z n0 h' ∧ Keep h0 h' [] ∧ Steps p.tables e below (s₁.setTop (entryFrame m #[(.int x0), (.int x1), (.int x2), (.int x3), (.int x4)] maxLocals)) (T'.setTop (mkF m 89 #[.val (.int x0), .val (.int x1), .val (.int x2), .val (.int x3), .val (.int x4), .val (.int v1), .val (.int v4), .val (.int v7), .val (.int v10), .val (.int v13), .val (.ref b15), .unset, .unset, .unset, .unset, .unset, .unset] [])) ∧ Exa Z h' aV "[Lcom/example/evident_ledger/evidentledger/ExecutorVerdict;" ∧ Exa Z h' aA "com/example/evident_ledger/evidentledger/ExecutorVerdict" ∧ Exa Z h' aU "com/example/evident_ledger/evidentledger/ExecutorVerdict" ∧ Exa Z h' aB "com/example/evident_ledger/evidentledger/ExecutorVerdict" ∧ Fld Z h' aA "java/lang/Enum" "ordinal" "I" (.int (0 : Int32)) ∧ Fld Z h' aU "java/lang/Enum" "ordinal" "I" (.int (1 : Int32)) ∧ Fld Z h' aB "java/lang/Enum" "ordinal" "I" (.int (2 : Int32)) ∧ Arv Z h' aV kV (.object "com/example/evident_ledger/evidentledger/ExecutorVerdict") (3 : Int32) [(.ref aA), (.ref aU), (.ref aB)] .null ∧ Exa Z h' b15 "com/example/evident_ledger/evidentledger/ExecutorVerdict$Tally" ∧ Exa Z h' b15 "com/example/evident_ledger/evidentledger/ExecutorVerdict$Tally" ∧ Fld Z h' b15 "com/example/evident_ledger/evidentledger/ExecutorVerdict$Tally" "counts" "[J" (.ref ar_26) ∧ Arv Z h' ar_26 kk_26 .long (3 : Int32) [(.long (if (2 : Int32) < v1 then (own_up (if (1 : Int32) < v1 then (own_up (if (0 : Int32) < v1 then (own_up (0 : Int64) v4 (0 : Int32)) else (0 : Int64)) v7 (0 : Int32)) else (if (0 : Int32) < v1 then (own_up (0 : Int64) v4 (0 : Int32)) else (0 : Int64))) v10 (0 : Int32)) else (if (1 : Int32) < v1 then (own_up (if (0 : Int32) < v1 then (own_up (0 : Int64) v4 (0 : Int32)) else (0 : Int64)) v7 (0 : Int32)) else (if (0 : Int32) < v1 then (own_up (0 : Int64) v4 (0 : Int32)) else (0 : Int64))))), (.long (if (2 : Int32) < v1 then (own_up (if (1 : Int32) < v1 then (own_up (if (0 : Int32) < v1 then (own_up (0 : Int64) v4 (1 : Int32)) else (0 : Int64)) v7 (1 : Int32)) else (if (0 : Int32) < v1 then (own_up (0 : Int64) v4 (1 : Int32)) else (0 : Int64))) v10 (1 : Int32)) else (if (1 : Int32) < v1 then (own_up (if (0 : Int32) < v1 then (own_up (0 : Int64) v4 (1 : Int32)) else (0 : Int64)) v7 (1 : Int32)) else (if (0 : Int32) < v1 then (own_up (0 : Int64) v4 (1 : Int32)) else (0 : Int64))))), (.long (if (2 : Int32) < v1 then (own_up (if (1 : Int32) < v1 then (own_up (if (0 : Int32) < v1 then (own_up (0 : Int64) v4 (2 : Int32)) else (0 : Int64)) v7 (2 : Int32)) else (if (0 : Int32) < v1 then (own_up (0 : Int64) v4 (2 : Int32)) else (0 : Int64))) v10 (2 : Int32)) else (if (1 : Int32) < v1 then (own_up (if (0 : Int32) < v1 then (own_up (0 : Int64) v4 (2 : Int32)) else (0 : Int64)) v7 (2 : Int32)) else (if (0 : Int32) < v1 then (own_up (0 : Int64) v4 (2 : Int32)) else (0 : Int64)))))] (.long (0 : Int64)) := by
    by_cases hc76 : (2 : Int32) < v1
    · simp only [if_pos hc76]
      have st104 : Steps p.tables e below (T102.setTop (mkF m 76 #[.val (.int x0), .val (.int x1), .val (.int x2), .val (.int x3), .val (.int x4), .val (.int v1), .val (.int v4), .val (.int v7), .val (.int v10), .val (.int v13), .val (.ref b15), .unset, .unset, .unset, .unset, .unset, .unset] [(.int (2 : Int32)), (.int v1)])) (T102.setTop (mkF m 79 #[.val (.int x0), .val (.int x1), .val (.int x2), .val (.int x3), .val (.int x4), .val (.int v1), .val (.int v4), .val (.int v7), .val (.int v10), .val (.int v13), .val (.ref b15), .unset, .unset, .unset, .unset, .unset, .unset] [])) := by
        refine XS.icmpNo X102.here hx rfl (hb hby at_76) rfl (tlt hc76).2.2.2 ?_
        exact Steps.refl _
      have pre104 := pre103.trans st104
      have st105 : Steps p.tables e below (T102.setTop (mkF m 79 #[.val (.int x0), .val (.int x1), .val (.int x2), .val (.int x3), .val (.int x4), .val (.int v1), .val (.int v4), .val (.int v7), .val (.int v10), .val (.int v13), .val (.ref b15), .unset, .unset, .unset, .unset, .unset, .unset] [])) (T102.setTop (mkF m 83 #[.val (.int x0), .val (.int x1), .val (.int x2), .val (.int x3), .val (.int x4), .val (.int v1), .val (.int v4), .val (.int v7), .val (.int v10), .val (.int v13), .val (.ref b15), .unset, .unset, .unset, .unset, .unset, .unset] [(.int v10), (.ref b15)])) := by
        refine XS.aload X102.here hx rfl (hb hby at_79) rfl rfl ?_
        show Steps p.tables e below (T102.setTop (mkF m 81 #[.val (.int x0), .val (.int x1), .val (.int x2), .val (.int x3), .val (.int x4), .val (.int v1), .val (.int v4), .val (.int v7), .val (.int v10), .val (.int v13), .val (.ref b15), .unset, .unset, .unset, .unset, .unset, .unset] [(.ref b15)])) _
        refine XS.iload X102.here hx rfl (hb hby at_81) rfl ?_
        show Steps p.tables e below (T102.setTop (mkF m 83 #[.val (.int x0), .val (.int x1), .val (.int x2), .val (.int x3), .val (.int x4), .val (.int v1), .val (.int v4), .val (.int v7), .val (.int v10), .val (.int v13), .val (.ref b15), .unset, .unset, .unset, .unset, .unset, .unset] [(.int v10), (.ref b15)])) _
        exact Steps.refl _
      have pre105 := pre104.trans st105
      obtain ⟨_, _, ⟨T106, L106, k106, n106⟩, -, X106, ⟨Lc106, hQ106, l106, y106, z106⟩, st106⟩ := Jvm.LawKit.callS X102 hx (y := (⟨"com/example/evident_ledger/evidentledger/TallyCountPinLaw", "verdict", "(I)Lcom/example/evident_ledger/evidentledger/ExecutorVerdict;"⟩ : MethodName)) hown (mvT hZ (hw _ (List.mem_of_getElem? (i := 56) rfl))) (mvT hZ (hw _ (List.mem_of_getElem? (i := 57) rfl))) (mvT hZ (hw _ (List.mem_of_getElem? (i := 3) rfl))) (mvT hZ (hw _ (List.mem_of_getElem? (i := 58) rfl))) (by decide) (backOf (W := 1) (rm7 l Z a0 hw [] v10 aA aU aB h102 n0 Z102 O102 J102_1 J102_2 J102_3 J102_4 J102_5 J102_6 S_A S_U S_B (own_kind hv10)) hZ (hw _ (List.mem_of_getElem? (i := 58) rfl)) (hw _ (List.mem_of_getElem? (i := 3) rfl)) (by decide) (by decide)) (g := (mkF m 83 #[.val (.int x0), .val (.int x1), .val (.int x2), .val (.int x3), .val (.int x4), .val (.int v1), .val (.int v4), .val (.int v7), .val (.int v10), .val (.int v13), .val (.ref b15), .unset, .unset, .unset, .unset, .unset, .unset] [(.int v10), (.ref b15)])) rfl (by rw [hml]; rfl) (argsL := [(.int v10)]) (rest := [(.ref b15)]) (lenOf pd0_2 rfl) rfl (by show 2 * 0 + _ ≤ _; exact Nat.le_of_eq rfl) (hb hby at_83) (fun _ _ => ⟨rfl, e102, (by decide : 3 + 0 ≤ _), (by decide : 7 + 0 ≤ _)⟩)
      dsimp only [Pt.U, Pt.locs, Pt.cells, Pt.slots] at X106 l106 y106 z106 st106 hQ106
      subst l106 y106 z106
      obtain ⟨rr_106, rfl, Nq106, Kq106, P106_0, P106_1, R106_0⟩ := hQ106
      have F107 : Exa Z T106.heap aV "[Lcom/example/evident_ledger/evidentledger/ExecutorVerdict;" := J102_0.keep Kq106
      have F108 : Exa Z T106.heap aA "com/example/evident_ledger/evidentledger/ExecutorVerdict" := J102_1.keep Kq106
      have F109 : Exa Z T106.heap aU "com/example/evident_ledger/evidentledger/ExecutorVerdict" := J102_2.keep Kq106
      have F110 : Exa Z T106.heap aB "com/example/evident_ledger/evidentledger/ExecutorVerdict" := J102_3.keep Kq106
      have F111 : Fld Z T106.heap aA "java/lang/Enum" "ordinal" "I" (.int (0 : Int32)) := J102_4.keep Kq106 nin0
      have F112 : Fld Z T106.heap aU "java/lang/Enum" "ordinal" "I" (.int (1 : Int32)) := J102_5.keep Kq106 nin0
      have F113 : Fld Z T106.heap aB "java/lang/Enum" "ordinal" "I" (.int (2 : Int32)) := J102_6.keep Kq106 nin0
      have F114 : Arv Z T106.heap aV kV (.object "com/example/evident_ledger/evidentledger/ExecutorVerdict") (3 : Int32) [(.ref aA), (.ref aU), (.ref aB)] .null := J102_7.keep Kq106 nin0
      have F115 : Exa Z T106.heap b15 "com/example/evident_ledger/evidentledger/ExecutorVerdict$Tally" := J102_8.keep Kq106
      have F116 : Exa Z T106.heap b15 "com/example/evident_ledger/evidentledger/ExecutorVerdict$Tally" := J102_9.keep Kq106
      have F117 : Fld Z T106.heap b15 "com/example/evident_ledger/evidentledger/ExecutorVerdict$Tally" "counts" "[J" (.ref ar_26) := J102_10.keep Kq106 nin0
      have F118 : Arv Z T106.heap ar_26 kk_26 .long (3 : Int32) [(.long (if (1 : Int32) < v1 then (own_up (if (0 : Int32) < v1 then (own_up (0 : Int64) v4 (0 : Int32)) else (0 : Int64)) v7 (0 : Int32)) else (if (0 : Int32) < v1 then (own_up (0 : Int64) v4 (0 : Int32)) else (0 : Int64)))), (.long (if (1 : Int32) < v1 then (own_up (if (0 : Int32) < v1 then (own_up (0 : Int64) v4 (1 : Int32)) else (0 : Int64)) v7 (1 : Int32)) else (if (0 : Int32) < v1 then (own_up (0 : Int64) v4 (1 : Int32)) else (0 : Int64)))), (.long (if (1 : Int32) < v1 then (own_up (if (0 : Int32) < v1 then (own_up (0 : Int64) v4 (2 : Int32)) else (0 : Int64)) v7 (2 : Int32)) else (if (0 : Int32) < v1 then (own_up (0 : Int64) v4 (2 : Int32)) else (0 : Int64))))] (.long (0 : Int64)) := J102_11.keep Kq106 nin0
      have KK106 := K102.trans Kq106 all0
      have Z106 : n0 ≤ T106.heap.size := Nat.le_trans Z102 Kq106.1
      have O106 := O102.keep Kq106 all0
      have N106 := Fr.app N102 Nq106
      have pre106 : Steps p.tables e below (s₁.setTop (entryFrame m #[(.int x0), (.int x1), (.int x2), (.int x3), (.int x4)] maxLocals)) (T106.setTop (mkF m 86 #[.val (.int x0), .val (.int x1), .val (.int x2), .val (.int x3), .val (.int x4), .val (.int v1), .val (.int v4), .val (.int v7), .val (.int v10), .val (.int v13), .val (.ref b15), .unset, .unset, .unset, .unset, .unset, .unset] [(.ref rr_106), (.ref b15)])) := pre105.trans (st106 _ (Steps.refl _))
      obtain ⟨cq119, kq119, q119a, q119b, q119c⟩ := isOf hZ rfl F115
      obtain ⟨_, _, ⟨T119, L119, k119, n119⟩, -, X119, ⟨Lc119, hQ119, l119, y119, z119⟩, st119⟩ := X106.virtualBack hx (y := (⟨"com/example/evident_ledger/evidentledger/ExecutorVerdict$Tally", "count", "(Lcom/example/evident_ledger/evidentledger/ExecutorVerdict;)V"⟩ : MethodName)) (z := (⟨"com/example/evident_ledger/evidentledger/ExecutorVerdict$Tally", "count", "(Lcom/example/evident_ledger/evidentledger/ExecutorVerdict;)V"⟩ : MethodName)) hown (mvT hZ (hw _ (List.mem_of_getElem? (i := 59) rfl))) (mvT hZ (hw _ (List.mem_of_getElem? (i := 60) rfl))) (notFace_of_selects (args := #[]) (mvT hZ (hw _ (List.mem_of_getElem? (i := 62) rfl)))) (mvT hZ (hw _ (List.mem_of_getElem? (i := 62) rfl))) (mvT hZ (hw _ (List.mem_of_getElem? (i := 61) rfl))) (by decide) (backOf (W := 0) (rm5 l Z a0 hw [] b15 rr_106 ar_26 kk_26 (if (1 : Int32) < v1 then (own_up (if (0 : Int32) < v1 then (own_up (0 : Int64) v4 (0 : Int32)) else (0 : Int64)) v7 (0 : Int32)) else (if (0 : Int32) < v1 then (own_up (0 : Int64) v4 (0 : Int32)) else (0 : Int64))) (if (1 : Int32) < v1 then (own_up (if (0 : Int32) < v1 then (own_up (0 : Int64) v4 (1 : Int32)) else (0 : Int64)) v7 (1 : Int32)) else (if (0 : Int32) < v1 then (own_up (0 : Int64) v4 (1 : Int32)) else (0 : Int64))) (if (1 : Int32) < v1 then (own_up (if (0 : Int32) < v1 then (own_up (0 : Int64) v4 (2 : Int32)) else (0 : Int64)) v7 (2 : Int32)) else (if (0 : Int32) < v1 then (own_up (0 : Int64) v4 (2 : Int32)) else (0 : Int64))) v10 T106.heap n0 Z106 F117 F118 P106_0 P106_1 gnA (own_kind hv10) neb15_ar_26 (R106_0.elim (fun h => by rw [h]; exact neaA_ar_26) (fun h => h.elim (fun h => by rw [h]; exact neaU_ar_26) (fun h => by rw [h]; exact neaB_ar_26)))) hZ (hw _ (List.mem_of_getElem? (i := 63) rfl)) (hw _ (List.mem_of_getElem? (i := 7) rfl)) (by decide) (by decide)) q119a q119c (g := (mkF m 86 #[.val (.int x0), .val (.int x1), .val (.int x2), .val (.int x3), .val (.int x4), .val (.int v1), .val (.int v4), .val (.int v7), .val (.int v10), .val (.int v13), .val (.ref b15), .unset, .unset, .unset, .unset, .unset, .unset] [(.ref rr_106), (.ref b15)])) rfl (by rw [hml]; rfl) (Steps.refl _) (argsL := [(.ref rr_106)]) (rest := []) (lenOf pd0_3 rfl) rfl (by show 2 * 0 + _ ≤ _; exact Nat.le_of_eq rfl) (hb hby at_86) (fun _ _ => ⟨rfl, rfl, (by decide : 3 + 0 ≤ _), (by decide : 7 + 0 ≤ _)⟩)
      dsimp only [Pt.U, Pt.locs, Pt.cells, Pt.slots] at X119 l119 y119 z119 st119 hQ119
      subst l119 y119 z119
      obtain ⟨rfl, Nq119, Kq119, P119_0⟩ := hQ119
      have F120 : Exa Z T119.heap aV "[Lcom/example/evident_ledger/evidentledger/ExecutorVerdict;" := F107.keep Kq119
      have F121 : Exa Z T119.heap aA "com/example/evident_ledger/evidentledger/ExecutorVerdict" := F108.keep Kq119
      have F122 : Exa Z T119.heap aU "com/example/evident_ledger/evidentledger/ExecutorVerdict" := F109.keep Kq119
      have F123 : Exa Z T119.heap aB "com/example/evident_ledger/evidentledger/ExecutorVerdict" := F110.keep Kq119
      have F124 : Fld Z T119.heap aA "java/lang/Enum" "ordinal" "I" (.int (0 : Int32)) := F111.keep Kq119 (ninS neaA_ar_26 nin0)
      have F125 : Fld Z T119.heap aU "java/lang/Enum" "ordinal" "I" (.int (1 : Int32)) := F112.keep Kq119 (ninS neaU_ar_26 nin0)
      have F126 : Fld Z T119.heap aB "java/lang/Enum" "ordinal" "I" (.int (2 : Int32)) := F113.keep Kq119 (ninS neaB_ar_26 nin0)
      have F127 : Arv Z T119.heap aV kV (.object "com/example/evident_ledger/evidentledger/ExecutorVerdict") (3 : Int32) [(.ref aA), (.ref aU), (.ref aB)] .null := F114.keep Kq119 (ninS neaV_ar_26 nin0)
      have F128 : Exa Z T119.heap b15 "com/example/evident_ledger/evidentledger/ExecutorVerdict$Tally" := F115.keep Kq119
      have F129 : Exa Z T119.heap b15 "com/example/evident_ledger/evidentledger/ExecutorVerdict$Tally" := F116.keep Kq119
      have F130 : Fld Z T119.heap b15 "com/example/evident_ledger/evidentledger/ExecutorVerdict$Tally" "counts" "[J" (.ref ar_26) := F117.keep Kq119 (ninS neb15_ar_26 nin0)
      have F132 : Exa Z T119.heap rr_106 "com/example/evident_ledger/evidentledger/ExecutorVerdict" := P106_0.keep Kq119
      have KK119 := KK106.trans Kq119 (allS (Or.inr szA) all0)
      have Z119 : n0 ≤ T119.heap.size := Nat.le_trans Z106 Kq119.1
      have O119 := O106.keep Kq119 (allS gnA all0)
      have N119 := Fr.app N106 Nq119
      have pre119 : Steps p.tables e below (s₁.setTop (entryFrame m #[(.int x0), (.int x1), (.int x2), (.int x3), (.int x4)] maxLocals)) (T119.setTop (mkF m 89 #[.val (.int x0), .val (.int x1), .val (.int x2), .val (.int x3), .val (.int x4), .val (.int v1), .val (.int v4), .val (.int v7), .val (.int v10), .val (.int v13), .val (.ref b15), .unset, .unset, .unset, .unset, .unset, .unset] [])) := pre106.trans st119
      exact ⟨T119, _, _, X119, rfl, N119, Z119, O119, KK119, pre119, F120, F121, F122, F123, F124, F125, F126, F127, F128, F129, F130, P119_0⟩
    · simp only [if_neg hc76]
      have st134 : Steps p.tables e below (T102.setTop (mkF m 76 #[.val (.int x0), .val (.int x1), .val (.int x2), .val (.int x3), .val (.int x4), .val (.int v1), .val (.int v4), .val (.int v7), .val (.int v10), .val (.int v13), .val (.ref b15), .unset, .unset, .unset, .unset, .unset, .unset] [(.int (2 : Int32)), (.int v1)])) (T102.setTop (mkF m 89 #[.val (.int x0), .val (.int x1), .val (.int x2), .val (.int x3), .val (.int x4), .val (.int v1), .val (.int v4), .val (.int v7), .val (.int v10), .val (.int v13), .val (.ref b15), .unset, .unset, .unset, .unset, .unset, .unset] [])) := by
        refine XS.icmpYes X102.here hx rfl (pc0 := 76) (pc' := 89) rfl (hb hby at_76) rfl (flt hc76).2.2.2 (by decide) (by decide) ?_
        exact Steps.refl _
      have pre134 := pre103.trans st134
      exact ⟨T102, _, _, X102, e102, N102, Z102, O102, K102, pre134, J102_0, J102_1, J102_2, J102_3, J102_4, J102_5, J102_6, J102_7, J102_8, J102_8, J102_10, J102_11⟩
  have st136 : Steps p.tables e below (T135.setTop (mkF m 89 #[.val (.int x0), .val (.int x1), .val (.int x2), .val (.int x3), .val (.int x4), .val (.int v1), .val (.int v4), .val (.int v7), .val (.int v10), .val (.int v13), .val (.ref b15), .unset, .unset, .unset, .unset, .unset, .unset] [])) (T135.setTop (mkF m 92 #[.val (.int x0), .val (.int x1), .val (.int x2), .val (.int x3), .val (.int x4), .val (.int v1), .val (.int v4), .val (.int v7), .val (.int v10), .val (.int v13), .val (.ref b15), .unset, .unset, .unset, .unset, .unset, .unset] [(.int (3 : Int32)), (.int v1)])) := by
    refine XS.iload X135.here hx rfl (hb hby at_89) rfl ?_
    show Steps p.tables e below (T135.setTop (mkF m 91 #[.val (.int x0), .val (.int x1), .val (.int x2), .val (.int x3), .val (.int x4), .val (.int v1), .val (.int v4), .val (.int v7), .val (.int v10), .val (.int v13), .val (.ref b15), .unset, .unset, .unset, .unset, .unset, .unset] [(.int v1)])) _
    refine XS.iconst X135.here hx rfl (hb hby at_91) ?_
    show Steps p.tables e below (T135.setTop (mkF m 92 #[.val (.int x0), .val (.int x1), .val (.int x2), .val (.int x3), .val (.int x4), .val (.int v1), .val (.int v4), .val (.int v7), .val (.int v10), .val (.int v13), .val (.ref b15), .unset, .unset, .unset, .unset, .unset, .unset] [(.int (3 : Int32)), (.int v1)])) _
    exact Steps.refl _
  have pre136 := pre135.trans st136
  obtain ⟨T168, h168, lc168, X168, e168, N168, Z168, O168, K168, pre168, J168_0, J168_1, J168_2, J168_3, J168_4, J168_5, J168_6, J168_7, J168_8, J168_9, J168_10, J168_11⟩ : ∃ (T' : State) (h' : Heap) (lc : List Loc), Stand p l e room_1 s m #[(.int x0), (.int x1), (.int x2), (.int x3), (.int x4)] below meth c T' lc 3 7 ∧ T'.heap = h' ∧ Fr n0 lc ∧ n0 ≤ h'.size ∧ Old Z n0 h' ∧ Keep h0 h' [] ∧ Steps p.tables e below (s₁.setTop (entryFrame m #[(.int x0), (.int x1), (.int x2), (.int x3), (.int x4)] maxLocals)) (T'.setTop (mkF m 105 #[.val (.int x0), .val (.int x1), .val (.int x2), .val (.int x3), .val (.int x4), .val (.int v1), .val (.int v4), .val (.int v7), .val (.int v10), .val (.int v13), .val (.ref b15), .unset, .unset, .unset, .unset, .unset, .unset] [])) ∧ Exa Z h' aV "[Lcom/example/evident_ledger/evidentledger/ExecutorVerdict;" ∧ Exa Z h' aA "com/example/evident_ledger/evidentledger/ExecutorVerdict" ∧ Exa Z h' aU "com/example/evident_ledger/evidentledger/ExecutorVerdict" ∧ Exa Z h' aB "com/example/evident_ledger/evidentledger/ExecutorVerdict" ∧ Fld Z h' aA "java/lang/Enum" "ordinal" "I" (.int (0 : Int32)) ∧ Fld Z h' aU "java/lang/Enum" "ordinal" "I" (.int (1 : Int32)) ∧ Fld Z h' aB "java/lang/Enum" "ordinal" "I" (.int (2 : Int32)) ∧ Arv Z h' aV kV (.object "com/example/evident_ledger/evidentledger/ExecutorVerdict") (3 : Int32) [(.ref aA), (.ref aU), (.ref aB)] .null ∧ Exa Z h' b15 "com/example/evident_ledger/evidentledger/ExecutorVerdict$Tally" ∧ Exa Z h' b15 "com/example/evident_ledger/evidentledger/ExecutorVerdict$Tally" ∧ Fld Z h' b15 "com/example/evident_ledger/evidentledger/ExecutorVerdict$Tally" "counts" "[J" (.ref ar_26) ∧ Arv Z h' ar_26 kk_26 .long (3 : Int32) [(.long (if (3 : Int32) < v1 then (own_up (if (2 : Int32) < v1 then (own_up (if (1 : Int32) < v1 then (own_up (if (0 : Int32) < v1 then (own_up (0 : Int64) v4 (0 : Int32)) else (0 : Int64)) v7 (0 : Int32)) else (if (0 : Int32) < v1 then (own_up (0 : Int64) v4 (0 : Int32)) else (0 : Int64))) v10 (0 : Int32)) else (if (1 : Int32) < v1 then (own_up (if (0 : Int32) < v1 then (own_up (0 : Int64) v4 (0 : Int32)) else (0 : Int64)) v7 (0 : Int32)) else (if (0 : Int32) < v1 then (own_up (0 : Int64) v4 (0 : Int32)) else (0 : Int64)))) v13 (0 : Int32)) else (if (2 : Int32) < v1 then (own_up (if (1 : Int32) < v1 then (own_up (if (0 : Int32) < v1 then (own_up (0 : Int64) v4 (0 : Int32)) else (0 : Int64)) v7 (0 : Int32)) else (if (0 : Int32) < v1 then (own_up (0 : Int64) v4 (0 : Int32)) else (0 : Int64))) v10 (0 : Int32)) else (if (1 : Int32) < v1 then (own_up (if (0 : Int32) < v1 then (own_up (0 : Int64) v4 (0 : Int32)) else (0 : Int64)) v7 (0 : Int32)) else (if (0 : Int32) < v1 then (own_up (0 : Int64) v4 (0 : Int32)) else (0 : Int64)))))), (.long (if (3 : Int32) < v1 then (own_up (if (2 : Int32) < v1 then (own_up (if (1 : Int32) < v1 then (own_up (if (0 : Int32) < v1 then (own_up (0 : Int64) v4 (1 : Int32)) else (0 : Int64)) v7 (1 : Int32)) else (if (0 : Int32) < v1 then (own_up (0 : Int64) v4 (1 : Int32)) else (0 : Int64))) v10 (1 : Int32)) else (if (1 : Int32) < v1 then (own_up (if (0 : Int32) < v1 then (own_up (0 : Int64) v4 (1 : Int32)) else (0 : Int64)) v7 (1 : Int32)) else (if (0 : Int32) < v1 then (own_up (0 : Int64) v4 (1 : Int32)) else (0 : Int64)))) v13 (1 : Int32)) else (if (2 : Int32) < v1 then (own_up (if (1 : Int32) < v1 then (own_up (if (0 : Int32) < v1 then (own_up (0 : Int64) v4 (1 : Int32)) else (0 : Int64)) v7 (1 : Int32)) else (if (0 : Int32) < v1 then (own_up (0 : Int64) v4 (1 : Int32)) else (0 : Int64))) v10 (1 : Int32)) else (if (1 : Int32) < v1 then (own_up (if (0 : Int32) < v1 then (own_up (0 : Int64) v4 (1 : Int32)) else (0 : Int64)) v7 (1 : Int32)) else (if (0 : Int32) < v1 then (own_up (0 : Int64) v4 (1 : Int32)) else (0 : Int64)))))), (.long (if (3 : Int32) < v1 then (own_up (if (2 : Int32) < v1 then (own_up (if (1 : Int32) < v1 then (own_up (if (0 : Int32) < v1 then (own_up (0 : Int64) v4 (2 : Int32)) else (0 : Int64)) v7 (2 : Int32)) else (if (0 : Int32) < v1 then (own_up (0 : Int64) v4 (2 : Int32)) else (0 : Int64))) v10 (2 : Int32)) else (if (1 : Int32) < v1 then (own_up (if (0 : Int32) < v1 then (own_up (0 : Int64) v4 (2 : Int32)) else (0 : Int64)) v7 (2 : Int32)) else (if (0 : Int32) < v1 then (own_up (0 : Int64) v4 (2 : Int32)) else (0 : Int64)))) v13 (2 : Int32)) else (if (2 : Int32) < v1 then (own_up (if (1 : Int32) < v1 then (own_up (if (0 : Int32) < v1 then (own_up (0 : Int64) v4 (2 : Int32)) else (0 : Int64)) v7 (2 : Int32)) else (if (0 : Int32) < v1 then (own_up (0 : Int64) v4 (2 : Int32)) else (0 : Int64))) v10 (2 : Int32)) else (if (1 : Int32) < v1 then (own_up (if (0 : Int32) < v1 then (own_up (0 : Int64) v4 (2 : Int32)) else (0 : Int64)) v7 (2 : Int32)) else (if (0 : Int32) < v1 then (own_up (0 : Int64) v4 (2 : Int32)) else (0 : Int64))))))] (.long (0 : Int64)) := by
    by_cases hc92 : (3 : Int32) < v1
    · simp only [if_pos hc92]
      have st137 : Steps p.tables e below (T135.setTop (mkF m 92 #[.val (.int x0), .val (.int x1), .val (.int x2), .val (.int x3), .val (.int x4), .val (.int v1), .val (.int v4), .val (.int v7), .val (.int v10), .val (.int v13), .val (.ref b15), .unset, .unset, .unset, .unset, .unset, .unset] [(.int (3 : Int32)), (.int v1)])) (T135.setTop (mkF m 95 #[.val (.int x0), .val (.int x1), .val (.int x2), .val (.int x3), .val (.int x4), .val (.int v1), .val (.int v4), .val (.int v7), .val (.int v10), .val (.int v13), .val (.ref b15), .unset, .unset, .unset, .unset, .unset, .unset] [])) := by
        refine XS.icmpNo X135.here hx rfl (hb hby at_92) rfl (tlt hc92).2.2.2 ?_
        exact Steps.refl _
      have pre137 := pre136.trans st137
      have st138 : Steps p.tables e below (T135.setTop (mkF m 95 #[.val (.int x0), .val (.int x1), .val (.int x2), .val (.int x3), .val (.int x4), .val (.int v1), .val (.int v4), .val (.int v7), .val (.int v10), .val (.int v13), .val (.ref b15), .unset, .unset, .unset, .unset, .unset, .unset] [])) (T135.setTop (mkF m 99 #[.val (.int x0), .val (.int x1), .val (.int x2), .val (.int x3), .val (.int x4), .val (.int v1), .val (.int v4), .val (.int v7), .val (.int v10), .val (.int v13), .val (.ref b15), .unset, .unset, .unset, .unset, .unset, .unset] [(.int v13), (.ref b15)])) := by
        refine XS.aload X135.here hx rfl (hb hby at_95) rfl rfl ?_
        show Steps p.tables e below (T135.setTop (mkF m 97 #[.val (.int x0), .val (.int x1), .val (.int x2), .val (.int x3), .val (.int x4), .val (.int v1), .val (.int v4), .val (.int v7), .val (.int v10), .val (.int v13), .val (.ref b15), .unset, .unset, .unset, .unset, .unset, .unset] [(.ref b15)])) _
        refine XS.iload X135.here hx rfl (hb hby at_97) rfl ?_
        show Steps p.tables e below (T135.setTop (mkF m 99 #[.val (.int x0), .val (.int x1), .val (.int x2), .val (.int x3), .val (.int x4), .val (.int v1), .val (.int v4), .val (.int v7), .val (.int v10), .val (.int v13), .val (.ref b15), .unset, .unset, .unset, .unset, .unset, .unset] [(.int v13), (.ref b15)])) _
        exact Steps.refl _
      have pre138 := pre137.trans st138
      obtain ⟨_, _, ⟨T139, L139, k139, n139⟩, -, X139, ⟨Lc139, hQ139, l139, y139, z139⟩, st139⟩ := Jvm.LawKit.callS X135 hx (y := (⟨"com/example/evident_ledger/evidentledger/TallyCountPinLaw", "verdict", "(I)Lcom/example/evident_ledger/evidentledger/ExecutorVerdict;"⟩ : MethodName)) hown (mvT hZ (hw _ (List.mem_of_getElem? (i := 56) rfl))) (mvT hZ (hw _ (List.mem_of_getElem? (i := 57) rfl))) (mvT hZ (hw _ (List.mem_of_getElem? (i := 3) rfl))) (mvT hZ (hw _ (List.mem_of_getElem? (i := 58) rfl))) (by decide) (backOf (W := 1) (rm7 l Z a0 hw [] v13 aA aU aB h135 n0 Z135 O135 J135_1 J135_2 J135_3 J135_4 J135_5 J135_6 S_A S_U S_B (own_kind hv13)) hZ (hw _ (List.mem_of_getElem? (i := 58) rfl)) (hw _ (List.mem_of_getElem? (i := 3) rfl)) (by decide) (by decide)) (g := (mkF m 99 #[.val (.int x0), .val (.int x1), .val (.int x2), .val (.int x3), .val (.int x4), .val (.int v1), .val (.int v4), .val (.int v7), .val (.int v10), .val (.int v13), .val (.ref b15), .unset, .unset, .unset, .unset, .unset, .unset] [(.int v13), (.ref b15)])) rfl (by rw [hml]; rfl) (argsL := [(.int v13)]) (rest := [(.ref b15)]) (lenOf pd0_2 rfl) rfl (by show 2 * 0 + _ ≤ _; exact Nat.le_of_eq rfl) (hb hby at_99) (fun _ _ => ⟨rfl, e135, (by decide : 3 + 0 ≤ _), (by decide : 7 + 0 ≤ _)⟩)
      dsimp only [Pt.U, Pt.locs, Pt.cells, Pt.slots] at X139 l139 y139 z139 st139 hQ139
      subst l139 y139 z139
      obtain ⟨rr_139, rfl, Nq139, Kq139, P139_0, P139_1, R139_0⟩ := hQ139
      have F140 : Exa Z T139.heap aV "[Lcom/example/evident_ledger/evidentledger/ExecutorVerdict;" := J135_0.keep Kq139
      have F141 : Exa Z T139.heap aA "com/example/evident_ledger/evidentledger/ExecutorVerdict" := J135_1.keep Kq139
      have F142 : Exa Z T139.heap aU "com/example/evident_ledger/evidentledger/ExecutorVerdict" := J135_2.keep Kq139
      have F143 : Exa Z T139.heap aB "com/example/evident_ledger/evidentledger/ExecutorVerdict" := J135_3.keep Kq139
      have F144 : Fld Z T139.heap aA "java/lang/Enum" "ordinal" "I" (.int (0 : Int32)) := J135_4.keep Kq139 nin0
      have F145 : Fld Z T139.heap aU "java/lang/Enum" "ordinal" "I" (.int (1 : Int32)) := J135_5.keep Kq139 nin0
      have F146 : Fld Z T139.heap aB "java/lang/Enum" "ordinal" "I" (.int (2 : Int32)) := J135_6.keep Kq139 nin0
      have F147 : Arv Z T139.heap aV kV (.object "com/example/evident_ledger/evidentledger/ExecutorVerdict") (3 : Int32) [(.ref aA), (.ref aU), (.ref aB)] .null := J135_7.keep Kq139 nin0
      have F148 : Exa Z T139.heap b15 "com/example/evident_ledger/evidentledger/ExecutorVerdict$Tally" := J135_8.keep Kq139
      have F149 : Exa Z T139.heap b15 "com/example/evident_ledger/evidentledger/ExecutorVerdict$Tally" := J135_9.keep Kq139
      have F150 : Fld Z T139.heap b15 "com/example/evident_ledger/evidentledger/ExecutorVerdict$Tally" "counts" "[J" (.ref ar_26) := J135_10.keep Kq139 nin0
      have F151 : Arv Z T139.heap ar_26 kk_26 .long (3 : Int32) [(.long (if (2 : Int32) < v1 then (own_up (if (1 : Int32) < v1 then (own_up (if (0 : Int32) < v1 then (own_up (0 : Int64) v4 (0 : Int32)) else (0 : Int64)) v7 (0 : Int32)) else (if (0 : Int32) < v1 then (own_up (0 : Int64) v4 (0 : Int32)) else (0 : Int64))) v10 (0 : Int32)) else (if (1 : Int32) < v1 then (own_up (if (0 : Int32) < v1 then (own_up (0 : Int64) v4 (0 : Int32)) else (0 : Int64)) v7 (0 : Int32)) else (if (0 : Int32) < v1 then (own_up (0 : Int64) v4 (0 : Int32)) else (0 : Int64))))), (.long (if (2 : Int32) < v1 then (own_up (if (1 : Int32) < v1 then (own_up (if (0 : Int32) < v1 then (own_up (0 : Int64) v4 (1 : Int32)) else (0 : Int64)) v7 (1 : Int32)) else (if (0 : Int32) < v1 then (own_up (0 : Int64) v4 (1 : Int32)) else (0 : Int64))) v10 (1 : Int32)) else (if (1 : Int32) < v1 then (own_up (if (0 : Int32) < v1 then (own_up (0 : Int64) v4 (1 : Int32)) else (0 : Int64)) v7 (1 : Int32)) else (if (0 : Int32) < v1 then (own_up (0 : Int64) v4 (1 : Int32)) else (0 : Int64))))), (.long (if (2 : Int32) < v1 then (own_up (if (1 : Int32) < v1 then (own_up (if (0 : Int32) < v1 then (own_up (0 : Int64) v4 (2 : Int32)) else (0 : Int64)) v7 (2 : Int32)) else (if (0 : Int32) < v1 then (own_up (0 : Int64) v4 (2 : Int32)) else (0 : Int64))) v10 (2 : Int32)) else (if (1 : Int32) < v1 then (own_up (if (0 : Int32) < v1 then (own_up (0 : Int64) v4 (2 : Int32)) else (0 : Int64)) v7 (2 : Int32)) else (if (0 : Int32) < v1 then (own_up (0 : Int64) v4 (2 : Int32)) else (0 : Int64)))))] (.long (0 : Int64)) := J135_11.keep Kq139 nin0
      have KK139 := K135.trans Kq139 all0
      have Z139 : n0 ≤ T139.heap.size := Nat.le_trans Z135 Kq139.1
      have O139 := O135.keep Kq139 all0
      have N139 := Fr.app N135 Nq139
      have pre139 : Steps p.tables e below (s₁.setTop (entryFrame m #[(.int x0), (.int x1), (.int x2), (.int x3), (.int x4)] maxLocals)) (T139.setTop (mkF m 102 #[.val (.int x0), .val (.int x1), .val (.int x2), .val (.int x3), .val (.int x4), .val (.int v1), .val (.int v4), .val (.int v7), .val (.int v10), .val (.int v13), .val (.ref b15), .unset, .unset, .unset, .unset, .unset, .unset] [(.ref rr_139), (.ref b15)])) := pre138.trans (st139 _ (Steps.refl _))
      obtain ⟨cq152, kq152, q152a, q152b, q152c⟩ := isOf hZ rfl F148
      obtain ⟨_, _, ⟨T152, L152, k152, n152⟩, -, X152, ⟨Lc152, hQ152, l152, y152, z152⟩, st152⟩ := X139.virtualBack hx (y := (⟨"com/example/evident_ledger/evidentledger/ExecutorVerdict$Tally", "count", "(Lcom/example/evident_ledger/evidentledger/ExecutorVerdict;)V"⟩ : MethodName)) (z := (⟨"com/example/evident_ledger/evidentledger/ExecutorVerdict$Tally", "count", "(Lcom/example/evident_ledger/evidentledger/ExecutorVerdict;)V"⟩ : MethodName)) hown (mvT hZ (hw _ (List.mem_of_getElem? (i := 59) rfl))) (mvT hZ (hw _ (List.mem_of_getElem? (i := 60) rfl))) (notFace_of_selects (args := #[]) (mvT hZ (hw _ (List.mem_of_getElem? (i := 62) rfl)))) (mvT hZ (hw _ (List.mem_of_getElem? (i := 62) rfl))) (mvT hZ (hw _ (List.mem_of_getElem? (i := 61) rfl))) (by decide) (backOf (W := 0) (rm5 l Z a0 hw [] b15 rr_139 ar_26 kk_26 (if (2 : Int32) < v1 then (own_up (if (1 : Int32) < v1 then (own_up (if (0 : Int32) < v1 then (own_up (0 : Int64) v4 (0 : Int32)) else (0 : Int64)) v7 (0 : Int32)) else (if (0 : Int32) < v1 then (own_up (0 : Int64) v4 (0 : Int32)) else (0 : Int64))) v10 (0 : Int32)) else (if (1 : Int32) < v1 then (own_up (if (0 : Int32) < v1 then (own_up (0 : Int64) v4 (0 : Int32)) else (0 : Int64)) v7 (0 : Int32)) else (if (0 : Int32) < v1 then (own_up (0 : Int64) v4 (0 : Int32)) else (0 : Int64)))) (if (2 : Int32) < v1 then (own_up (if (1 : Int32) < v1 then (own_up (if (0 : Int32) < v1 then (own_up (0 : Int64) v4 (1 : Int32)) else (0 : Int64)) v7 (1 : Int32)) else (if (0 : Int32) < v1 then (own_up (0 : Int64) v4 (1 : Int32)) else (0 : Int64))) v10 (1 : Int32)) else (if (1 : Int32) < v1 then (own_up (if (0 : Int32) < v1 then (own_up (0 : Int64) v4 (1 : Int32)) else (0 : Int64)) v7 (1 : Int32)) else (if (0 : Int32) < v1 then (own_up (0 : Int64) v4 (1 : Int32)) else (0 : Int64)))) (if (2 : Int32) < v1 then (own_up (if (1 : Int32) < v1 then (own_up (if (0 : Int32) < v1 then (own_up (0 : Int64) v4 (2 : Int32)) else (0 : Int64)) v7 (2 : Int32)) else (if (0 : Int32) < v1 then (own_up (0 : Int64) v4 (2 : Int32)) else (0 : Int64))) v10 (2 : Int32)) else (if (1 : Int32) < v1 then (own_up (if (0 : Int32) < v1 then (own_up (0 : Int64) v4 (2 : Int32)) else (0 : Int64)) v7 (2 : Int32)) else (if (0 : Int32) < v1 then (own_up (0 : Int64) v4 (2 : Int32)) else (0 : Int64)))) v13 T139.heap n0 Z139 F150 F151 P139_0 P139_1 gnA (own_kind hv13) neb15_ar_26 (R139_0.elim (fun h => by rw [h]; exact neaA_ar_26) (fun h => h.elim (fun h => by rw [h]; exact neaU_ar_26) (fun h => by rw [h]; exact neaB_ar_26)))) hZ (hw _ (List.mem_of_getElem? (i := 63) rfl)) (hw _ (List.mem_of_getElem? (i := 7) rfl)) (by decide) (by decide)) q152a q152c (g := (mkF m 102 #[.val (.int x0), .val (.int x1), .val (.int x2), .val (.int x3), .val (.int x4), .val (.int v1), .val (.int v4), .val (.int v7), .val (.int v10), .val (.int v13), .val (.ref b15), .unset, .unset, .unset, .unset, .unset, .unset] [(.ref rr_139), (.ref b15)])) rfl (by rw [hml]; rfl) (Steps.refl _) (argsL := [(.ref rr_139)]) (rest := []) (lenOf pd0_3 rfl) rfl (by show 2 * 0 + _ ≤ _; exact Nat.le_of_eq rfl) (hb hby at_102) (fun _ _ => ⟨rfl, rfl, (by decide : 3 + 0 ≤ _), (by decide : 7 + 0 ≤ _)⟩)
      dsimp only [Pt.U, Pt.locs, Pt.cells, Pt.slots] at X152 l152 y152 z152 st152 hQ152
      subst l152 y152 z152
      obtain ⟨rfl, Nq152, Kq152, P152_0⟩ := hQ152
      have F153 : Exa Z T152.heap aV "[Lcom/example/evident_ledger/evidentledger/ExecutorVerdict;" := F140.keep Kq152
      have F154 : Exa Z T152.heap aA "com/example/evident_ledger/evidentledger/ExecutorVerdict" := F141.keep Kq152
      have F155 : Exa Z T152.heap aU "com/example/evident_ledger/evidentledger/ExecutorVerdict" := F142.keep Kq152
      have F156 : Exa Z T152.heap aB "com/example/evident_ledger/evidentledger/ExecutorVerdict" := F143.keep Kq152
      have F157 : Fld Z T152.heap aA "java/lang/Enum" "ordinal" "I" (.int (0 : Int32)) := F144.keep Kq152 (ninS neaA_ar_26 nin0)
      have F158 : Fld Z T152.heap aU "java/lang/Enum" "ordinal" "I" (.int (1 : Int32)) := F145.keep Kq152 (ninS neaU_ar_26 nin0)
      have F159 : Fld Z T152.heap aB "java/lang/Enum" "ordinal" "I" (.int (2 : Int32)) := F146.keep Kq152 (ninS neaB_ar_26 nin0)
      have F160 : Arv Z T152.heap aV kV (.object "com/example/evident_ledger/evidentledger/ExecutorVerdict") (3 : Int32) [(.ref aA), (.ref aU), (.ref aB)] .null := F147.keep Kq152 (ninS neaV_ar_26 nin0)
      have F161 : Exa Z T152.heap b15 "com/example/evident_ledger/evidentledger/ExecutorVerdict$Tally" := F148.keep Kq152
      have F162 : Exa Z T152.heap b15 "com/example/evident_ledger/evidentledger/ExecutorVerdict$Tally" := F149.keep Kq152
      have F163 : Fld Z T152.heap b15 "com/example/evident_ledger/evidentledger/ExecutorVerdict$Tally" "counts" "[J" (.ref ar_26) := F150.keep Kq152 (ninS neb15_ar_26 nin0)
      have F165 : Exa Z T152.heap rr_139 "com/example/evident_ledger/evidentledger/ExecutorVerdict" := P139_0.keep Kq152
      have KK152 := KK139.trans Kq152 (allS (Or.inr szA) all0)
      have Z152 : n0 ≤ T152.heap.size := Nat.le_trans Z139 Kq152.1
      have O152 := O139.keep Kq152 (allS gnA all0)
      have N152 := Fr.app N139 Nq152
      have pre152 : Steps p.tables e below (s₁.setTop (entryFrame m #[(.int x0), (.int x1), (.int x2), (.int x3), (.int x4)] maxLocals)) (T152.setTop (mkF m 105 #[.val (.int x0), .val (.int x1), .val (.int x2), .val (.int x3), .val (.int x4), .val (.int v1), .val (.int v4), .val (.int v7), .val (.int v10), .val (.int v13), .val (.ref b15), .unset, .unset, .unset, .unset, .unset, .unset] [])) := pre139.trans st152
      exact ⟨T152, _, _, X152, rfl, N152, Z152, O152, KK152, pre152, F153, F154, F155, F156, F157, F158, F159, F160, F161, F162, F163, P152_0⟩
    · simp only [if_neg hc92]
      have st167 : Steps p.tables e below (T135.setTop (mkF m 92 #[.val (.int x0), .val (.int x1), .val (.int x2), .val (.int x3), .val (.int x4), .val (.int v1), .val (.int v4), .val (.int v7), .val (.int v10), .val (.int v13), .val (.ref b15), .unset, .unset, .unset, .unset, .unset, .unset] [(.int (3 : Int32)), (.int v1)])) (T135.setTop (mkF m 105 #[.val (.int x0), .val (.int x1), .val (.int x2), .val (.int x3), .val (.int x4), .val (.int v1), .val (.int v4), .val (.int v7), .val (.int v10), .val (.int v13), .val (.ref b15), .unset, .unset, .unset, .unset, .unset, .unset] [])) := by
        refine XS.icmpYes X135.here hx rfl (pc0 := 92) (pc' := 105) rfl (hb hby at_92) rfl (flt hc92).2.2.2 (by decide) (by decide) ?_
        exact Steps.refl _
      have pre167 := pre136.trans st167
      exact ⟨T135, _, _, X135, e135, N135, Z135, O135, K135, pre167, J135_0, J135_1, J135_2, J135_3, J135_4, J135_5, J135_6, J135_7, J135_8, J135_8, J135_10, J135_11⟩
  obtain ⟨v169, hv169⟩ : ∃ z : Int32, z = (if (0 : Int32) < v1 then (1 : Int32) else (0 : Int32)) := ⟨_, rfl⟩
  have st170 : Steps p.tables e below (T168.setTop (mkF m 105 #[.val (.int x0), .val (.int x1), .val (.int x2), .val (.int x3), .val (.int x4), .val (.int v1), .val (.int v4), .val (.int v7), .val (.int v10), .val (.int v13), .val (.ref b15), .unset, .unset, .unset, .unset, .unset, .unset] [])) (T168.setTop (mkF m 118 #[.val (.int x0), .val (.int x1), .val (.int x2), .val (.int x3), .val (.int x4), .val (.int v1), .val (.int v4), .val (.int v7), .val (.int v10), .val (.int v13), .val (.ref b15), .unset, .unset, .unset, .unset, .unset, .unset] [(.int v169), (.int (0 : Int32)), (.int v4)])) := by
    subst v169
    refine XS.iload X168.here hx rfl (hb hby at_105) rfl ?_
    show Steps p.tables e below (T168.setTop (mkF m 107 #[.val (.int x0), .val (.int x1), .val (.int x2), .val (.int x3), .val (.int x4), .val (.int v1), .val (.int v4), .val (.int v7), .val (.int v10), .val (.int v13), .val (.ref b15), .unset, .unset, .unset, .unset, .unset, .unset] [(.int v4)])) _
    refine XS.iconst X168.here hx rfl (hb hby at_107) ?_
    show Steps p.tables e below (T168.setTop (mkF m 108 #[.val (.int x0), .val (.int x1), .val (.int x2), .val (.int x3), .val (.int x4), .val (.int v1), .val (.int v4), .val (.int v7), .val (.int v10), .val (.int v13), .val (.ref b15), .unset, .unset, .unset, .unset, .unset, .unset] [(.int (0 : Int32)), (.int v4)])) _
    refine XS.iload X168.here hx rfl (hb hby at_108) rfl ?_
    show Steps p.tables e below (T168.setTop (mkF m 110 #[.val (.int x0), .val (.int x1), .val (.int x2), .val (.int x3), .val (.int x4), .val (.int v1), .val (.int v4), .val (.int v7), .val (.int v10), .val (.int v13), .val (.ref b15), .unset, .unset, .unset, .unset, .unset, .unset] [(.int v1), (.int (0 : Int32)), (.int v4)])) _
    refine Steps.trans (s₂ := T168.setTop (mkF m 118 #[.val (.int x0), .val (.int x1), .val (.int x2), .val (.int x3), .val (.int x4), .val (.int v1), .val (.int v4), .val (.int v7), .val (.int v10), .val (.int v13), .val (.ref b15), .unset, .unset, .unset, .unset, .unset, .unset] [(.int (if (0 : Int32) < v1 then (1 : Int32) else (0 : Int32))), (.int (0 : Int32)), (.int v4)])) ?_ ?_
    · by_cases hc110 : (0 : Int32) < v1
      · refine XS.ifNo X168.here hx rfl (hb hby at_110) rfl ((if0 _ _).trans (tlt hc110).2.2.2) ?_
        show Steps p.tables e below (T168.setTop (mkF m 113 #[.val (.int x0), .val (.int x1), .val (.int x2), .val (.int x3), .val (.int x4), .val (.int v1), .val (.int v4), .val (.int v7), .val (.int v10), .val (.int v13), .val (.ref b15), .unset, .unset, .unset, .unset, .unset, .unset] [(.int (0 : Int32)), (.int v4)])) _
        refine XS.iconst X168.here hx rfl (hb hby at_113) ?_
        show Steps p.tables e below (T168.setTop (mkF m 114 #[.val (.int x0), .val (.int x1), .val (.int x2), .val (.int x3), .val (.int x4), .val (.int v1), .val (.int v4), .val (.int v7), .val (.int v10), .val (.int v13), .val (.ref b15), .unset, .unset, .unset, .unset, .unset, .unset] [(.int (1 : Int32)), (.int (0 : Int32)), (.int v4)])) _
        refine XS.goto X168.here hx rfl (pc0 := 114) (pc' := 118) rfl (hb hby at_114) (by decide) (by decide) ?_
        show Steps p.tables e below (T168.setTop (mkF m 118 #[.val (.int x0), .val (.int x1), .val (.int x2), .val (.int x3), .val (.int x4), .val (.int v1), .val (.int v4), .val (.int v7), .val (.int v10), .val (.int v13), .val (.ref b15), .unset, .unset, .unset, .unset, .unset, .unset] [(.int (1 : Int32)), (.int (0 : Int32)), (.int v4)])) _
        try simp only [if_pos hc110]
        exact Steps.refl _
      · refine XS.ifYes X168.here hx rfl (pc0 := 110) (pc' := 117) rfl (hb hby at_110) rfl ((if0 _ _).trans (flt hc110).2.2.2) (by decide) (by decide) ?_
        show Steps p.tables e below (T168.setTop (mkF m 117 #[.val (.int x0), .val (.int x1), .val (.int x2), .val (.int x3), .val (.int x4), .val (.int v1), .val (.int v4), .val (.int v7), .val (.int v10), .val (.int v13), .val (.ref b15), .unset, .unset, .unset, .unset, .unset, .unset] [(.int (0 : Int32)), (.int v4)])) _
        refine XS.iconst X168.here hx rfl (hb hby at_117) ?_
        show Steps p.tables e below (T168.setTop (mkF m 118 #[.val (.int x0), .val (.int x1), .val (.int x2), .val (.int x3), .val (.int x4), .val (.int v1), .val (.int v4), .val (.int v7), .val (.int v10), .val (.int v13), .val (.ref b15), .unset, .unset, .unset, .unset, .unset, .unset] [(.int (0 : Int32)), (.int (0 : Int32)), (.int v4)])) _
        try simp only [if_neg hc110]
        exact Steps.refl _
    show Steps p.tables e below (T168.setTop (mkF m 118 #[.val (.int x0), .val (.int x1), .val (.int x2), .val (.int x3), .val (.int x4), .val (.int v1), .val (.int v4), .val (.int v7), .val (.int v10), .val (.int v13), .val (.ref b15), .unset, .unset, .unset, .unset, .unset, .unset] [(.int (if (0 : Int32) < v1 then (1 : Int32) else (0 : Int32))), (.int (0 : Int32)), (.int v4)])) _
    exact Steps.refl _
  have pre170 := pre168.trans st170
  obtain ⟨_, _, ⟨T171, L171, k171, n171⟩, -, X171, ⟨Lc171, hQ171, l171, y171, z171⟩, st171⟩ := Jvm.LawKit.callS X168 hx (y := (⟨"com/example/evident_ledger/evidentledger/TallyCountPinLaw", "hit", "(IIZ)J"⟩ : MethodName)) hown (mvT hZ (hw _ (List.mem_of_getElem? (i := 36) rfl))) (mvT hZ (hw _ (List.mem_of_getElem? (i := 37) rfl))) (mvT hZ (hw _ (List.mem_of_getElem? (i := 3) rfl))) (mvT hZ (hw _ (List.mem_of_getElem? (i := 38) rfl))) (by decide) (backOf (W := 0) (rm8 l Z a0 hw [] v4 (0 : Int32) v169 h168 n0 Z168) hZ (hw _ (List.mem_of_getElem? (i := 38) rfl)) (hw _ (List.mem_of_getElem? (i := 3) rfl)) (by decide) (by decide)) (g := (mkF m 118 #[.val (.int x0), .val (.int x1), .val (.int x2), .val (.int x3), .val (.int x4), .val (.int v1), .val (.int v4), .val (.int v7), .val (.int v10), .val (.int v13), .val (.ref b15), .unset, .unset, .unset, .unset, .unset, .unset] [(.int v169), (.int (0 : Int32)), (.int v4)])) rfl (by rw [hml]; rfl) (argsL := [(.int v4), (.int (0 : Int32)), (.int v169)]) (rest := []) (lenOf pd0_4 rfl) rfl (by show 2 * 0 + _ ≤ _; exact Nat.le_of_eq rfl) (hb hby at_118) (fun _ _ => ⟨rfl, e168, (by decide : 3 + 0 ≤ _), (by decide : 7 + 0 ≤ _)⟩)
  dsimp only [Pt.U, Pt.locs, Pt.cells, Pt.slots] at X171 l171 y171 z171 st171 hQ171
  subst l171 y171 z171
  obtain ⟨rfl, Nq171, e171⟩ := hQ171
  have N171 := Fr.app N168 Nq171
  have pre171 : Steps p.tables e below (s₁.setTop (entryFrame m #[(.int x0), (.int x1), (.int x2), (.int x3), (.int x4)] maxLocals)) (T171.setTop (mkF m 121 #[.val (.int x0), .val (.int x1), .val (.int x2), .val (.int x3), .val (.int x4), .val (.int v1), .val (.int v4), .val (.int v7), .val (.int v10), .val (.int v13), .val (.ref b15), .unset, .unset, .unset, .unset, .unset, .unset] [(.long (own_F8 v4 (0 : Int32) v169))])) := pre170.trans (st171 _ (Steps.refl _))
  obtain ⟨v172, hv172⟩ : ∃ z : Int64, z = (own_F8 v4 (0 : Int32) v169) := ⟨_, rfl⟩
  obtain ⟨v173, hv173⟩ : ∃ z : Int32, z = (if (1 : Int32) < v1 then (1 : Int32) else (0 : Int32)) := ⟨_, rfl⟩
  have st174 : Steps p.tables e below (T171.setTop (mkF m 121 #[.val (.int x0), .val (.int x1), .val (.int x2), .val (.int x3), .val (.int x4), .val (.int v1), .val (.int v4), .val (.int v7), .val (.int v10), .val (.int v13), .val (.ref b15), .unset, .unset, .unset, .unset, .unset, .unset] [(.long (own_F8 v4 (0 : Int32) v169))])) (T171.setTop (mkF m 135 #[.val (.int x0), .val (.int x1), .val (.int x2), .val (.int x3), .val (.int x4), .val (.int v1), .val (.int v4), .val (.int v7), .val (.int v10), .val (.int v13), .val (.ref b15), .unset, .unset, .unset, .unset, .unset, .unset] [(.int v173), (.int (0 : Int32)), (.int v7), (.long v172)])) := by
    subst v173 v172
    refine XS.iload X171.here hx rfl (hb hby at_121) rfl ?_
    show Steps p.tables e below (T171.setTop (mkF m 123 #[.val (.int x0), .val (.int x1), .val (.int x2), .val (.int x3), .val (.int x4), .val (.int v1), .val (.int v4), .val (.int v7), .val (.int v10), .val (.int v13), .val (.ref b15), .unset, .unset, .unset, .unset, .unset, .unset] [(.int v7), (.long (own_F8 v4 (0 : Int32) v169))])) _
    refine XS.iconst X171.here hx rfl (hb hby at_123) ?_
    show Steps p.tables e below (T171.setTop (mkF m 124 #[.val (.int x0), .val (.int x1), .val (.int x2), .val (.int x3), .val (.int x4), .val (.int v1), .val (.int v4), .val (.int v7), .val (.int v10), .val (.int v13), .val (.ref b15), .unset, .unset, .unset, .unset, .unset, .unset] [(.int (0 : Int32)), (.int v7), (.long (own_F8 v4 (0 : Int32) v169))])) _
    refine XS.iload X171.here hx rfl (hb hby at_124) rfl ?_
    show Steps p.tables e below (T171.setTop (mkF m 126 #[.val (.int x0), .val (.int x1), .val (.int x2), .val (.int x3), .val (.int x4), .val (.int v1), .val (.int v4), .val (.int v7), .val (.int v10), .val (.int v13), .val (.ref b15), .unset, .unset, .unset, .unset, .unset, .unset] [(.int v1), (.int (0 : Int32)), (.int v7), (.long (own_F8 v4 (0 : Int32) v169))])) _
    refine XS.iconst X171.here hx rfl (hb hby at_126) ?_
    show Steps p.tables e below (T171.setTop (mkF m 127 #[.val (.int x0), .val (.int x1), .val (.int x2), .val (.int x3), .val (.int x4), .val (.int v1), .val (.int v4), .val (.int v7), .val (.int v10), .val (.int v13), .val (.ref b15), .unset, .unset, .unset, .unset, .unset, .unset] [(.int (1 : Int32)), (.int v1), (.int (0 : Int32)), (.int v7), (.long (own_F8 v4 (0 : Int32) v169))])) _
    refine Steps.trans (s₂ := T171.setTop (mkF m 135 #[.val (.int x0), .val (.int x1), .val (.int x2), .val (.int x3), .val (.int x4), .val (.int v1), .val (.int v4), .val (.int v7), .val (.int v10), .val (.int v13), .val (.ref b15), .unset, .unset, .unset, .unset, .unset, .unset] [(.int (if (1 : Int32) < v1 then (1 : Int32) else (0 : Int32))), (.int (0 : Int32)), (.int v7), (.long (own_F8 v4 (0 : Int32) v169))])) ?_ ?_
    · by_cases hc127 : (1 : Int32) < v1
      · refine XS.icmpNo X171.here hx rfl (hb hby at_127) rfl (tlt hc127).2.2.2 ?_
        show Steps p.tables e below (T171.setTop (mkF m 130 #[.val (.int x0), .val (.int x1), .val (.int x2), .val (.int x3), .val (.int x4), .val (.int v1), .val (.int v4), .val (.int v7), .val (.int v10), .val (.int v13), .val (.ref b15), .unset, .unset, .unset, .unset, .unset, .unset] [(.int (0 : Int32)), (.int v7), (.long (own_F8 v4 (0 : Int32) v169))])) _
        refine XS.iconst X171.here hx rfl (hb hby at_130) ?_
        show Steps p.tables e below (T171.setTop (mkF m 131 #[.val (.int x0), .val (.int x1), .val (.int x2), .val (.int x3), .val (.int x4), .val (.int v1), .val (.int v4), .val (.int v7), .val (.int v10), .val (.int v13), .val (.ref b15), .unset, .unset, .unset, .unset, .unset, .unset] [(.int (1 : Int32)), (.int (0 : Int32)), (.int v7), (.long (own_F8 v4 (0 : Int32) v169))])) _
        refine XS.goto X171.here hx rfl (pc0 := 131) (pc' := 135) rfl (hb hby at_131) (by decide) (by decide) ?_
        show Steps p.tables e below (T171.setTop (mkF m 135 #[.val (.int x0), .val (.int x1), .val (.int x2), .val (.int x3), .val (.int x4), .val (.int v1), .val (.int v4), .val (.int v7), .val (.int v10), .val (.int v13), .val (.ref b15), .unset, .unset, .unset, .unset, .unset, .unset] [(.int (1 : Int32)), (.int (0 : Int32)), (.int v7), (.long (own_F8 v4 (0 : Int32) v169))])) _
        try simp only [if_pos hc127]
        exact Steps.refl _
      · refine XS.icmpYes X171.here hx rfl (pc0 := 127) (pc' := 134) rfl (hb hby at_127) rfl (flt hc127).2.2.2 (by decide) (by decide) ?_
        show Steps p.tables e below (T171.setTop (mkF m 134 #[.val (.int x0), .val (.int x1), .val (.int x2), .val (.int x3), .val (.int x4), .val (.int v1), .val (.int v4), .val (.int v7), .val (.int v10), .val (.int v13), .val (.ref b15), .unset, .unset, .unset, .unset, .unset, .unset] [(.int (0 : Int32)), (.int v7), (.long (own_F8 v4 (0 : Int32) v169))])) _
        refine XS.iconst X171.here hx rfl (hb hby at_134) ?_
        show Steps p.tables e below (T171.setTop (mkF m 135 #[.val (.int x0), .val (.int x1), .val (.int x2), .val (.int x3), .val (.int x4), .val (.int v1), .val (.int v4), .val (.int v7), .val (.int v10), .val (.int v13), .val (.ref b15), .unset, .unset, .unset, .unset, .unset, .unset] [(.int (0 : Int32)), (.int (0 : Int32)), (.int v7), (.long (own_F8 v4 (0 : Int32) v169))])) _
        try simp only [if_neg hc127]
        exact Steps.refl _
    show Steps p.tables e below (T171.setTop (mkF m 135 #[.val (.int x0), .val (.int x1), .val (.int x2), .val (.int x3), .val (.int x4), .val (.int v1), .val (.int v4), .val (.int v7), .val (.int v10), .val (.int v13), .val (.ref b15), .unset, .unset, .unset, .unset, .unset, .unset] [(.int (if (1 : Int32) < v1 then (1 : Int32) else (0 : Int32))), (.int (0 : Int32)), (.int v7), (.long (own_F8 v4 (0 : Int32) v169))])) _
    exact Steps.refl _
  have pre174 := pre171.trans st174
  obtain ⟨_, _, ⟨T175, L175, k175, n175⟩, -, X175, ⟨Lc175, hQ175, l175, y175, z175⟩, st175⟩ := Jvm.LawKit.callS X171 hx (y := (⟨"com/example/evident_ledger/evidentledger/TallyCountPinLaw", "hit", "(IIZ)J"⟩ : MethodName)) hown (mvT hZ (hw _ (List.mem_of_getElem? (i := 36) rfl))) (mvT hZ (hw _ (List.mem_of_getElem? (i := 37) rfl))) (mvT hZ (hw _ (List.mem_of_getElem? (i := 3) rfl))) (mvT hZ (hw _ (List.mem_of_getElem? (i := 38) rfl))) (by decide) (backOf (W := 2) (rm8 l Z a0 hw [] v7 (0 : Int32) v173 h168 n0 Z168) hZ (hw _ (List.mem_of_getElem? (i := 38) rfl)) (hw _ (List.mem_of_getElem? (i := 3) rfl)) (by decide) (by decide)) (g := (mkF m 135 #[.val (.int x0), .val (.int x1), .val (.int x2), .val (.int x3), .val (.int x4), .val (.int v1), .val (.int v4), .val (.int v7), .val (.int v10), .val (.int v13), .val (.ref b15), .unset, .unset, .unset, .unset, .unset, .unset] [(.int v173), (.int (0 : Int32)), (.int v7), (.long v172)])) rfl (by rw [hml]; rfl) (argsL := [(.int v7), (.int (0 : Int32)), (.int v173)]) (rest := [(.long v172)]) (lenOf pd0_4 rfl) rfl (by show 2 * 0 + _ ≤ _; exact Nat.le_of_eq rfl) (hb hby at_135) (fun _ _ => ⟨rfl, e171, (by decide : 3 + 0 ≤ _), (by decide : 7 + 0 ≤ _)⟩)
  dsimp only [Pt.U, Pt.locs, Pt.cells, Pt.slots] at X175 l175 y175 z175 st175 hQ175
  subst l175 y175 z175
  obtain ⟨rfl, Nq175, e175⟩ := hQ175
  have N175 := Fr.app N171 Nq175
  have pre175 : Steps p.tables e below (s₁.setTop (entryFrame m #[(.int x0), (.int x1), (.int x2), (.int x3), (.int x4)] maxLocals)) (T175.setTop (mkF m 138 #[.val (.int x0), .val (.int x1), .val (.int x2), .val (.int x3), .val (.int x4), .val (.int v1), .val (.int v4), .val (.int v7), .val (.int v10), .val (.int v13), .val (.ref b15), .unset, .unset, .unset, .unset, .unset, .unset] [(.long (own_F8 v7 (0 : Int32) v173)), (.long v172)])) := pre174.trans (st175 _ (Steps.refl _))
  obtain ⟨v176, hv176⟩ : ∃ z : Int64, z = (v172 + (own_F8 v7 (0 : Int32) v173)) := ⟨_, rfl⟩
  obtain ⟨v177, hv177⟩ : ∃ z : Int32, z = (if (2 : Int32) < v1 then (1 : Int32) else (0 : Int32)) := ⟨_, rfl⟩
  have st178 : Steps p.tables e below (T175.setTop (mkF m 138 #[.val (.int x0), .val (.int x1), .val (.int x2), .val (.int x3), .val (.int x4), .val (.int v1), .val (.int v4), .val (.int v7), .val (.int v10), .val (.int v13), .val (.ref b15), .unset, .unset, .unset, .unset, .unset, .unset] [(.long (own_F8 v7 (0 : Int32) v173)), (.long v172)])) (T175.setTop (mkF m 153 #[.val (.int x0), .val (.int x1), .val (.int x2), .val (.int x3), .val (.int x4), .val (.int v1), .val (.int v4), .val (.int v7), .val (.int v10), .val (.int v13), .val (.ref b15), .unset, .unset, .unset, .unset, .unset, .unset] [(.int v177), (.int (0 : Int32)), (.int v10), (.long v176)])) := by
    subst v177 v176
    refine XS.ladd X175.here hx rfl (hb hby at_138) rfl ?_
    show Steps p.tables e below (T175.setTop (mkF m 139 #[.val (.int x0), .val (.int x1), .val (.int x2), .val (.int x3), .val (.int x4), .val (.int v1), .val (.int v4), .val (.int v7), .val (.int v10), .val (.int v13), .val (.ref b15), .unset, .unset, .unset, .unset, .unset, .unset] [(.long (v172 + (own_F8 v7 (0 : Int32) v173)))])) _
    refine XS.iload X175.here hx rfl (hb hby at_139) rfl ?_
    show Steps p.tables e below (T175.setTop (mkF m 141 #[.val (.int x0), .val (.int x1), .val (.int x2), .val (.int x3), .val (.int x4), .val (.int v1), .val (.int v4), .val (.int v7), .val (.int v10), .val (.int v13), .val (.ref b15), .unset, .unset, .unset, .unset, .unset, .unset] [(.int v10), (.long (v172 + (own_F8 v7 (0 : Int32) v173)))])) _
    refine XS.iconst X175.here hx rfl (hb hby at_141) ?_
    show Steps p.tables e below (T175.setTop (mkF m 142 #[.val (.int x0), .val (.int x1), .val (.int x2), .val (.int x3), .val (.int x4), .val (.int v1), .val (.int v4), .val (.int v7), .val (.int v10), .val (.int v13), .val (.ref b15), .unset, .unset, .unset, .unset, .unset, .unset] [(.int (0 : Int32)), (.int v10), (.long (v172 + (own_F8 v7 (0 : Int32) v173)))])) _
    refine XS.iload X175.here hx rfl (hb hby at_142) rfl ?_
    show Steps p.tables e below (T175.setTop (mkF m 144 #[.val (.int x0), .val (.int x1), .val (.int x2), .val (.int x3), .val (.int x4), .val (.int v1), .val (.int v4), .val (.int v7), .val (.int v10), .val (.int v13), .val (.ref b15), .unset, .unset, .unset, .unset, .unset, .unset] [(.int v1), (.int (0 : Int32)), (.int v10), (.long (v172 + (own_F8 v7 (0 : Int32) v173)))])) _
    refine XS.iconst X175.here hx rfl (hb hby at_144) ?_
    show Steps p.tables e below (T175.setTop (mkF m 145 #[.val (.int x0), .val (.int x1), .val (.int x2), .val (.int x3), .val (.int x4), .val (.int v1), .val (.int v4), .val (.int v7), .val (.int v10), .val (.int v13), .val (.ref b15), .unset, .unset, .unset, .unset, .unset, .unset] [(.int (2 : Int32)), (.int v1), (.int (0 : Int32)), (.int v10), (.long (v172 + (own_F8 v7 (0 : Int32) v173)))])) _
    refine Steps.trans (s₂ := T175.setTop (mkF m 153 #[.val (.int x0), .val (.int x1), .val (.int x2), .val (.int x3), .val (.int x4), .val (.int v1), .val (.int v4), .val (.int v7), .val (.int v10), .val (.int v13), .val (.ref b15), .unset, .unset, .unset, .unset, .unset, .unset] [(.int (if (2 : Int32) < v1 then (1 : Int32) else (0 : Int32))), (.int (0 : Int32)), (.int v10), (.long (v172 + (own_F8 v7 (0 : Int32) v173)))])) ?_ ?_
    · by_cases hc145 : (2 : Int32) < v1
      · refine XS.icmpNo X175.here hx rfl (hb hby at_145) rfl (tlt hc145).2.2.2 ?_
        show Steps p.tables e below (T175.setTop (mkF m 148 #[.val (.int x0), .val (.int x1), .val (.int x2), .val (.int x3), .val (.int x4), .val (.int v1), .val (.int v4), .val (.int v7), .val (.int v10), .val (.int v13), .val (.ref b15), .unset, .unset, .unset, .unset, .unset, .unset] [(.int (0 : Int32)), (.int v10), (.long (v172 + (own_F8 v7 (0 : Int32) v173)))])) _
        refine XS.iconst X175.here hx rfl (hb hby at_148) ?_
        show Steps p.tables e below (T175.setTop (mkF m 149 #[.val (.int x0), .val (.int x1), .val (.int x2), .val (.int x3), .val (.int x4), .val (.int v1), .val (.int v4), .val (.int v7), .val (.int v10), .val (.int v13), .val (.ref b15), .unset, .unset, .unset, .unset, .unset, .unset] [(.int (1 : Int32)), (.int (0 : Int32)), (.int v10), (.long (v172 + (own_F8 v7 (0 : Int32) v173)))])) _
        refine XS.goto X175.here hx rfl (pc0 := 149) (pc' := 153) rfl (hb hby at_149) (by decide) (by decide) ?_
        show Steps p.tables e below (T175.setTop (mkF m 153 #[.val (.int x0), .val (.int x1), .val (.int x2), .val (.int x3), .val (.int x4), .val (.int v1), .val (.int v4), .val (.int v7), .val (.int v10), .val (.int v13), .val (.ref b15), .unset, .unset, .unset, .unset, .unset, .unset] [(.int (1 : Int32)), (.int (0 : Int32)), (.int v10), (.long (v172 + (own_F8 v7 (0 : Int32) v173)))])) _
        try simp only [if_pos hc145]
        exact Steps.refl _
      · refine XS.icmpYes X175.here hx rfl (pc0 := 145) (pc' := 152) rfl (hb hby at_145) rfl (flt hc145).2.2.2 (by decide) (by decide) ?_
        show Steps p.tables e below (T175.setTop (mkF m 152 #[.val (.int x0), .val (.int x1), .val (.int x2), .val (.int x3), .val (.int x4), .val (.int v1), .val (.int v4), .val (.int v7), .val (.int v10), .val (.int v13), .val (.ref b15), .unset, .unset, .unset, .unset, .unset, .unset] [(.int (0 : Int32)), (.int v10), (.long (v172 + (own_F8 v7 (0 : Int32) v173)))])) _
        refine XS.iconst X175.here hx rfl (hb hby at_152) ?_
        show Steps p.tables e below (T175.setTop (mkF m 153 #[.val (.int x0), .val (.int x1), .val (.int x2), .val (.int x3), .val (.int x4), .val (.int v1), .val (.int v4), .val (.int v7), .val (.int v10), .val (.int v13), .val (.ref b15), .unset, .unset, .unset, .unset, .unset, .unset] [(.int (0 : Int32)), (.int (0 : Int32)), (.int v10), (.long (v172 + (own_F8 v7 (0 : Int32) v173)))])) _
        try simp only [if_neg hc145]
        exact Steps.refl _
    show Steps p.tables e below (T175.setTop (mkF m 153 #[.val (.int x0), .val (.int x1), .val (.int x2), .val (.int x3), .val (.int x4), .val (.int v1), .val (.int v4), .val (.int v7), .val (.int v10), .val (.int v13), .val (.ref b15), .unset, .unset, .unset, .unset, .unset, .unset] [(.int (if (2 : Int32) < v1 then (1 : Int32) else (0 : Int32))), (.int (0 : Int32)), (.int v10), (.long (v172 + (own_F8 v7 (0 : Int32) v173)))])) _
    exact Steps.refl _
  have pre178 := pre175.trans st178
  obtain ⟨_, _, ⟨T179, L179, k179, n179⟩, -, X179, ⟨Lc179, hQ179, l179, y179, z179⟩, st179⟩ := Jvm.LawKit.callS X175 hx (y := (⟨"com/example/evident_ledger/evidentledger/TallyCountPinLaw", "hit", "(IIZ)J"⟩ : MethodName)) hown (mvT hZ (hw _ (List.mem_of_getElem? (i := 36) rfl))) (mvT hZ (hw _ (List.mem_of_getElem? (i := 37) rfl))) (mvT hZ (hw _ (List.mem_of_getElem? (i := 3) rfl))) (mvT hZ (hw _ (List.mem_of_getElem? (i := 38) rfl))) (by decide) (backOf (W := 2) (rm8 l Z a0 hw [] v10 (0 : Int32) v177 h168 n0 Z168) hZ (hw _ (List.mem_of_getElem? (i := 38) rfl)) (hw _ (List.mem_of_getElem? (i := 3) rfl)) (by decide) (by decide)) (g := (mkF m 153 #[.val (.int x0), .val (.int x1), .val (.int x2), .val (.int x3), .val (.int x4), .val (.int v1), .val (.int v4), .val (.int v7), .val (.int v10), .val (.int v13), .val (.ref b15), .unset, .unset, .unset, .unset, .unset, .unset] [(.int v177), (.int (0 : Int32)), (.int v10), (.long v176)])) rfl (by rw [hml]; rfl) (argsL := [(.int v10), (.int (0 : Int32)), (.int v177)]) (rest := [(.long v176)]) (lenOf pd0_4 rfl) rfl (by show 2 * 0 + _ ≤ _; exact Nat.le_of_eq rfl) (hb hby at_153) (fun _ _ => ⟨rfl, e175, (by decide : 3 + 0 ≤ _), (by decide : 7 + 0 ≤ _)⟩)
  dsimp only [Pt.U, Pt.locs, Pt.cells, Pt.slots] at X179 l179 y179 z179 st179 hQ179
  subst l179 y179 z179
  obtain ⟨rfl, Nq179, e179⟩ := hQ179
  have N179 := Fr.app N175 Nq179
  have pre179 : Steps p.tables e below (s₁.setTop (entryFrame m #[(.int x0), (.int x1), (.int x2), (.int x3), (.int x4)] maxLocals)) (T179.setTop (mkF m 156 #[.val (.int x0), .val (.int x1), .val (.int x2), .val (.int x3), .val (.int x4), .val (.int v1), .val (.int v4), .val (.int v7), .val (.int v10), .val (.int v13), .val (.ref b15), .unset, .unset, .unset, .unset, .unset, .unset] [(.long (own_F8 v10 (0 : Int32) v177)), (.long v176)])) := pre178.trans (st179 _ (Steps.refl _))
  obtain ⟨v180, hv180⟩ : ∃ z : Int64, z = (v176 + (own_F8 v10 (0 : Int32) v177)) := ⟨_, rfl⟩
  obtain ⟨v181, hv181⟩ : ∃ z : Int32, z = (if (3 : Int32) < v1 then (1 : Int32) else (0 : Int32)) := ⟨_, rfl⟩
  have st182 : Steps p.tables e below (T179.setTop (mkF m 156 #[.val (.int x0), .val (.int x1), .val (.int x2), .val (.int x3), .val (.int x4), .val (.int v1), .val (.int v4), .val (.int v7), .val (.int v10), .val (.int v13), .val (.ref b15), .unset, .unset, .unset, .unset, .unset, .unset] [(.long (own_F8 v10 (0 : Int32) v177)), (.long v176)])) (T179.setTop (mkF m 171 #[.val (.int x0), .val (.int x1), .val (.int x2), .val (.int x3), .val (.int x4), .val (.int v1), .val (.int v4), .val (.int v7), .val (.int v10), .val (.int v13), .val (.ref b15), .unset, .unset, .unset, .unset, .unset, .unset] [(.int v181), (.int (0 : Int32)), (.int v13), (.long v180)])) := by
    subst v181 v180
    refine XS.ladd X179.here hx rfl (hb hby at_156) rfl ?_
    show Steps p.tables e below (T179.setTop (mkF m 157 #[.val (.int x0), .val (.int x1), .val (.int x2), .val (.int x3), .val (.int x4), .val (.int v1), .val (.int v4), .val (.int v7), .val (.int v10), .val (.int v13), .val (.ref b15), .unset, .unset, .unset, .unset, .unset, .unset] [(.long (v176 + (own_F8 v10 (0 : Int32) v177)))])) _
    refine XS.iload X179.here hx rfl (hb hby at_157) rfl ?_
    show Steps p.tables e below (T179.setTop (mkF m 159 #[.val (.int x0), .val (.int x1), .val (.int x2), .val (.int x3), .val (.int x4), .val (.int v1), .val (.int v4), .val (.int v7), .val (.int v10), .val (.int v13), .val (.ref b15), .unset, .unset, .unset, .unset, .unset, .unset] [(.int v13), (.long (v176 + (own_F8 v10 (0 : Int32) v177)))])) _
    refine XS.iconst X179.here hx rfl (hb hby at_159) ?_
    show Steps p.tables e below (T179.setTop (mkF m 160 #[.val (.int x0), .val (.int x1), .val (.int x2), .val (.int x3), .val (.int x4), .val (.int v1), .val (.int v4), .val (.int v7), .val (.int v10), .val (.int v13), .val (.ref b15), .unset, .unset, .unset, .unset, .unset, .unset] [(.int (0 : Int32)), (.int v13), (.long (v176 + (own_F8 v10 (0 : Int32) v177)))])) _
    refine XS.iload X179.here hx rfl (hb hby at_160) rfl ?_
    show Steps p.tables e below (T179.setTop (mkF m 162 #[.val (.int x0), .val (.int x1), .val (.int x2), .val (.int x3), .val (.int x4), .val (.int v1), .val (.int v4), .val (.int v7), .val (.int v10), .val (.int v13), .val (.ref b15), .unset, .unset, .unset, .unset, .unset, .unset] [(.int v1), (.int (0 : Int32)), (.int v13), (.long (v176 + (own_F8 v10 (0 : Int32) v177)))])) _
    refine XS.iconst X179.here hx rfl (hb hby at_162) ?_
    show Steps p.tables e below (T179.setTop (mkF m 163 #[.val (.int x0), .val (.int x1), .val (.int x2), .val (.int x3), .val (.int x4), .val (.int v1), .val (.int v4), .val (.int v7), .val (.int v10), .val (.int v13), .val (.ref b15), .unset, .unset, .unset, .unset, .unset, .unset] [(.int (3 : Int32)), (.int v1), (.int (0 : Int32)), (.int v13), (.long (v176 + (own_F8 v10 (0 : Int32) v177)))])) _
    refine Steps.trans (s₂ := T179.setTop (mkF m 171 #[.val (.int x0), .val (.int x1), .val (.int x2), .val (.int x3), .val (.int x4), .val (.int v1), .val (.int v4), .val (.int v7), .val (.int v10), .val (.int v13), .val (.ref b15), .unset, .unset, .unset, .unset, .unset, .unset] [(.int (if (3 : Int32) < v1 then (1 : Int32) else (0 : Int32))), (.int (0 : Int32)), (.int v13), (.long (v176 + (own_F8 v10 (0 : Int32) v177)))])) ?_ ?_
    · by_cases hc163 : (3 : Int32) < v1
      · refine XS.icmpNo X179.here hx rfl (hb hby at_163) rfl (tlt hc163).2.2.2 ?_
        show Steps p.tables e below (T179.setTop (mkF m 166 #[.val (.int x0), .val (.int x1), .val (.int x2), .val (.int x3), .val (.int x4), .val (.int v1), .val (.int v4), .val (.int v7), .val (.int v10), .val (.int v13), .val (.ref b15), .unset, .unset, .unset, .unset, .unset, .unset] [(.int (0 : Int32)), (.int v13), (.long (v176 + (own_F8 v10 (0 : Int32) v177)))])) _
        refine XS.iconst X179.here hx rfl (hb hby at_166) ?_
        show Steps p.tables e below (T179.setTop (mkF m 167 #[.val (.int x0), .val (.int x1), .val (.int x2), .val (.int x3), .val (.int x4), .val (.int v1), .val (.int v4), .val (.int v7), .val (.int v10), .val (.int v13), .val (.ref b15), .unset, .unset, .unset, .unset, .unset, .unset] [(.int (1 : Int32)), (.int (0 : Int32)), (.int v13), (.long (v176 + (own_F8 v10 (0 : Int32) v177)))])) _
        refine XS.goto X179.here hx rfl (pc0 := 167) (pc' := 171) rfl (hb hby at_167) (by decide) (by decide) ?_
        show Steps p.tables e below (T179.setTop (mkF m 171 #[.val (.int x0), .val (.int x1), .val (.int x2), .val (.int x3), .val (.int x4), .val (.int v1), .val (.int v4), .val (.int v7), .val (.int v10), .val (.int v13), .val (.ref b15), .unset, .unset, .unset, .unset, .unset, .unset] [(.int (1 : Int32)), (.int (0 : Int32)), (.int v13), (.long (v176 + (own_F8 v10 (0 : Int32) v177)))])) _
        try simp only [if_pos hc163]
        exact Steps.refl _
      · refine XS.icmpYes X179.here hx rfl (pc0 := 163) (pc' := 170) rfl (hb hby at_163) rfl (flt hc163).2.2.2 (by decide) (by decide) ?_
        show Steps p.tables e below (T179.setTop (mkF m 170 #[.val (.int x0), .val (.int x1), .val (.int x2), .val (.int x3), .val (.int x4), .val (.int v1), .val (.int v4), .val (.int v7), .val (.int v10), .val (.int v13), .val (.ref b15), .unset, .unset, .unset, .unset, .unset, .unset] [(.int (0 : Int32)), (.int v13), (.long (v176 + (own_F8 v10 (0 : Int32) v177)))])) _
        refine XS.iconst X179.here hx rfl (hb hby at_170) ?_
        show Steps p.tables e below (T179.setTop (mkF m 171 #[.val (.int x0), .val (.int x1), .val (.int x2), .val (.int x3), .val (.int x4), .val (.int v1), .val (.int v4), .val (.int v7), .val (.int v10), .val (.int v13), .val (.ref b15), .unset, .unset, .unset, .unset, .unset, .unset] [(.int (0 : Int32)), (.int (0 : Int32)), (.int v13), (.long (v176 + (own_F8 v10 (0 : Int32) v177)))])) _
        try simp only [if_neg hc163]
        exact Steps.refl _
    show Steps p.tables e below (T179.setTop (mkF m 171 #[.val (.int x0), .val (.int x1), .val (.int x2), .val (.int x3), .val (.int x4), .val (.int v1), .val (.int v4), .val (.int v7), .val (.int v10), .val (.int v13), .val (.ref b15), .unset, .unset, .unset, .unset, .unset, .unset] [(.int (if (3 : Int32) < v1 then (1 : Int32) else (0 : Int32))), (.int (0 : Int32)), (.int v13), (.long (v176 + (own_F8 v10 (0 : Int32) v177)))])) _
    exact Steps.refl _
  have pre182 := pre179.trans st182
  obtain ⟨_, _, ⟨T183, L183, k183, n183⟩, -, X183, ⟨Lc183, hQ183, l183, y183, z183⟩, st183⟩ := Jvm.LawKit.callS X179 hx (y := (⟨"com/example/evident_ledger/evidentledger/TallyCountPinLaw", "hit", "(IIZ)J"⟩ : MethodName)) hown (mvT hZ (hw _ (List.mem_of_getElem? (i := 36) rfl))) (mvT hZ (hw _ (List.mem_of_getElem? (i := 37) rfl))) (mvT hZ (hw _ (List.mem_of_getElem? (i := 3) rfl))) (mvT hZ (hw _ (List.mem_of_getElem? (i := 38) rfl))) (by decide) (backOf (W := 2) (rm8 l Z a0 hw [] v13 (0 : Int32) v181 h168 n0 Z168) hZ (hw _ (List.mem_of_getElem? (i := 38) rfl)) (hw _ (List.mem_of_getElem? (i := 3) rfl)) (by decide) (by decide)) (g := (mkF m 171 #[.val (.int x0), .val (.int x1), .val (.int x2), .val (.int x3), .val (.int x4), .val (.int v1), .val (.int v4), .val (.int v7), .val (.int v10), .val (.int v13), .val (.ref b15), .unset, .unset, .unset, .unset, .unset, .unset] [(.int v181), (.int (0 : Int32)), (.int v13), (.long v180)])) rfl (by rw [hml]; rfl) (argsL := [(.int v13), (.int (0 : Int32)), (.int v181)]) (rest := [(.long v180)]) (lenOf pd0_4 rfl) rfl (by show 2 * 0 + _ ≤ _; exact Nat.le_of_eq rfl) (hb hby at_171) (fun _ _ => ⟨rfl, e179, (by decide : 3 + 0 ≤ _), (by decide : 7 + 0 ≤ _)⟩)
  dsimp only [Pt.U, Pt.locs, Pt.cells, Pt.slots] at X183 l183 y183 z183 st183 hQ183
  subst l183 y183 z183
  obtain ⟨rfl, Nq183, e183⟩ := hQ183
  have N183 := Fr.app N179 Nq183
  have pre183 : Steps p.tables e below (s₁.setTop (entryFrame m #[(.int x0), (.int x1), (.int x2), (.int x3), (.int x4)] maxLocals)) (T183.setTop (mkF m 174 #[.val (.int x0), .val (.int x1), .val (.int x2), .val (.int x3), .val (.int x4), .val (.int v1), .val (.int v4), .val (.int v7), .val (.int v10), .val (.int v13), .val (.ref b15), .unset, .unset, .unset, .unset, .unset, .unset] [(.long (own_F8 v13 (0 : Int32) v181)), (.long v180)])) := pre182.trans (st183 _ (Steps.refl _))
  obtain ⟨v184, hv184⟩ : ∃ z : Int64, z = (v180 + (own_F8 v13 (0 : Int32) v181)) := ⟨_, rfl⟩
  obtain ⟨v185, hv185⟩ : ∃ z : Int32, z = (if (0 : Int32) < v1 then (1 : Int32) else (0 : Int32)) := ⟨_, rfl⟩
  have st186 : Steps p.tables e below (T183.setTop (mkF m 174 #[.val (.int x0), .val (.int x1), .val (.int x2), .val (.int x3), .val (.int x4), .val (.int v1), .val (.int v4), .val (.int v7), .val (.int v10), .val (.int v13), .val (.ref b15), .unset, .unset, .unset, .unset, .unset, .unset] [(.long (own_F8 v13 (0 : Int32) v181)), (.long v180)])) (T183.setTop (mkF m 190 #[.val (.int x0), .val (.int x1), .val (.int x2), .val (.int x3), .val (.int x4), .val (.int v1), .val (.int v4), .val (.int v7), .val (.int v10), .val (.int v13), .val (.ref b15), .val (.long v184), .second, .unset, .unset, .unset, .unset] [(.int v185), (.int (1 : Int32)), (.int v4)])) := by
    subst v185 v184
    refine XS.ladd X183.here hx rfl (hb hby at_174) rfl ?_
    show Steps p.tables e below (T183.setTop (mkF m 175 #[.val (.int x0), .val (.int x1), .val (.int x2), .val (.int x3), .val (.int x4), .val (.int v1), .val (.int v4), .val (.int v7), .val (.int v10), .val (.int v13), .val (.ref b15), .unset, .unset, .unset, .unset, .unset, .unset] [(.long (v180 + (own_F8 v13 (0 : Int32) v181)))])) _
    refine XS.lstore X183.here hx rfl (hb hby at_175) rfl (l' := #[.val (.int x0), .val (.int x1), .val (.int x2), .val (.int x3), .val (.int x4), .val (.int v1), .val (.int v4), .val (.int v7), .val (.int v10), .val (.int v13), .val (.ref b15), .val (.long (v180 + (own_F8 v13 (0 : Int32) v181))), .second, .unset, .unset, .unset, .unset]) rfl ?_
    show Steps p.tables e below (T183.setTop (mkF m 177 #[.val (.int x0), .val (.int x1), .val (.int x2), .val (.int x3), .val (.int x4), .val (.int v1), .val (.int v4), .val (.int v7), .val (.int v10), .val (.int v13), .val (.ref b15), .val (.long (v180 + (own_F8 v13 (0 : Int32) v181))), .second, .unset, .unset, .unset, .unset] [])) _
    refine XS.iload X183.here hx rfl (hb hby at_177) rfl ?_
    show Steps p.tables e below (T183.setTop (mkF m 179 #[.val (.int x0), .val (.int x1), .val (.int x2), .val (.int x3), .val (.int x4), .val (.int v1), .val (.int v4), .val (.int v7), .val (.int v10), .val (.int v13), .val (.ref b15), .val (.long (v180 + (own_F8 v13 (0 : Int32) v181))), .second, .unset, .unset, .unset, .unset] [(.int v4)])) _
    refine XS.iconst X183.here hx rfl (hb hby at_179) ?_
    show Steps p.tables e below (T183.setTop (mkF m 180 #[.val (.int x0), .val (.int x1), .val (.int x2), .val (.int x3), .val (.int x4), .val (.int v1), .val (.int v4), .val (.int v7), .val (.int v10), .val (.int v13), .val (.ref b15), .val (.long (v180 + (own_F8 v13 (0 : Int32) v181))), .second, .unset, .unset, .unset, .unset] [(.int (1 : Int32)), (.int v4)])) _
    refine XS.iload X183.here hx rfl (hb hby at_180) rfl ?_
    show Steps p.tables e below (T183.setTop (mkF m 182 #[.val (.int x0), .val (.int x1), .val (.int x2), .val (.int x3), .val (.int x4), .val (.int v1), .val (.int v4), .val (.int v7), .val (.int v10), .val (.int v13), .val (.ref b15), .val (.long (v180 + (own_F8 v13 (0 : Int32) v181))), .second, .unset, .unset, .unset, .unset] [(.int v1), (.int (1 : Int32)), (.int v4)])) _
    refine Steps.trans (s₂ := T183.setTop (mkF m 190 #[.val (.int x0), .val (.int x1), .val (.int x2), .val (.int x3), .val (.int x4), .val (.int v1), .val (.int v4), .val (.int v7), .val (.int v10), .val (.int v13), .val (.ref b15), .val (.long (v180 + (own_F8 v13 (0 : Int32) v181))), .second, .unset, .unset, .unset, .unset] [(.int (if (0 : Int32) < v1 then (1 : Int32) else (0 : Int32))), (.int (1 : Int32)), (.int v4)])) ?_ ?_
    · by_cases hc182 : (0 : Int32) < v1
      · refine XS.ifNo X183.here hx rfl (hb hby at_182) rfl ((if0 _ _).trans (tlt hc182).2.2.2) ?_
        show Steps p.tables e below (T183.setTop (mkF m 185 #[.val (.int x0), .val (.int x1), .val (.int x2), .val (.int x3), .val (.int x4), .val (.int v1), .val (.int v4), .val (.int v7), .val (.int v10), .val (.int v13), .val (.ref b15), .val (.long (v180 + (own_F8 v13 (0 : Int32) v181))), .second, .unset, .unset, .unset, .unset] [(.int (1 : Int32)), (.int v4)])) _
        refine XS.iconst X183.here hx rfl (hb hby at_185) ?_
        show Steps p.tables e below (T183.setTop (mkF m 186 #[.val (.int x0), .val (.int x1), .val (.int x2), .val (.int x3), .val (.int x4), .val (.int v1), .val (.int v4), .val (.int v7), .val (.int v10), .val (.int v13), .val (.ref b15), .val (.long (v180 + (own_F8 v13 (0 : Int32) v181))), .second, .unset, .unset, .unset, .unset] [(.int (1 : Int32)), (.int (1 : Int32)), (.int v4)])) _
        refine XS.goto X183.here hx rfl (pc0 := 186) (pc' := 190) rfl (hb hby at_186) (by decide) (by decide) ?_
        show Steps p.tables e below (T183.setTop (mkF m 190 #[.val (.int x0), .val (.int x1), .val (.int x2), .val (.int x3), .val (.int x4), .val (.int v1), .val (.int v4), .val (.int v7), .val (.int v10), .val (.int v13), .val (.ref b15), .val (.long (v180 + (own_F8 v13 (0 : Int32) v181))), .second, .unset, .unset, .unset, .unset] [(.int (1 : Int32)), (.int (1 : Int32)), (.int v4)])) _
        try simp only [if_pos hc182]
        exact Steps.refl _
      · refine XS.ifYes X183.here hx rfl (pc0 := 182) (pc' := 189) rfl (hb hby at_182) rfl ((if0 _ _).trans (flt hc182).2.2.2) (by decide) (by decide) ?_
        show Steps p.tables e below (T183.setTop (mkF m 189 #[.val (.int x0), .val (.int x1), .val (.int x2), .val (.int x3), .val (.int x4), .val (.int v1), .val (.int v4), .val (.int v7), .val (.int v10), .val (.int v13), .val (.ref b15), .val (.long (v180 + (own_F8 v13 (0 : Int32) v181))), .second, .unset, .unset, .unset, .unset] [(.int (1 : Int32)), (.int v4)])) _
        refine XS.iconst X183.here hx rfl (hb hby at_189) ?_
        show Steps p.tables e below (T183.setTop (mkF m 190 #[.val (.int x0), .val (.int x1), .val (.int x2), .val (.int x3), .val (.int x4), .val (.int v1), .val (.int v4), .val (.int v7), .val (.int v10), .val (.int v13), .val (.ref b15), .val (.long (v180 + (own_F8 v13 (0 : Int32) v181))), .second, .unset, .unset, .unset, .unset] [(.int (0 : Int32)), (.int (1 : Int32)), (.int v4)])) _
        try simp only [if_neg hc182]
        exact Steps.refl _
    show Steps p.tables e below (T183.setTop (mkF m 190 #[.val (.int x0), .val (.int x1), .val (.int x2), .val (.int x3), .val (.int x4), .val (.int v1), .val (.int v4), .val (.int v7), .val (.int v10), .val (.int v13), .val (.ref b15), .val (.long (v180 + (own_F8 v13 (0 : Int32) v181))), .second, .unset, .unset, .unset, .unset] [(.int (if (0 : Int32) < v1 then (1 : Int32) else (0 : Int32))), (.int (1 : Int32)), (.int v4)])) _
    exact Steps.refl _
  have pre186 := pre183.trans st186
  obtain ⟨_, _, ⟨T187, L187, k187, n187⟩, -, X187, ⟨Lc187, hQ187, l187, y187, z187⟩, st187⟩ := Jvm.LawKit.callS X183 hx (y := (⟨"com/example/evident_ledger/evidentledger/TallyCountPinLaw", "hit", "(IIZ)J"⟩ : MethodName)) hown (mvT hZ (hw _ (List.mem_of_getElem? (i := 36) rfl))) (mvT hZ (hw _ (List.mem_of_getElem? (i := 37) rfl))) (mvT hZ (hw _ (List.mem_of_getElem? (i := 3) rfl))) (mvT hZ (hw _ (List.mem_of_getElem? (i := 38) rfl))) (by decide) (backOf (W := 0) (rm8 l Z a0 hw [] v4 (1 : Int32) v185 h168 n0 Z168) hZ (hw _ (List.mem_of_getElem? (i := 38) rfl)) (hw _ (List.mem_of_getElem? (i := 3) rfl)) (by decide) (by decide)) (g := (mkF m 190 #[.val (.int x0), .val (.int x1), .val (.int x2), .val (.int x3), .val (.int x4), .val (.int v1), .val (.int v4), .val (.int v7), .val (.int v10), .val (.int v13), .val (.ref b15), .val (.long v184), .second, .unset, .unset, .unset, .unset] [(.int v185), (.int (1 : Int32)), (.int v4)])) rfl (by rw [hml]; rfl) (argsL := [(.int v4), (.int (1 : Int32)), (.int v185)]) (rest := []) (lenOf pd0_4 rfl) rfl (by show 2 * 0 + _ ≤ _; exact Nat.le_of_eq rfl) (hb hby at_190) (fun _ _ => ⟨rfl, e183, (by decide : 3 + 0 ≤ _), (by decide : 7 + 0 ≤ _)⟩)
  dsimp only [Pt.U, Pt.locs, Pt.cells, Pt.slots] at X187 l187 y187 z187 st187 hQ187
  subst l187 y187 z187
  obtain ⟨rfl, Nq187, e187⟩ := hQ187
  have N187 := Fr.app N183 Nq187
  have pre187 : Steps p.tables e below (s₁.setTop (entryFrame m #[(.int x0), (.int x1), (.int x2), (.int x3), (.int x4)] maxLocals)) (T187.setTop (mkF m 193 #[.val (.int x0), .val (.int x1), .val (.int x2), .val (.int x3), .val (.int x4), .val (.int v1), .val (.int v4), .val (.int v7), .val (.int v10), .val (.int v13), .val (.ref b15), .val (.long v184), .second, .unset, .unset, .unset, .unset] [(.long (own_F8 v4 (1 : Int32) v185))])) := pre186.trans (st187 _ (Steps.refl _))
  obtain ⟨v188, hv188⟩ : ∃ z : Int64, z = (own_F8 v4 (1 : Int32) v185) := ⟨_, rfl⟩
  obtain ⟨v189, hv189⟩ : ∃ z : Int32, z = (if (1 : Int32) < v1 then (1 : Int32) else (0 : Int32)) := ⟨_, rfl⟩
  have st190 : Steps p.tables e below (T187.setTop (mkF m 193 #[.val (.int x0), .val (.int x1), .val (.int x2), .val (.int x3), .val (.int x4), .val (.int v1), .val (.int v4), .val (.int v7), .val (.int v10), .val (.int v13), .val (.ref b15), .val (.long v184), .second, .unset, .unset, .unset, .unset] [(.long (own_F8 v4 (1 : Int32) v185))])) (T187.setTop (mkF m 207 #[.val (.int x0), .val (.int x1), .val (.int x2), .val (.int x3), .val (.int x4), .val (.int v1), .val (.int v4), .val (.int v7), .val (.int v10), .val (.int v13), .val (.ref b15), .val (.long v184), .second, .unset, .unset, .unset, .unset] [(.int v189), (.int (1 : Int32)), (.int v7), (.long v188)])) := by
    subst v189 v188
    refine XS.iload X187.here hx rfl (hb hby at_193) rfl ?_
    show Steps p.tables e below (T187.setTop (mkF m 195 #[.val (.int x0), .val (.int x1), .val (.int x2), .val (.int x3), .val (.int x4), .val (.int v1), .val (.int v4), .val (.int v7), .val (.int v10), .val (.int v13), .val (.ref b15), .val (.long v184), .second, .unset, .unset, .unset, .unset] [(.int v7), (.long (own_F8 v4 (1 : Int32) v185))])) _
    refine XS.iconst X187.here hx rfl (hb hby at_195) ?_
    show Steps p.tables e below (T187.setTop (mkF m 196 #[.val (.int x0), .val (.int x1), .val (.int x2), .val (.int x3), .val (.int x4), .val (.int v1), .val (.int v4), .val (.int v7), .val (.int v10), .val (.int v13), .val (.ref b15), .val (.long v184), .second, .unset, .unset, .unset, .unset] [(.int (1 : Int32)), (.int v7), (.long (own_F8 v4 (1 : Int32) v185))])) _
    refine XS.iload X187.here hx rfl (hb hby at_196) rfl ?_
    show Steps p.tables e below (T187.setTop (mkF m 198 #[.val (.int x0), .val (.int x1), .val (.int x2), .val (.int x3), .val (.int x4), .val (.int v1), .val (.int v4), .val (.int v7), .val (.int v10), .val (.int v13), .val (.ref b15), .val (.long v184), .second, .unset, .unset, .unset, .unset] [(.int v1), (.int (1 : Int32)), (.int v7), (.long (own_F8 v4 (1 : Int32) v185))])) _
    refine XS.iconst X187.here hx rfl (hb hby at_198) ?_
    show Steps p.tables e below (T187.setTop (mkF m 199 #[.val (.int x0), .val (.int x1), .val (.int x2), .val (.int x3), .val (.int x4), .val (.int v1), .val (.int v4), .val (.int v7), .val (.int v10), .val (.int v13), .val (.ref b15), .val (.long v184), .second, .unset, .unset, .unset, .unset] [(.int (1 : Int32)), (.int v1), (.int (1 : Int32)), (.int v7), (.long (own_F8 v4 (1 : Int32) v185))])) _
    refine Steps.trans (s₂ := T187.setTop (mkF m 207 #[.val (.int x0), .val (.int x1), .val (.int x2), .val (.int x3), .val (.int x4), .val (.int v1), .val (.int v4), .val (.int v7), .val (.int v10), .val (.int v13), .val (.ref b15), .val (.long v184), .second, .unset, .unset, .unset, .unset] [(.int (if (1 : Int32) < v1 then (1 : Int32) else (0 : Int32))), (.int (1 : Int32)), (.int v7), (.long (own_F8 v4 (1 : Int32) v185))])) ?_ ?_
    · by_cases hc199 : (1 : Int32) < v1
      · refine XS.icmpNo X187.here hx rfl (hb hby at_199) rfl (tlt hc199).2.2.2 ?_
        show Steps p.tables e below (T187.setTop (mkF m 202 #[.val (.int x0), .val (.int x1), .val (.int x2), .val (.int x3), .val (.int x4), .val (.int v1), .val (.int v4), .val (.int v7), .val (.int v10), .val (.int v13), .val (.ref b15), .val (.long v184), .second, .unset, .unset, .unset, .unset] [(.int (1 : Int32)), (.int v7), (.long (own_F8 v4 (1 : Int32) v185))])) _
        refine XS.iconst X187.here hx rfl (hb hby at_202) ?_
        show Steps p.tables e below (T187.setTop (mkF m 203 #[.val (.int x0), .val (.int x1), .val (.int x2), .val (.int x3), .val (.int x4), .val (.int v1), .val (.int v4), .val (.int v7), .val (.int v10), .val (.int v13), .val (.ref b15), .val (.long v184), .second, .unset, .unset, .unset, .unset] [(.int (1 : Int32)), (.int (1 : Int32)), (.int v7), (.long (own_F8 v4 (1 : Int32) v185))])) _
        refine XS.goto X187.here hx rfl (pc0 := 203) (pc' := 207) rfl (hb hby at_203) (by decide) (by decide) ?_
        show Steps p.tables e below (T187.setTop (mkF m 207 #[.val (.int x0), .val (.int x1), .val (.int x2), .val (.int x3), .val (.int x4), .val (.int v1), .val (.int v4), .val (.int v7), .val (.int v10), .val (.int v13), .val (.ref b15), .val (.long v184), .second, .unset, .unset, .unset, .unset] [(.int (1 : Int32)), (.int (1 : Int32)), (.int v7), (.long (own_F8 v4 (1 : Int32) v185))])) _
        try simp only [if_pos hc199]
        exact Steps.refl _
      · refine XS.icmpYes X187.here hx rfl (pc0 := 199) (pc' := 206) rfl (hb hby at_199) rfl (flt hc199).2.2.2 (by decide) (by decide) ?_
        show Steps p.tables e below (T187.setTop (mkF m 206 #[.val (.int x0), .val (.int x1), .val (.int x2), .val (.int x3), .val (.int x4), .val (.int v1), .val (.int v4), .val (.int v7), .val (.int v10), .val (.int v13), .val (.ref b15), .val (.long v184), .second, .unset, .unset, .unset, .unset] [(.int (1 : Int32)), (.int v7), (.long (own_F8 v4 (1 : Int32) v185))])) _
        refine XS.iconst X187.here hx rfl (hb hby at_206) ?_
        show Steps p.tables e below (T187.setTop (mkF m 207 #[.val (.int x0), .val (.int x1), .val (.int x2), .val (.int x3), .val (.int x4), .val (.int v1), .val (.int v4), .val (.int v7), .val (.int v10), .val (.int v13), .val (.ref b15), .val (.long v184), .second, .unset, .unset, .unset, .unset] [(.int (0 : Int32)), (.int (1 : Int32)), (.int v7), (.long (own_F8 v4 (1 : Int32) v185))])) _
        try simp only [if_neg hc199]
        exact Steps.refl _
    show Steps p.tables e below (T187.setTop (mkF m 207 #[.val (.int x0), .val (.int x1), .val (.int x2), .val (.int x3), .val (.int x4), .val (.int v1), .val (.int v4), .val (.int v7), .val (.int v10), .val (.int v13), .val (.ref b15), .val (.long v184), .second, .unset, .unset, .unset, .unset] [(.int (if (1 : Int32) < v1 then (1 : Int32) else (0 : Int32))), (.int (1 : Int32)), (.int v7), (.long (own_F8 v4 (1 : Int32) v185))])) _
    exact Steps.refl _
  have pre190 := pre187.trans st190
  obtain ⟨_, _, ⟨T191, L191, k191, n191⟩, -, X191, ⟨Lc191, hQ191, l191, y191, z191⟩, st191⟩ := Jvm.LawKit.callS X187 hx (y := (⟨"com/example/evident_ledger/evidentledger/TallyCountPinLaw", "hit", "(IIZ)J"⟩ : MethodName)) hown (mvT hZ (hw _ (List.mem_of_getElem? (i := 36) rfl))) (mvT hZ (hw _ (List.mem_of_getElem? (i := 37) rfl))) (mvT hZ (hw _ (List.mem_of_getElem? (i := 3) rfl))) (mvT hZ (hw _ (List.mem_of_getElem? (i := 38) rfl))) (by decide) (backOf (W := 2) (rm8 l Z a0 hw [] v7 (1 : Int32) v189 h168 n0 Z168) hZ (hw _ (List.mem_of_getElem? (i := 38) rfl)) (hw _ (List.mem_of_getElem? (i := 3) rfl)) (by decide) (by decide)) (g := (mkF m 207 #[.val (.int x0), .val (.int x1), .val (.int x2), .val (.int x3), .val (.int x4), .val (.int v1), .val (.int v4), .val (.int v7), .val (.int v10), .val (.int v13), .val (.ref b15), .val (.long v184), .second, .unset, .unset, .unset, .unset] [(.int v189), (.int (1 : Int32)), (.int v7), (.long v188)])) rfl (by rw [hml]; rfl) (argsL := [(.int v7), (.int (1 : Int32)), (.int v189)]) (rest := [(.long v188)]) (lenOf pd0_4 rfl) rfl (by show 2 * 0 + _ ≤ _; exact Nat.le_of_eq rfl) (hb hby at_207) (fun _ _ => ⟨rfl, e187, (by decide : 3 + 0 ≤ _), (by decide : 7 + 0 ≤ _)⟩)
  dsimp only [Pt.U, Pt.locs, Pt.cells, Pt.slots] at X191 l191 y191 z191 st191 hQ191
  subst l191 y191 z191
  obtain ⟨rfl, Nq191, e191⟩ := hQ191
  have N191 := Fr.app N187 Nq191
  have pre191 : Steps p.tables e below (s₁.setTop (entryFrame m #[(.int x0), (.int x1), (.int x2), (.int x3), (.int x4)] maxLocals)) (T191.setTop (mkF m 210 #[.val (.int x0), .val (.int x1), .val (.int x2), .val (.int x3), .val (.int x4), .val (.int v1), .val (.int v4), .val (.int v7), .val (.int v10), .val (.int v13), .val (.ref b15), .val (.long v184), .second, .unset, .unset, .unset, .unset] [(.long (own_F8 v7 (1 : Int32) v189)), (.long v188)])) := pre190.trans (st191 _ (Steps.refl _))
  obtain ⟨v192, hv192⟩ : ∃ z : Int64, z = (v188 + (own_F8 v7 (1 : Int32) v189)) := ⟨_, rfl⟩
  obtain ⟨v193, hv193⟩ : ∃ z : Int32, z = (if (2 : Int32) < v1 then (1 : Int32) else (0 : Int32)) := ⟨_, rfl⟩
  have st194 : Steps p.tables e below (T191.setTop (mkF m 210 #[.val (.int x0), .val (.int x1), .val (.int x2), .val (.int x3), .val (.int x4), .val (.int v1), .val (.int v4), .val (.int v7), .val (.int v10), .val (.int v13), .val (.ref b15), .val (.long v184), .second, .unset, .unset, .unset, .unset] [(.long (own_F8 v7 (1 : Int32) v189)), (.long v188)])) (T191.setTop (mkF m 225 #[.val (.int x0), .val (.int x1), .val (.int x2), .val (.int x3), .val (.int x4), .val (.int v1), .val (.int v4), .val (.int v7), .val (.int v10), .val (.int v13), .val (.ref b15), .val (.long v184), .second, .unset, .unset, .unset, .unset] [(.int v193), (.int (1 : Int32)), (.int v10), (.long v192)])) := by
    subst v193 v192
    refine XS.ladd X191.here hx rfl (hb hby at_210) rfl ?_
    show Steps p.tables e below (T191.setTop (mkF m 211 #[.val (.int x0), .val (.int x1), .val (.int x2), .val (.int x3), .val (.int x4), .val (.int v1), .val (.int v4), .val (.int v7), .val (.int v10), .val (.int v13), .val (.ref b15), .val (.long v184), .second, .unset, .unset, .unset, .unset] [(.long (v188 + (own_F8 v7 (1 : Int32) v189)))])) _
    refine XS.iload X191.here hx rfl (hb hby at_211) rfl ?_
    show Steps p.tables e below (T191.setTop (mkF m 213 #[.val (.int x0), .val (.int x1), .val (.int x2), .val (.int x3), .val (.int x4), .val (.int v1), .val (.int v4), .val (.int v7), .val (.int v10), .val (.int v13), .val (.ref b15), .val (.long v184), .second, .unset, .unset, .unset, .unset] [(.int v10), (.long (v188 + (own_F8 v7 (1 : Int32) v189)))])) _
    refine XS.iconst X191.here hx rfl (hb hby at_213) ?_
    show Steps p.tables e below (T191.setTop (mkF m 214 #[.val (.int x0), .val (.int x1), .val (.int x2), .val (.int x3), .val (.int x4), .val (.int v1), .val (.int v4), .val (.int v7), .val (.int v10), .val (.int v13), .val (.ref b15), .val (.long v184), .second, .unset, .unset, .unset, .unset] [(.int (1 : Int32)), (.int v10), (.long (v188 + (own_F8 v7 (1 : Int32) v189)))])) _
    refine XS.iload X191.here hx rfl (hb hby at_214) rfl ?_
    show Steps p.tables e below (T191.setTop (mkF m 216 #[.val (.int x0), .val (.int x1), .val (.int x2), .val (.int x3), .val (.int x4), .val (.int v1), .val (.int v4), .val (.int v7), .val (.int v10), .val (.int v13), .val (.ref b15), .val (.long v184), .second, .unset, .unset, .unset, .unset] [(.int v1), (.int (1 : Int32)), (.int v10), (.long (v188 + (own_F8 v7 (1 : Int32) v189)))])) _
    refine XS.iconst X191.here hx rfl (hb hby at_216) ?_
    show Steps p.tables e below (T191.setTop (mkF m 217 #[.val (.int x0), .val (.int x1), .val (.int x2), .val (.int x3), .val (.int x4), .val (.int v1), .val (.int v4), .val (.int v7), .val (.int v10), .val (.int v13), .val (.ref b15), .val (.long v184), .second, .unset, .unset, .unset, .unset] [(.int (2 : Int32)), (.int v1), (.int (1 : Int32)), (.int v10), (.long (v188 + (own_F8 v7 (1 : Int32) v189)))])) _
    refine Steps.trans (s₂ := T191.setTop (mkF m 225 #[.val (.int x0), .val (.int x1), .val (.int x2), .val (.int x3), .val (.int x4), .val (.int v1), .val (.int v4), .val (.int v7), .val (.int v10), .val (.int v13), .val (.ref b15), .val (.long v184), .second, .unset, .unset, .unset, .unset] [(.int (if (2 : Int32) < v1 then (1 : Int32) else (0 : Int32))), (.int (1 : Int32)), (.int v10), (.long (v188 + (own_F8 v7 (1 : Int32) v189)))])) ?_ ?_
    · by_cases hc217 : (2 : Int32) < v1
      · refine XS.icmpNo X191.here hx rfl (hb hby at_217) rfl (tlt hc217).2.2.2 ?_
        show Steps p.tables e below (T191.setTop (mkF m 220 #[.val (.int x0), .val (.int x1), .val (.int x2), .val (.int x3), .val (.int x4), .val (.int v1), .val (.int v4), .val (.int v7), .val (.int v10), .val (.int v13), .val (.ref b15), .val (.long v184), .second, .unset, .unset, .unset, .unset] [(.int (1 : Int32)), (.int v10), (.long (v188 + (own_F8 v7 (1 : Int32) v189)))])) _
        refine XS.iconst X191.here hx rfl (hb hby at_220) ?_
        show Steps p.tables e below (T191.setTop (mkF m 221 #[.val (.int x0), .val (.int x1), .val (.int x2), .val (.int x3), .val (.int x4), .val (.int v1), .val (.int v4), .val (.int v7), .val (.int v10), .val (.int v13), .val (.ref b15), .val (.long v184), .second, .unset, .unset, .unset, .unset] [(.int (1 : Int32)), (.int (1 : Int32)), (.int v10), (.long (v188 + (own_F8 v7 (1 : Int32) v189)))])) _
        refine XS.goto X191.here hx rfl (pc0 := 221) (pc' := 225) rfl (hb hby at_221) (by decide) (by decide) ?_
        show Steps p.tables e below (T191.setTop (mkF m 225 #[.val (.int x0), .val (.int x1), .val (.int x2), .val (.int x3), .val (.int x4), .val (.int v1), .val (.int v4), .val (.int v7), .val (.int v10), .val (.int v13), .val (.ref b15), .val (.long v184), .second, .unset, .unset, .unset, .unset] [(.int (1 : Int32)), (.int (1 : Int32)), (.int v10), (.long (v188 + (own_F8 v7 (1 : Int32) v189)))])) _
        try simp only [if_pos hc217]
        exact Steps.refl _
      · refine XS.icmpYes X191.here hx rfl (pc0 := 217) (pc' := 224) rfl (hb hby at_217) rfl (flt hc217).2.2.2 (by decide) (by decide) ?_
        show Steps p.tables e below (T191.setTop (mkF m 224 #[.val (.int x0), .val (.int x1), .val (.int x2), .val (.int x3), .val (.int x4), .val (.int v1), .val (.int v4), .val (.int v7), .val (.int v10), .val (.int v13), .val (.ref b15), .val (.long v184), .second, .unset, .unset, .unset, .unset] [(.int (1 : Int32)), (.int v10), (.long (v188 + (own_F8 v7 (1 : Int32) v189)))])) _
        refine XS.iconst X191.here hx rfl (hb hby at_224) ?_
        show Steps p.tables e below (T191.setTop (mkF m 225 #[.val (.int x0), .val (.int x1), .val (.int x2), .val (.int x3), .val (.int x4), .val (.int v1), .val (.int v4), .val (.int v7), .val (.int v10), .val (.int v13), .val (.ref b15), .val (.long v184), .second, .unset, .unset, .unset, .unset] [(.int (0 : Int32)), (.int (1 : Int32)), (.int v10), (.long (v188 + (own_F8 v7 (1 : Int32) v189)))])) _
        try simp only [if_neg hc217]
        exact Steps.refl _
    show Steps p.tables e below (T191.setTop (mkF m 225 #[.val (.int x0), .val (.int x1), .val (.int x2), .val (.int x3), .val (.int x4), .val (.int v1), .val (.int v4), .val (.int v7), .val (.int v10), .val (.int v13), .val (.ref b15), .val (.long v184), .second, .unset, .unset, .unset, .unset] [(.int (if (2 : Int32) < v1 then (1 : Int32) else (0 : Int32))), (.int (1 : Int32)), (.int v10), (.long (v188 + (own_F8 v7 (1 : Int32) v189)))])) _
    exact Steps.refl _
  have pre194 := pre191.trans st194
  obtain ⟨_, _, ⟨T195, L195, k195, n195⟩, -, X195, ⟨Lc195, hQ195, l195, y195, z195⟩, st195⟩ := Jvm.LawKit.callS X191 hx (y := (⟨"com/example/evident_ledger/evidentledger/TallyCountPinLaw", "hit", "(IIZ)J"⟩ : MethodName)) hown (mvT hZ (hw _ (List.mem_of_getElem? (i := 36) rfl))) (mvT hZ (hw _ (List.mem_of_getElem? (i := 37) rfl))) (mvT hZ (hw _ (List.mem_of_getElem? (i := 3) rfl))) (mvT hZ (hw _ (List.mem_of_getElem? (i := 38) rfl))) (by decide) (backOf (W := 2) (rm8 l Z a0 hw [] v10 (1 : Int32) v193 h168 n0 Z168) hZ (hw _ (List.mem_of_getElem? (i := 38) rfl)) (hw _ (List.mem_of_getElem? (i := 3) rfl)) (by decide) (by decide)) (g := (mkF m 225 #[.val (.int x0), .val (.int x1), .val (.int x2), .val (.int x3), .val (.int x4), .val (.int v1), .val (.int v4), .val (.int v7), .val (.int v10), .val (.int v13), .val (.ref b15), .val (.long v184), .second, .unset, .unset, .unset, .unset] [(.int v193), (.int (1 : Int32)), (.int v10), (.long v192)])) rfl (by rw [hml]; rfl) (argsL := [(.int v10), (.int (1 : Int32)), (.int v193)]) (rest := [(.long v192)]) (lenOf pd0_4 rfl) rfl (by show 2 * 0 + _ ≤ _; exact Nat.le_of_eq rfl) (hb hby at_225) (fun _ _ => ⟨rfl, e191, (by decide : 3 + 0 ≤ _), (by decide : 7 + 0 ≤ _)⟩)
  dsimp only [Pt.U, Pt.locs, Pt.cells, Pt.slots] at X195 l195 y195 z195 st195 hQ195
  subst l195 y195 z195
  obtain ⟨rfl, Nq195, e195⟩ := hQ195
  have N195 := Fr.app N191 Nq195
  have pre195 : Steps p.tables e below (s₁.setTop (entryFrame m #[(.int x0), (.int x1), (.int x2), (.int x3), (.int x4)] maxLocals)) (T195.setTop (mkF m 228 #[.val (.int x0), .val (.int x1), .val (.int x2), .val (.int x3), .val (.int x4), .val (.int v1), .val (.int v4), .val (.int v7), .val (.int v10), .val (.int v13), .val (.ref b15), .val (.long v184), .second, .unset, .unset, .unset, .unset] [(.long (own_F8 v10 (1 : Int32) v193)), (.long v192)])) := pre194.trans (st195 _ (Steps.refl _))
  obtain ⟨v196, hv196⟩ : ∃ z : Int64, z = (v192 + (own_F8 v10 (1 : Int32) v193)) := ⟨_, rfl⟩
  obtain ⟨v197, hv197⟩ : ∃ z : Int32, z = (if (3 : Int32) < v1 then (1 : Int32) else (0 : Int32)) := ⟨_, rfl⟩
  have st198 : Steps p.tables e below (T195.setTop (mkF m 228 #[.val (.int x0), .val (.int x1), .val (.int x2), .val (.int x3), .val (.int x4), .val (.int v1), .val (.int v4), .val (.int v7), .val (.int v10), .val (.int v13), .val (.ref b15), .val (.long v184), .second, .unset, .unset, .unset, .unset] [(.long (own_F8 v10 (1 : Int32) v193)), (.long v192)])) (T195.setTop (mkF m 243 #[.val (.int x0), .val (.int x1), .val (.int x2), .val (.int x3), .val (.int x4), .val (.int v1), .val (.int v4), .val (.int v7), .val (.int v10), .val (.int v13), .val (.ref b15), .val (.long v184), .second, .unset, .unset, .unset, .unset] [(.int v197), (.int (1 : Int32)), (.int v13), (.long v196)])) := by
    subst v197 v196
    refine XS.ladd X195.here hx rfl (hb hby at_228) rfl ?_
    show Steps p.tables e below (T195.setTop (mkF m 229 #[.val (.int x0), .val (.int x1), .val (.int x2), .val (.int x3), .val (.int x4), .val (.int v1), .val (.int v4), .val (.int v7), .val (.int v10), .val (.int v13), .val (.ref b15), .val (.long v184), .second, .unset, .unset, .unset, .unset] [(.long (v192 + (own_F8 v10 (1 : Int32) v193)))])) _
    refine XS.iload X195.here hx rfl (hb hby at_229) rfl ?_
    show Steps p.tables e below (T195.setTop (mkF m 231 #[.val (.int x0), .val (.int x1), .val (.int x2), .val (.int x3), .val (.int x4), .val (.int v1), .val (.int v4), .val (.int v7), .val (.int v10), .val (.int v13), .val (.ref b15), .val (.long v184), .second, .unset, .unset, .unset, .unset] [(.int v13), (.long (v192 + (own_F8 v10 (1 : Int32) v193)))])) _
    refine XS.iconst X195.here hx rfl (hb hby at_231) ?_
    show Steps p.tables e below (T195.setTop (mkF m 232 #[.val (.int x0), .val (.int x1), .val (.int x2), .val (.int x3), .val (.int x4), .val (.int v1), .val (.int v4), .val (.int v7), .val (.int v10), .val (.int v13), .val (.ref b15), .val (.long v184), .second, .unset, .unset, .unset, .unset] [(.int (1 : Int32)), (.int v13), (.long (v192 + (own_F8 v10 (1 : Int32) v193)))])) _
    refine XS.iload X195.here hx rfl (hb hby at_232) rfl ?_
    show Steps p.tables e below (T195.setTop (mkF m 234 #[.val (.int x0), .val (.int x1), .val (.int x2), .val (.int x3), .val (.int x4), .val (.int v1), .val (.int v4), .val (.int v7), .val (.int v10), .val (.int v13), .val (.ref b15), .val (.long v184), .second, .unset, .unset, .unset, .unset] [(.int v1), (.int (1 : Int32)), (.int v13), (.long (v192 + (own_F8 v10 (1 : Int32) v193)))])) _
    refine XS.iconst X195.here hx rfl (hb hby at_234) ?_
    show Steps p.tables e below (T195.setTop (mkF m 235 #[.val (.int x0), .val (.int x1), .val (.int x2), .val (.int x3), .val (.int x4), .val (.int v1), .val (.int v4), .val (.int v7), .val (.int v10), .val (.int v13), .val (.ref b15), .val (.long v184), .second, .unset, .unset, .unset, .unset] [(.int (3 : Int32)), (.int v1), (.int (1 : Int32)), (.int v13), (.long (v192 + (own_F8 v10 (1 : Int32) v193)))])) _
    refine Steps.trans (s₂ := T195.setTop (mkF m 243 #[.val (.int x0), .val (.int x1), .val (.int x2), .val (.int x3), .val (.int x4), .val (.int v1), .val (.int v4), .val (.int v7), .val (.int v10), .val (.int v13), .val (.ref b15), .val (.long v184), .second, .unset, .unset, .unset, .unset] [(.int (if (3 : Int32) < v1 then (1 : Int32) else (0 : Int32))), (.int (1 : Int32)), (.int v13), (.long (v192 + (own_F8 v10 (1 : Int32) v193)))])) ?_ ?_
    · by_cases hc235 : (3 : Int32) < v1
      · refine XS.icmpNo X195.here hx rfl (hb hby at_235) rfl (tlt hc235).2.2.2 ?_
        show Steps p.tables e below (T195.setTop (mkF m 238 #[.val (.int x0), .val (.int x1), .val (.int x2), .val (.int x3), .val (.int x4), .val (.int v1), .val (.int v4), .val (.int v7), .val (.int v10), .val (.int v13), .val (.ref b15), .val (.long v184), .second, .unset, .unset, .unset, .unset] [(.int (1 : Int32)), (.int v13), (.long (v192 + (own_F8 v10 (1 : Int32) v193)))])) _
        refine XS.iconst X195.here hx rfl (hb hby at_238) ?_
        show Steps p.tables e below (T195.setTop (mkF m 239 #[.val (.int x0), .val (.int x1), .val (.int x2), .val (.int x3), .val (.int x4), .val (.int v1), .val (.int v4), .val (.int v7), .val (.int v10), .val (.int v13), .val (.ref b15), .val (.long v184), .second, .unset, .unset, .unset, .unset] [(.int (1 : Int32)), (.int (1 : Int32)), (.int v13), (.long (v192 + (own_F8 v10 (1 : Int32) v193)))])) _
        refine XS.goto X195.here hx rfl (pc0 := 239) (pc' := 243) rfl (hb hby at_239) (by decide) (by decide) ?_
        show Steps p.tables e below (T195.setTop (mkF m 243 #[.val (.int x0), .val (.int x1), .val (.int x2), .val (.int x3), .val (.int x4), .val (.int v1), .val (.int v4), .val (.int v7), .val (.int v10), .val (.int v13), .val (.ref b15), .val (.long v184), .second, .unset, .unset, .unset, .unset] [(.int (1 : Int32)), (.int (1 : Int32)), (.int v13), (.long (v192 + (own_F8 v10 (1 : Int32) v193)))])) _
        try simp only [if_pos hc235]
        exact Steps.refl _
      · refine XS.icmpYes X195.here hx rfl (pc0 := 235) (pc' := 242) rfl (hb hby at_235) rfl (flt hc235).2.2.2 (by decide) (by decide) ?_
        show Steps p.tables e below (T195.setTop (mkF m 242 #[.val (.int x0), .val (.int x1), .val (.int x2), .val (.int x3), .val (.int x4), .val (.int v1), .val (.int v4), .val (.int v7), .val (.int v10), .val (.int v13), .val (.ref b15), .val (.long v184), .second, .unset, .unset, .unset, .unset] [(.int (1 : Int32)), (.int v13), (.long (v192 + (own_F8 v10 (1 : Int32) v193)))])) _
        refine XS.iconst X195.here hx rfl (hb hby at_242) ?_
        show Steps p.tables e below (T195.setTop (mkF m 243 #[.val (.int x0), .val (.int x1), .val (.int x2), .val (.int x3), .val (.int x4), .val (.int v1), .val (.int v4), .val (.int v7), .val (.int v10), .val (.int v13), .val (.ref b15), .val (.long v184), .second, .unset, .unset, .unset, .unset] [(.int (0 : Int32)), (.int (1 : Int32)), (.int v13), (.long (v192 + (own_F8 v10 (1 : Int32) v193)))])) _
        try simp only [if_neg hc235]
        exact Steps.refl _
    show Steps p.tables e below (T195.setTop (mkF m 243 #[.val (.int x0), .val (.int x1), .val (.int x2), .val (.int x3), .val (.int x4), .val (.int v1), .val (.int v4), .val (.int v7), .val (.int v10), .val (.int v13), .val (.ref b15), .val (.long v184), .second, .unset, .unset, .unset, .unset] [(.int (if (3 : Int32) < v1 then (1 : Int32) else (0 : Int32))), (.int (1 : Int32)), (.int v13), (.long (v192 + (own_F8 v10 (1 : Int32) v193)))])) _
    exact Steps.refl _
  have pre198 := pre195.trans st198
  obtain ⟨_, _, ⟨T199, L199, k199, n199⟩, -, X199, ⟨Lc199, hQ199, l199, y199, z199⟩, st199⟩ := Jvm.LawKit.callS X195 hx (y := (⟨"com/example/evident_ledger/evidentledger/TallyCountPinLaw", "hit", "(IIZ)J"⟩ : MethodName)) hown (mvT hZ (hw _ (List.mem_of_getElem? (i := 36) rfl))) (mvT hZ (hw _ (List.mem_of_getElem? (i := 37) rfl))) (mvT hZ (hw _ (List.mem_of_getElem? (i := 3) rfl))) (mvT hZ (hw _ (List.mem_of_getElem? (i := 38) rfl))) (by decide) (backOf (W := 2) (rm8 l Z a0 hw [] v13 (1 : Int32) v197 h168 n0 Z168) hZ (hw _ (List.mem_of_getElem? (i := 38) rfl)) (hw _ (List.mem_of_getElem? (i := 3) rfl)) (by decide) (by decide)) (g := (mkF m 243 #[.val (.int x0), .val (.int x1), .val (.int x2), .val (.int x3), .val (.int x4), .val (.int v1), .val (.int v4), .val (.int v7), .val (.int v10), .val (.int v13), .val (.ref b15), .val (.long v184), .second, .unset, .unset, .unset, .unset] [(.int v197), (.int (1 : Int32)), (.int v13), (.long v196)])) rfl (by rw [hml]; rfl) (argsL := [(.int v13), (.int (1 : Int32)), (.int v197)]) (rest := [(.long v196)]) (lenOf pd0_4 rfl) rfl (by show 2 * 0 + _ ≤ _; exact Nat.le_of_eq rfl) (hb hby at_243) (fun _ _ => ⟨rfl, e195, (by decide : 3 + 0 ≤ _), (by decide : 7 + 0 ≤ _)⟩)
  dsimp only [Pt.U, Pt.locs, Pt.cells, Pt.slots] at X199 l199 y199 z199 st199 hQ199
  subst l199 y199 z199
  obtain ⟨rfl, Nq199, e199⟩ := hQ199
  have N199 := Fr.app N195 Nq199
  have pre199 : Steps p.tables e below (s₁.setTop (entryFrame m #[(.int x0), (.int x1), (.int x2), (.int x3), (.int x4)] maxLocals)) (T199.setTop (mkF m 246 #[.val (.int x0), .val (.int x1), .val (.int x2), .val (.int x3), .val (.int x4), .val (.int v1), .val (.int v4), .val (.int v7), .val (.int v10), .val (.int v13), .val (.ref b15), .val (.long v184), .second, .unset, .unset, .unset, .unset] [(.long (own_F8 v13 (1 : Int32) v197)), (.long v196)])) := pre198.trans (st199 _ (Steps.refl _))
  obtain ⟨v200, hv200⟩ : ∃ z : Int64, z = (v196 + (own_F8 v13 (1 : Int32) v197)) := ⟨_, rfl⟩
  obtain ⟨v201, hv201⟩ : ∃ z : Int32, z = (if (0 : Int32) < v1 then (1 : Int32) else (0 : Int32)) := ⟨_, rfl⟩
  have st202 : Steps p.tables e below (T199.setTop (mkF m 246 #[.val (.int x0), .val (.int x1), .val (.int x2), .val (.int x3), .val (.int x4), .val (.int v1), .val (.int v4), .val (.int v7), .val (.int v10), .val (.int v13), .val (.ref b15), .val (.long v184), .second, .unset, .unset, .unset, .unset] [(.long (own_F8 v13 (1 : Int32) v197)), (.long v196)])) (T199.setTop (mkF m 262 #[.val (.int x0), .val (.int x1), .val (.int x2), .val (.int x3), .val (.int x4), .val (.int v1), .val (.int v4), .val (.int v7), .val (.int v10), .val (.int v13), .val (.ref b15), .val (.long v184), .second, .val (.long v200), .second, .unset, .unset] [(.int v201), (.int (2 : Int32)), (.int v4)])) := by
    subst v201 v200
    refine XS.ladd X199.here hx rfl (hb hby at_246) rfl ?_
    show Steps p.tables e below (T199.setTop (mkF m 247 #[.val (.int x0), .val (.int x1), .val (.int x2), .val (.int x3), .val (.int x4), .val (.int v1), .val (.int v4), .val (.int v7), .val (.int v10), .val (.int v13), .val (.ref b15), .val (.long v184), .second, .unset, .unset, .unset, .unset] [(.long (v196 + (own_F8 v13 (1 : Int32) v197)))])) _
    refine XS.lstore X199.here hx rfl (hb hby at_247) rfl (l' := #[.val (.int x0), .val (.int x1), .val (.int x2), .val (.int x3), .val (.int x4), .val (.int v1), .val (.int v4), .val (.int v7), .val (.int v10), .val (.int v13), .val (.ref b15), .val (.long v184), .second, .val (.long (v196 + (own_F8 v13 (1 : Int32) v197))), .second, .unset, .unset]) rfl ?_
    show Steps p.tables e below (T199.setTop (mkF m 249 #[.val (.int x0), .val (.int x1), .val (.int x2), .val (.int x3), .val (.int x4), .val (.int v1), .val (.int v4), .val (.int v7), .val (.int v10), .val (.int v13), .val (.ref b15), .val (.long v184), .second, .val (.long (v196 + (own_F8 v13 (1 : Int32) v197))), .second, .unset, .unset] [])) _
    refine XS.iload X199.here hx rfl (hb hby at_249) rfl ?_
    show Steps p.tables e below (T199.setTop (mkF m 251 #[.val (.int x0), .val (.int x1), .val (.int x2), .val (.int x3), .val (.int x4), .val (.int v1), .val (.int v4), .val (.int v7), .val (.int v10), .val (.int v13), .val (.ref b15), .val (.long v184), .second, .val (.long (v196 + (own_F8 v13 (1 : Int32) v197))), .second, .unset, .unset] [(.int v4)])) _
    refine XS.iconst X199.here hx rfl (hb hby at_251) ?_
    show Steps p.tables e below (T199.setTop (mkF m 252 #[.val (.int x0), .val (.int x1), .val (.int x2), .val (.int x3), .val (.int x4), .val (.int v1), .val (.int v4), .val (.int v7), .val (.int v10), .val (.int v13), .val (.ref b15), .val (.long v184), .second, .val (.long (v196 + (own_F8 v13 (1 : Int32) v197))), .second, .unset, .unset] [(.int (2 : Int32)), (.int v4)])) _
    refine XS.iload X199.here hx rfl (hb hby at_252) rfl ?_
    show Steps p.tables e below (T199.setTop (mkF m 254 #[.val (.int x0), .val (.int x1), .val (.int x2), .val (.int x3), .val (.int x4), .val (.int v1), .val (.int v4), .val (.int v7), .val (.int v10), .val (.int v13), .val (.ref b15), .val (.long v184), .second, .val (.long (v196 + (own_F8 v13 (1 : Int32) v197))), .second, .unset, .unset] [(.int v1), (.int (2 : Int32)), (.int v4)])) _
    refine Steps.trans (s₂ := T199.setTop (mkF m 262 #[.val (.int x0), .val (.int x1), .val (.int x2), .val (.int x3), .val (.int x4), .val (.int v1), .val (.int v4), .val (.int v7), .val (.int v10), .val (.int v13), .val (.ref b15), .val (.long v184), .second, .val (.long (v196 + (own_F8 v13 (1 : Int32) v197))), .second, .unset, .unset] [(.int (if (0 : Int32) < v1 then (1 : Int32) else (0 : Int32))), (.int (2 : Int32)), (.int v4)])) ?_ ?_
    · by_cases hc254 : (0 : Int32) < v1
      · refine XS.ifNo X199.here hx rfl (hb hby at_254) rfl ((if0 _ _).trans (tlt hc254).2.2.2) ?_
        show Steps p.tables e below (T199.setTop (mkF m 257 #[.val (.int x0), .val (.int x1), .val (.int x2), .val (.int x3), .val (.int x4), .val (.int v1), .val (.int v4), .val (.int v7), .val (.int v10), .val (.int v13), .val (.ref b15), .val (.long v184), .second, .val (.long (v196 + (own_F8 v13 (1 : Int32) v197))), .second, .unset, .unset] [(.int (2 : Int32)), (.int v4)])) _
        refine XS.iconst X199.here hx rfl (hb hby at_257) ?_
        show Steps p.tables e below (T199.setTop (mkF m 258 #[.val (.int x0), .val (.int x1), .val (.int x2), .val (.int x3), .val (.int x4), .val (.int v1), .val (.int v4), .val (.int v7), .val (.int v10), .val (.int v13), .val (.ref b15), .val (.long v184), .second, .val (.long (v196 + (own_F8 v13 (1 : Int32) v197))), .second, .unset, .unset] [(.int (1 : Int32)), (.int (2 : Int32)), (.int v4)])) _
        refine XS.goto X199.here hx rfl (pc0 := 258) (pc' := 262) rfl (hb hby at_258) (by decide) (by decide) ?_
        show Steps p.tables e below (T199.setTop (mkF m 262 #[.val (.int x0), .val (.int x1), .val (.int x2), .val (.int x3), .val (.int x4), .val (.int v1), .val (.int v4), .val (.int v7), .val (.int v10), .val (.int v13), .val (.ref b15), .val (.long v184), .second, .val (.long (v196 + (own_F8 v13 (1 : Int32) v197))), .second, .unset, .unset] [(.int (1 : Int32)), (.int (2 : Int32)), (.int v4)])) _
        try simp only [if_pos hc254]
        exact Steps.refl _
      · refine XS.ifYes X199.here hx rfl (pc0 := 254) (pc' := 261) rfl (hb hby at_254) rfl ((if0 _ _).trans (flt hc254).2.2.2) (by decide) (by decide) ?_
        show Steps p.tables e below (T199.setTop (mkF m 261 #[.val (.int x0), .val (.int x1), .val (.int x2), .val (.int x3), .val (.int x4), .val (.int v1), .val (.int v4), .val (.int v7), .val (.int v10), .val (.int v13), .val (.ref b15), .val (.long v184), .second, .val (.long (v196 + (own_F8 v13 (1 : Int32) v197))), .second, .unset, .unset] [(.int (2 : Int32)), (.int v4)])) _
        refine XS.iconst X199.here hx rfl (hb hby at_261) ?_
        show Steps p.tables e below (T199.setTop (mkF m 262 #[.val (.int x0), .val (.int x1), .val (.int x2), .val (.int x3), .val (.int x4), .val (.int v1), .val (.int v4), .val (.int v7), .val (.int v10), .val (.int v13), .val (.ref b15), .val (.long v184), .second, .val (.long (v196 + (own_F8 v13 (1 : Int32) v197))), .second, .unset, .unset] [(.int (0 : Int32)), (.int (2 : Int32)), (.int v4)])) _
        try simp only [if_neg hc254]
        exact Steps.refl _
    show Steps p.tables e below (T199.setTop (mkF m 262 #[.val (.int x0), .val (.int x1), .val (.int x2), .val (.int x3), .val (.int x4), .val (.int v1), .val (.int v4), .val (.int v7), .val (.int v10), .val (.int v13), .val (.ref b15), .val (.long v184), .second, .val (.long (v196 + (own_F8 v13 (1 : Int32) v197))), .second, .unset, .unset] [(.int (if (0 : Int32) < v1 then (1 : Int32) else (0 : Int32))), (.int (2 : Int32)), (.int v4)])) _
    exact Steps.refl _
  have pre202 := pre199.trans st202
  obtain ⟨_, _, ⟨T203, L203, k203, n203⟩, -, X203, ⟨Lc203, hQ203, l203, y203, z203⟩, st203⟩ := Jvm.LawKit.callS X199 hx (y := (⟨"com/example/evident_ledger/evidentledger/TallyCountPinLaw", "hit", "(IIZ)J"⟩ : MethodName)) hown (mvT hZ (hw _ (List.mem_of_getElem? (i := 36) rfl))) (mvT hZ (hw _ (List.mem_of_getElem? (i := 37) rfl))) (mvT hZ (hw _ (List.mem_of_getElem? (i := 3) rfl))) (mvT hZ (hw _ (List.mem_of_getElem? (i := 38) rfl))) (by decide) (backOf (W := 0) (rm8 l Z a0 hw [] v4 (2 : Int32) v201 h168 n0 Z168) hZ (hw _ (List.mem_of_getElem? (i := 38) rfl)) (hw _ (List.mem_of_getElem? (i := 3) rfl)) (by decide) (by decide)) (g := (mkF m 262 #[.val (.int x0), .val (.int x1), .val (.int x2), .val (.int x3), .val (.int x4), .val (.int v1), .val (.int v4), .val (.int v7), .val (.int v10), .val (.int v13), .val (.ref b15), .val (.long v184), .second, .val (.long v200), .second, .unset, .unset] [(.int v201), (.int (2 : Int32)), (.int v4)])) rfl (by rw [hml]; rfl) (argsL := [(.int v4), (.int (2 : Int32)), (.int v201)]) (rest := []) (lenOf pd0_4 rfl) rfl (by show 2 * 0 + _ ≤ _; exact Nat.le_of_eq rfl) (hb hby at_262) (fun _ _ => ⟨rfl, e199, (by decide : 3 + 0 ≤ _), (by decide : 7 + 0 ≤ _)⟩)
  dsimp only [Pt.U, Pt.locs, Pt.cells, Pt.slots] at X203 l203 y203 z203 st203 hQ203
  subst l203 y203 z203
  obtain ⟨rfl, Nq203, e203⟩ := hQ203
  have N203 := Fr.app N199 Nq203
  have pre203 : Steps p.tables e below (s₁.setTop (entryFrame m #[(.int x0), (.int x1), (.int x2), (.int x3), (.int x4)] maxLocals)) (T203.setTop (mkF m 265 #[.val (.int x0), .val (.int x1), .val (.int x2), .val (.int x3), .val (.int x4), .val (.int v1), .val (.int v4), .val (.int v7), .val (.int v10), .val (.int v13), .val (.ref b15), .val (.long v184), .second, .val (.long v200), .second, .unset, .unset] [(.long (own_F8 v4 (2 : Int32) v201))])) := pre202.trans (st203 _ (Steps.refl _))
  obtain ⟨v204, hv204⟩ : ∃ z : Int64, z = (own_F8 v4 (2 : Int32) v201) := ⟨_, rfl⟩
  obtain ⟨v205, hv205⟩ : ∃ z : Int32, z = (if (1 : Int32) < v1 then (1 : Int32) else (0 : Int32)) := ⟨_, rfl⟩
  have st206 : Steps p.tables e below (T203.setTop (mkF m 265 #[.val (.int x0), .val (.int x1), .val (.int x2), .val (.int x3), .val (.int x4), .val (.int v1), .val (.int v4), .val (.int v7), .val (.int v10), .val (.int v13), .val (.ref b15), .val (.long v184), .second, .val (.long v200), .second, .unset, .unset] [(.long (own_F8 v4 (2 : Int32) v201))])) (T203.setTop (mkF m 279 #[.val (.int x0), .val (.int x1), .val (.int x2), .val (.int x3), .val (.int x4), .val (.int v1), .val (.int v4), .val (.int v7), .val (.int v10), .val (.int v13), .val (.ref b15), .val (.long v184), .second, .val (.long v200), .second, .unset, .unset] [(.int v205), (.int (2 : Int32)), (.int v7), (.long v204)])) := by
    subst v205 v204
    refine XS.iload X203.here hx rfl (hb hby at_265) rfl ?_
    show Steps p.tables e below (T203.setTop (mkF m 267 #[.val (.int x0), .val (.int x1), .val (.int x2), .val (.int x3), .val (.int x4), .val (.int v1), .val (.int v4), .val (.int v7), .val (.int v10), .val (.int v13), .val (.ref b15), .val (.long v184), .second, .val (.long v200), .second, .unset, .unset] [(.int v7), (.long (own_F8 v4 (2 : Int32) v201))])) _
    refine XS.iconst X203.here hx rfl (hb hby at_267) ?_
    show Steps p.tables e below (T203.setTop (mkF m 268 #[.val (.int x0), .val (.int x1), .val (.int x2), .val (.int x3), .val (.int x4), .val (.int v1), .val (.int v4), .val (.int v7), .val (.int v10), .val (.int v13), .val (.ref b15), .val (.long v184), .second, .val (.long v200), .second, .unset, .unset] [(.int (2 : Int32)), (.int v7), (.long (own_F8 v4 (2 : Int32) v201))])) _
    refine XS.iload X203.here hx rfl (hb hby at_268) rfl ?_
    show Steps p.tables e below (T203.setTop (mkF m 270 #[.val (.int x0), .val (.int x1), .val (.int x2), .val (.int x3), .val (.int x4), .val (.int v1), .val (.int v4), .val (.int v7), .val (.int v10), .val (.int v13), .val (.ref b15), .val (.long v184), .second, .val (.long v200), .second, .unset, .unset] [(.int v1), (.int (2 : Int32)), (.int v7), (.long (own_F8 v4 (2 : Int32) v201))])) _
    refine XS.iconst X203.here hx rfl (hb hby at_270) ?_
    show Steps p.tables e below (T203.setTop (mkF m 271 #[.val (.int x0), .val (.int x1), .val (.int x2), .val (.int x3), .val (.int x4), .val (.int v1), .val (.int v4), .val (.int v7), .val (.int v10), .val (.int v13), .val (.ref b15), .val (.long v184), .second, .val (.long v200), .second, .unset, .unset] [(.int (1 : Int32)), (.int v1), (.int (2 : Int32)), (.int v7), (.long (own_F8 v4 (2 : Int32) v201))])) _
    refine Steps.trans (s₂ := T203.setTop (mkF m 279 #[.val (.int x0), .val (.int x1), .val (.int x2), .val (.int x3), .val (.int x4), .val (.int v1), .val (.int v4), .val (.int v7), .val (.int v10), .val (.int v13), .val (.ref b15), .val (.long v184), .second, .val (.long v200), .second, .unset, .unset] [(.int (if (1 : Int32) < v1 then (1 : Int32) else (0 : Int32))), (.int (2 : Int32)), (.int v7), (.long (own_F8 v4 (2 : Int32) v201))])) ?_ ?_
    · by_cases hc271 : (1 : Int32) < v1
      · refine XS.icmpNo X203.here hx rfl (hb hby at_271) rfl (tlt hc271).2.2.2 ?_
        show Steps p.tables e below (T203.setTop (mkF m 274 #[.val (.int x0), .val (.int x1), .val (.int x2), .val (.int x3), .val (.int x4), .val (.int v1), .val (.int v4), .val (.int v7), .val (.int v10), .val (.int v13), .val (.ref b15), .val (.long v184), .second, .val (.long v200), .second, .unset, .unset] [(.int (2 : Int32)), (.int v7), (.long (own_F8 v4 (2 : Int32) v201))])) _
        refine XS.iconst X203.here hx rfl (hb hby at_274) ?_
        show Steps p.tables e below (T203.setTop (mkF m 275 #[.val (.int x0), .val (.int x1), .val (.int x2), .val (.int x3), .val (.int x4), .val (.int v1), .val (.int v4), .val (.int v7), .val (.int v10), .val (.int v13), .val (.ref b15), .val (.long v184), .second, .val (.long v200), .second, .unset, .unset] [(.int (1 : Int32)), (.int (2 : Int32)), (.int v7), (.long (own_F8 v4 (2 : Int32) v201))])) _
        refine XS.goto X203.here hx rfl (pc0 := 275) (pc' := 279) rfl (hb hby at_275) (by decide) (by decide) ?_
        show Steps p.tables e below (T203.setTop (mkF m 279 #[.val (.int x0), .val (.int x1), .val (.int x2), .val (.int x3), .val (.int x4), .val (.int v1), .val (.int v4), .val (.int v7), .val (.int v10), .val (.int v13), .val (.ref b15), .val (.long v184), .second, .val (.long v200), .second, .unset, .unset] [(.int (1 : Int32)), (.int (2 : Int32)), (.int v7), (.long (own_F8 v4 (2 : Int32) v201))])) _
        try simp only [if_pos hc271]
        exact Steps.refl _
      · refine XS.icmpYes X203.here hx rfl (pc0 := 271) (pc' := 278) rfl (hb hby at_271) rfl (flt hc271).2.2.2 (by decide) (by decide) ?_
        show Steps p.tables e below (T203.setTop (mkF m 278 #[.val (.int x0), .val (.int x1), .val (.int x2), .val (.int x3), .val (.int x4), .val (.int v1), .val (.int v4), .val (.int v7), .val (.int v10), .val (.int v13), .val (.ref b15), .val (.long v184), .second, .val (.long v200), .second, .unset, .unset] [(.int (2 : Int32)), (.int v7), (.long (own_F8 v4 (2 : Int32) v201))])) _
        refine XS.iconst X203.here hx rfl (hb hby at_278) ?_
        show Steps p.tables e below (T203.setTop (mkF m 279 #[.val (.int x0), .val (.int x1), .val (.int x2), .val (.int x3), .val (.int x4), .val (.int v1), .val (.int v4), .val (.int v7), .val (.int v10), .val (.int v13), .val (.ref b15), .val (.long v184), .second, .val (.long v200), .second, .unset, .unset] [(.int (0 : Int32)), (.int (2 : Int32)), (.int v7), (.long (own_F8 v4 (2 : Int32) v201))])) _
        try simp only [if_neg hc271]
        exact Steps.refl _
    show Steps p.tables e below (T203.setTop (mkF m 279 #[.val (.int x0), .val (.int x1), .val (.int x2), .val (.int x3), .val (.int x4), .val (.int v1), .val (.int v4), .val (.int v7), .val (.int v10), .val (.int v13), .val (.ref b15), .val (.long v184), .second, .val (.long v200), .second, .unset, .unset] [(.int (if (1 : Int32) < v1 then (1 : Int32) else (0 : Int32))), (.int (2 : Int32)), (.int v7), (.long (own_F8 v4 (2 : Int32) v201))])) _
    exact Steps.refl _
  have pre206 := pre203.trans st206
  obtain ⟨_, _, ⟨T207, L207, k207, n207⟩, -, X207, ⟨Lc207, hQ207, l207, y207, z207⟩, st207⟩ := Jvm.LawKit.callS X203 hx (y := (⟨"com/example/evident_ledger/evidentledger/TallyCountPinLaw", "hit", "(IIZ)J"⟩ : MethodName)) hown (mvT hZ (hw _ (List.mem_of_getElem? (i := 36) rfl))) (mvT hZ (hw _ (List.mem_of_getElem? (i := 37) rfl))) (mvT hZ (hw _ (List.mem_of_getElem? (i := 3) rfl))) (mvT hZ (hw _ (List.mem_of_getElem? (i := 38) rfl))) (by decide) (backOf (W := 2) (rm8 l Z a0 hw [] v7 (2 : Int32) v205 h168 n0 Z168) hZ (hw _ (List.mem_of_getElem? (i := 38) rfl)) (hw _ (List.mem_of_getElem? (i := 3) rfl)) (by decide) (by decide)) (g := (mkF m 279 #[.val (.int x0), .val (.int x1), .val (.int x2), .val (.int x3), .val (.int x4), .val (.int v1), .val (.int v4), .val (.int v7), .val (.int v10), .val (.int v13), .val (.ref b15), .val (.long v184), .second, .val (.long v200), .second, .unset, .unset] [(.int v205), (.int (2 : Int32)), (.int v7), (.long v204)])) rfl (by rw [hml]; rfl) (argsL := [(.int v7), (.int (2 : Int32)), (.int v205)]) (rest := [(.long v204)]) (lenOf pd0_4 rfl) rfl (by show 2 * 0 + _ ≤ _; exact Nat.le_of_eq rfl) (hb hby at_279) (fun _ _ => ⟨rfl, e203, (by decide : 3 + 0 ≤ _), (by decide : 7 + 0 ≤ _)⟩)
  dsimp only [Pt.U, Pt.locs, Pt.cells, Pt.slots] at X207 l207 y207 z207 st207 hQ207
  subst l207 y207 z207
  obtain ⟨rfl, Nq207, e207⟩ := hQ207
  have N207 := Fr.app N203 Nq207
  have pre207 : Steps p.tables e below (s₁.setTop (entryFrame m #[(.int x0), (.int x1), (.int x2), (.int x3), (.int x4)] maxLocals)) (T207.setTop (mkF m 282 #[.val (.int x0), .val (.int x1), .val (.int x2), .val (.int x3), .val (.int x4), .val (.int v1), .val (.int v4), .val (.int v7), .val (.int v10), .val (.int v13), .val (.ref b15), .val (.long v184), .second, .val (.long v200), .second, .unset, .unset] [(.long (own_F8 v7 (2 : Int32) v205)), (.long v204)])) := pre206.trans (st207 _ (Steps.refl _))
  obtain ⟨v208, hv208⟩ : ∃ z : Int64, z = (v204 + (own_F8 v7 (2 : Int32) v205)) := ⟨_, rfl⟩
  obtain ⟨v209, hv209⟩ : ∃ z : Int32, z = (if (2 : Int32) < v1 then (1 : Int32) else (0 : Int32)) := ⟨_, rfl⟩
  have st210 : Steps p.tables e below (T207.setTop (mkF m 282 #[.val (.int x0), .val (.int x1), .val (.int x2), .val (.int x3), .val (.int x4), .val (.int v1), .val (.int v4), .val (.int v7), .val (.int v10), .val (.int v13), .val (.ref b15), .val (.long v184), .second, .val (.long v200), .second, .unset, .unset] [(.long (own_F8 v7 (2 : Int32) v205)), (.long v204)])) (T207.setTop (mkF m 297 #[.val (.int x0), .val (.int x1), .val (.int x2), .val (.int x3), .val (.int x4), .val (.int v1), .val (.int v4), .val (.int v7), .val (.int v10), .val (.int v13), .val (.ref b15), .val (.long v184), .second, .val (.long v200), .second, .unset, .unset] [(.int v209), (.int (2 : Int32)), (.int v10), (.long v208)])) := by
    subst v209 v208
    refine XS.ladd X207.here hx rfl (hb hby at_282) rfl ?_
    show Steps p.tables e below (T207.setTop (mkF m 283 #[.val (.int x0), .val (.int x1), .val (.int x2), .val (.int x3), .val (.int x4), .val (.int v1), .val (.int v4), .val (.int v7), .val (.int v10), .val (.int v13), .val (.ref b15), .val (.long v184), .second, .val (.long v200), .second, .unset, .unset] [(.long (v204 + (own_F8 v7 (2 : Int32) v205)))])) _
    refine XS.iload X207.here hx rfl (hb hby at_283) rfl ?_
    show Steps p.tables e below (T207.setTop (mkF m 285 #[.val (.int x0), .val (.int x1), .val (.int x2), .val (.int x3), .val (.int x4), .val (.int v1), .val (.int v4), .val (.int v7), .val (.int v10), .val (.int v13), .val (.ref b15), .val (.long v184), .second, .val (.long v200), .second, .unset, .unset] [(.int v10), (.long (v204 + (own_F8 v7 (2 : Int32) v205)))])) _
    refine XS.iconst X207.here hx rfl (hb hby at_285) ?_
    show Steps p.tables e below (T207.setTop (mkF m 286 #[.val (.int x0), .val (.int x1), .val (.int x2), .val (.int x3), .val (.int x4), .val (.int v1), .val (.int v4), .val (.int v7), .val (.int v10), .val (.int v13), .val (.ref b15), .val (.long v184), .second, .val (.long v200), .second, .unset, .unset] [(.int (2 : Int32)), (.int v10), (.long (v204 + (own_F8 v7 (2 : Int32) v205)))])) _
    refine XS.iload X207.here hx rfl (hb hby at_286) rfl ?_
    show Steps p.tables e below (T207.setTop (mkF m 288 #[.val (.int x0), .val (.int x1), .val (.int x2), .val (.int x3), .val (.int x4), .val (.int v1), .val (.int v4), .val (.int v7), .val (.int v10), .val (.int v13), .val (.ref b15), .val (.long v184), .second, .val (.long v200), .second, .unset, .unset] [(.int v1), (.int (2 : Int32)), (.int v10), (.long (v204 + (own_F8 v7 (2 : Int32) v205)))])) _
    refine XS.iconst X207.here hx rfl (hb hby at_288) ?_
    show Steps p.tables e below (T207.setTop (mkF m 289 #[.val (.int x0), .val (.int x1), .val (.int x2), .val (.int x3), .val (.int x4), .val (.int v1), .val (.int v4), .val (.int v7), .val (.int v10), .val (.int v13), .val (.ref b15), .val (.long v184), .second, .val (.long v200), .second, .unset, .unset] [(.int (2 : Int32)), (.int v1), (.int (2 : Int32)), (.int v10), (.long (v204 + (own_F8 v7 (2 : Int32) v205)))])) _
    refine Steps.trans (s₂ := T207.setTop (mkF m 297 #[.val (.int x0), .val (.int x1), .val (.int x2), .val (.int x3), .val (.int x4), .val (.int v1), .val (.int v4), .val (.int v7), .val (.int v10), .val (.int v13), .val (.ref b15), .val (.long v184), .second, .val (.long v200), .second, .unset, .unset] [(.int (if (2 : Int32) < v1 then (1 : Int32) else (0 : Int32))), (.int (2 : Int32)), (.int v10), (.long (v204 + (own_F8 v7 (2 : Int32) v205)))])) ?_ ?_
    · by_cases hc289 : (2 : Int32) < v1
      · refine XS.icmpNo X207.here hx rfl (hb hby at_289) rfl (tlt hc289).2.2.2 ?_
        show Steps p.tables e below (T207.setTop (mkF m 292 #[.val (.int x0), .val (.int x1), .val (.int x2), .val (.int x3), .val (.int x4), .val (.int v1), .val (.int v4), .val (.int v7), .val (.int v10), .val (.int v13), .val (.ref b15), .val (.long v184), .second, .val (.long v200), .second, .unset, .unset] [(.int (2 : Int32)), (.int v10), (.long (v204 + (own_F8 v7 (2 : Int32) v205)))])) _
        refine XS.iconst X207.here hx rfl (hb hby at_292) ?_
        show Steps p.tables e below (T207.setTop (mkF m 293 #[.val (.int x0), .val (.int x1), .val (.int x2), .val (.int x3), .val (.int x4), .val (.int v1), .val (.int v4), .val (.int v7), .val (.int v10), .val (.int v13), .val (.ref b15), .val (.long v184), .second, .val (.long v200), .second, .unset, .unset] [(.int (1 : Int32)), (.int (2 : Int32)), (.int v10), (.long (v204 + (own_F8 v7 (2 : Int32) v205)))])) _
        refine XS.goto X207.here hx rfl (pc0 := 293) (pc' := 297) rfl (hb hby at_293) (by decide) (by decide) ?_
        show Steps p.tables e below (T207.setTop (mkF m 297 #[.val (.int x0), .val (.int x1), .val (.int x2), .val (.int x3), .val (.int x4), .val (.int v1), .val (.int v4), .val (.int v7), .val (.int v10), .val (.int v13), .val (.ref b15), .val (.long v184), .second, .val (.long v200), .second, .unset, .unset] [(.int (1 : Int32)), (.int (2 : Int32)), (.int v10), (.long (v204 + (own_F8 v7 (2 : Int32) v205)))])) _
        try simp only [if_pos hc289]
        exact Steps.refl _
      · refine XS.icmpYes X207.here hx rfl (pc0 := 289) (pc' := 296) rfl (hb hby at_289) rfl (flt hc289).2.2.2 (by decide) (by decide) ?_
        show Steps p.tables e below (T207.setTop (mkF m 296 #[.val (.int x0), .val (.int x1), .val (.int x2), .val (.int x3), .val (.int x4), .val (.int v1), .val (.int v4), .val (.int v7), .val (.int v10), .val (.int v13), .val (.ref b15), .val (.long v184), .second, .val (.long v200), .second, .unset, .unset] [(.int (2 : Int32)), (.int v10), (.long (v204 + (own_F8 v7 (2 : Int32) v205)))])) _
        refine XS.iconst X207.here hx rfl (hb hby at_296) ?_
        show Steps p.tables e below (T207.setTop (mkF m 297 #[.val (.int x0), .val (.int x1), .val (.int x2), .val (.int x3), .val (.int x4), .val (.int v1), .val (.int v4), .val (.int v7), .val (.int v10), .val (.int v13), .val (.ref b15), .val (.long v184), .second, .val (.long v200), .second, .unset, .unset] [(.int (0 : Int32)), (.int (2 : Int32)), (.int v10), (.long (v204 + (own_F8 v7 (2 : Int32) v205)))])) _
        try simp only [if_neg hc289]
        exact Steps.refl _
    show Steps p.tables e below (T207.setTop (mkF m 297 #[.val (.int x0), .val (.int x1), .val (.int x2), .val (.int x3), .val (.int x4), .val (.int v1), .val (.int v4), .val (.int v7), .val (.int v10), .val (.int v13), .val (.ref b15), .val (.long v184), .second, .val (.long v200), .second, .unset, .unset] [(.int (if (2 : Int32) < v1 then (1 : Int32) else (0 : Int32))), (.int (2 : Int32)), (.int v10), (.long (v204 + (own_F8 v7 (2 : Int32) v205)))])) _
    exact Steps.refl _
  have pre210 := pre207.trans st210
  obtain ⟨_, _, ⟨T211, L211, k211, n211⟩, -, X211, ⟨Lc211, hQ211, l211, y211, z211⟩, st211⟩ := Jvm.LawKit.callS X207 hx (y := (⟨"com/example/evident_ledger/evidentledger/TallyCountPinLaw", "hit", "(IIZ)J"⟩ : MethodName)) hown (mvT hZ (hw _ (List.mem_of_getElem? (i := 36) rfl))) (mvT hZ (hw _ (List.mem_of_getElem? (i := 37) rfl))) (mvT hZ (hw _ (List.mem_of_getElem? (i := 3) rfl))) (mvT hZ (hw _ (List.mem_of_getElem? (i := 38) rfl))) (by decide) (backOf (W := 2) (rm8 l Z a0 hw [] v10 (2 : Int32) v209 h168 n0 Z168) hZ (hw _ (List.mem_of_getElem? (i := 38) rfl)) (hw _ (List.mem_of_getElem? (i := 3) rfl)) (by decide) (by decide)) (g := (mkF m 297 #[.val (.int x0), .val (.int x1), .val (.int x2), .val (.int x3), .val (.int x4), .val (.int v1), .val (.int v4), .val (.int v7), .val (.int v10), .val (.int v13), .val (.ref b15), .val (.long v184), .second, .val (.long v200), .second, .unset, .unset] [(.int v209), (.int (2 : Int32)), (.int v10), (.long v208)])) rfl (by rw [hml]; rfl) (argsL := [(.int v10), (.int (2 : Int32)), (.int v209)]) (rest := [(.long v208)]) (lenOf pd0_4 rfl) rfl (by show 2 * 0 + _ ≤ _; exact Nat.le_of_eq rfl) (hb hby at_297) (fun _ _ => ⟨rfl, e207, (by decide : 3 + 0 ≤ _), (by decide : 7 + 0 ≤ _)⟩)
  dsimp only [Pt.U, Pt.locs, Pt.cells, Pt.slots] at X211 l211 y211 z211 st211 hQ211
  subst l211 y211 z211
  obtain ⟨rfl, Nq211, e211⟩ := hQ211
  have N211 := Fr.app N207 Nq211
  have pre211 : Steps p.tables e below (s₁.setTop (entryFrame m #[(.int x0), (.int x1), (.int x2), (.int x3), (.int x4)] maxLocals)) (T211.setTop (mkF m 300 #[.val (.int x0), .val (.int x1), .val (.int x2), .val (.int x3), .val (.int x4), .val (.int v1), .val (.int v4), .val (.int v7), .val (.int v10), .val (.int v13), .val (.ref b15), .val (.long v184), .second, .val (.long v200), .second, .unset, .unset] [(.long (own_F8 v10 (2 : Int32) v209)), (.long v208)])) := pre210.trans (st211 _ (Steps.refl _))
  obtain ⟨v212, hv212⟩ : ∃ z : Int64, z = (v208 + (own_F8 v10 (2 : Int32) v209)) := ⟨_, rfl⟩
  obtain ⟨v213, hv213⟩ : ∃ z : Int32, z = (if (3 : Int32) < v1 then (1 : Int32) else (0 : Int32)) := ⟨_, rfl⟩
  have st214 : Steps p.tables e below (T211.setTop (mkF m 300 #[.val (.int x0), .val (.int x1), .val (.int x2), .val (.int x3), .val (.int x4), .val (.int v1), .val (.int v4), .val (.int v7), .val (.int v10), .val (.int v13), .val (.ref b15), .val (.long v184), .second, .val (.long v200), .second, .unset, .unset] [(.long (own_F8 v10 (2 : Int32) v209)), (.long v208)])) (T211.setTop (mkF m 315 #[.val (.int x0), .val (.int x1), .val (.int x2), .val (.int x3), .val (.int x4), .val (.int v1), .val (.int v4), .val (.int v7), .val (.int v10), .val (.int v13), .val (.ref b15), .val (.long v184), .second, .val (.long v200), .second, .unset, .unset] [(.int v213), (.int (2 : Int32)), (.int v13), (.long v212)])) := by
    subst v213 v212
    refine XS.ladd X211.here hx rfl (hb hby at_300) rfl ?_
    show Steps p.tables e below (T211.setTop (mkF m 301 #[.val (.int x0), .val (.int x1), .val (.int x2), .val (.int x3), .val (.int x4), .val (.int v1), .val (.int v4), .val (.int v7), .val (.int v10), .val (.int v13), .val (.ref b15), .val (.long v184), .second, .val (.long v200), .second, .unset, .unset] [(.long (v208 + (own_F8 v10 (2 : Int32) v209)))])) _
    refine XS.iload X211.here hx rfl (hb hby at_301) rfl ?_
    show Steps p.tables e below (T211.setTop (mkF m 303 #[.val (.int x0), .val (.int x1), .val (.int x2), .val (.int x3), .val (.int x4), .val (.int v1), .val (.int v4), .val (.int v7), .val (.int v10), .val (.int v13), .val (.ref b15), .val (.long v184), .second, .val (.long v200), .second, .unset, .unset] [(.int v13), (.long (v208 + (own_F8 v10 (2 : Int32) v209)))])) _
    refine XS.iconst X211.here hx rfl (hb hby at_303) ?_
    show Steps p.tables e below (T211.setTop (mkF m 304 #[.val (.int x0), .val (.int x1), .val (.int x2), .val (.int x3), .val (.int x4), .val (.int v1), .val (.int v4), .val (.int v7), .val (.int v10), .val (.int v13), .val (.ref b15), .val (.long v184), .second, .val (.long v200), .second, .unset, .unset] [(.int (2 : Int32)), (.int v13), (.long (v208 + (own_F8 v10 (2 : Int32) v209)))])) _
    refine XS.iload X211.here hx rfl (hb hby at_304) rfl ?_
    show Steps p.tables e below (T211.setTop (mkF m 306 #[.val (.int x0), .val (.int x1), .val (.int x2), .val (.int x3), .val (.int x4), .val (.int v1), .val (.int v4), .val (.int v7), .val (.int v10), .val (.int v13), .val (.ref b15), .val (.long v184), .second, .val (.long v200), .second, .unset, .unset] [(.int v1), (.int (2 : Int32)), (.int v13), (.long (v208 + (own_F8 v10 (2 : Int32) v209)))])) _
    refine XS.iconst X211.here hx rfl (hb hby at_306) ?_
    show Steps p.tables e below (T211.setTop (mkF m 307 #[.val (.int x0), .val (.int x1), .val (.int x2), .val (.int x3), .val (.int x4), .val (.int v1), .val (.int v4), .val (.int v7), .val (.int v10), .val (.int v13), .val (.ref b15), .val (.long v184), .second, .val (.long v200), .second, .unset, .unset] [(.int (3 : Int32)), (.int v1), (.int (2 : Int32)), (.int v13), (.long (v208 + (own_F8 v10 (2 : Int32) v209)))])) _
    refine Steps.trans (s₂ := T211.setTop (mkF m 315 #[.val (.int x0), .val (.int x1), .val (.int x2), .val (.int x3), .val (.int x4), .val (.int v1), .val (.int v4), .val (.int v7), .val (.int v10), .val (.int v13), .val (.ref b15), .val (.long v184), .second, .val (.long v200), .second, .unset, .unset] [(.int (if (3 : Int32) < v1 then (1 : Int32) else (0 : Int32))), (.int (2 : Int32)), (.int v13), (.long (v208 + (own_F8 v10 (2 : Int32) v209)))])) ?_ ?_
    · by_cases hc307 : (3 : Int32) < v1
      · refine XS.icmpNo X211.here hx rfl (hb hby at_307) rfl (tlt hc307).2.2.2 ?_
        show Steps p.tables e below (T211.setTop (mkF m 310 #[.val (.int x0), .val (.int x1), .val (.int x2), .val (.int x3), .val (.int x4), .val (.int v1), .val (.int v4), .val (.int v7), .val (.int v10), .val (.int v13), .val (.ref b15), .val (.long v184), .second, .val (.long v200), .second, .unset, .unset] [(.int (2 : Int32)), (.int v13), (.long (v208 + (own_F8 v10 (2 : Int32) v209)))])) _
        refine XS.iconst X211.here hx rfl (hb hby at_310) ?_
        show Steps p.tables e below (T211.setTop (mkF m 311 #[.val (.int x0), .val (.int x1), .val (.int x2), .val (.int x3), .val (.int x4), .val (.int v1), .val (.int v4), .val (.int v7), .val (.int v10), .val (.int v13), .val (.ref b15), .val (.long v184), .second, .val (.long v200), .second, .unset, .unset] [(.int (1 : Int32)), (.int (2 : Int32)), (.int v13), (.long (v208 + (own_F8 v10 (2 : Int32) v209)))])) _
        refine XS.goto X211.here hx rfl (pc0 := 311) (pc' := 315) rfl (hb hby at_311) (by decide) (by decide) ?_
        show Steps p.tables e below (T211.setTop (mkF m 315 #[.val (.int x0), .val (.int x1), .val (.int x2), .val (.int x3), .val (.int x4), .val (.int v1), .val (.int v4), .val (.int v7), .val (.int v10), .val (.int v13), .val (.ref b15), .val (.long v184), .second, .val (.long v200), .second, .unset, .unset] [(.int (1 : Int32)), (.int (2 : Int32)), (.int v13), (.long (v208 + (own_F8 v10 (2 : Int32) v209)))])) _
        try simp only [if_pos hc307]
        exact Steps.refl _
      · refine XS.icmpYes X211.here hx rfl (pc0 := 307) (pc' := 314) rfl (hb hby at_307) rfl (flt hc307).2.2.2 (by decide) (by decide) ?_
        show Steps p.tables e below (T211.setTop (mkF m 314 #[.val (.int x0), .val (.int x1), .val (.int x2), .val (.int x3), .val (.int x4), .val (.int v1), .val (.int v4), .val (.int v7), .val (.int v10), .val (.int v13), .val (.ref b15), .val (.long v184), .second, .val (.long v200), .second, .unset, .unset] [(.int (2 : Int32)), (.int v13), (.long (v208 + (own_F8 v10 (2 : Int32) v209)))])) _
        refine XS.iconst X211.here hx rfl (hb hby at_314) ?_
        show Steps p.tables e below (T211.setTop (mkF m 315 #[.val (.int x0), .val (.int x1), .val (.int x2), .val (.int x3), .val (.int x4), .val (.int v1), .val (.int v4), .val (.int v7), .val (.int v10), .val (.int v13), .val (.ref b15), .val (.long v184), .second, .val (.long v200), .second, .unset, .unset] [(.int (0 : Int32)), (.int (2 : Int32)), (.int v13), (.long (v208 + (own_F8 v10 (2 : Int32) v209)))])) _
        try simp only [if_neg hc307]
        exact Steps.refl _
    show Steps p.tables e below (T211.setTop (mkF m 315 #[.val (.int x0), .val (.int x1), .val (.int x2), .val (.int x3), .val (.int x4), .val (.int v1), .val (.int v4), .val (.int v7), .val (.int v10), .val (.int v13), .val (.ref b15), .val (.long v184), .second, .val (.long v200), .second, .unset, .unset] [(.int (if (3 : Int32) < v1 then (1 : Int32) else (0 : Int32))), (.int (2 : Int32)), (.int v13), (.long (v208 + (own_F8 v10 (2 : Int32) v209)))])) _
    exact Steps.refl _
  have pre214 := pre211.trans st214
  obtain ⟨_, _, ⟨T215, L215, k215, n215⟩, -, X215, ⟨Lc215, hQ215, l215, y215, z215⟩, st215⟩ := Jvm.LawKit.callS X211 hx (y := (⟨"com/example/evident_ledger/evidentledger/TallyCountPinLaw", "hit", "(IIZ)J"⟩ : MethodName)) hown (mvT hZ (hw _ (List.mem_of_getElem? (i := 36) rfl))) (mvT hZ (hw _ (List.mem_of_getElem? (i := 37) rfl))) (mvT hZ (hw _ (List.mem_of_getElem? (i := 3) rfl))) (mvT hZ (hw _ (List.mem_of_getElem? (i := 38) rfl))) (by decide) (backOf (W := 2) (rm8 l Z a0 hw [] v13 (2 : Int32) v213 h168 n0 Z168) hZ (hw _ (List.mem_of_getElem? (i := 38) rfl)) (hw _ (List.mem_of_getElem? (i := 3) rfl)) (by decide) (by decide)) (g := (mkF m 315 #[.val (.int x0), .val (.int x1), .val (.int x2), .val (.int x3), .val (.int x4), .val (.int v1), .val (.int v4), .val (.int v7), .val (.int v10), .val (.int v13), .val (.ref b15), .val (.long v184), .second, .val (.long v200), .second, .unset, .unset] [(.int v213), (.int (2 : Int32)), (.int v13), (.long v212)])) rfl (by rw [hml]; rfl) (argsL := [(.int v13), (.int (2 : Int32)), (.int v213)]) (rest := [(.long v212)]) (lenOf pd0_4 rfl) rfl (by show 2 * 0 + _ ≤ _; exact Nat.le_of_eq rfl) (hb hby at_315) (fun _ _ => ⟨rfl, e211, (by decide : 3 + 0 ≤ _), (by decide : 7 + 0 ≤ _)⟩)
  dsimp only [Pt.U, Pt.locs, Pt.cells, Pt.slots] at X215 l215 y215 z215 st215 hQ215
  subst l215 y215 z215
  obtain ⟨rfl, Nq215, e215⟩ := hQ215
  have N215 := Fr.app N211 Nq215
  have pre215 : Steps p.tables e below (s₁.setTop (entryFrame m #[(.int x0), (.int x1), (.int x2), (.int x3), (.int x4)] maxLocals)) (T215.setTop (mkF m 318 #[.val (.int x0), .val (.int x1), .val (.int x2), .val (.int x3), .val (.int x4), .val (.int v1), .val (.int v4), .val (.int v7), .val (.int v10), .val (.int v13), .val (.ref b15), .val (.long v184), .second, .val (.long v200), .second, .unset, .unset] [(.long (own_F8 v13 (2 : Int32) v213)), (.long v212)])) := pre214.trans (st215 _ (Steps.refl _))
  obtain ⟨v216, hv216⟩ : ∃ z : Int64, z = (v212 + (own_F8 v13 (2 : Int32) v213)) := ⟨_, rfl⟩
  have st217 : Steps p.tables e below (T215.setTop (mkF m 318 #[.val (.int x0), .val (.int x1), .val (.int x2), .val (.int x3), .val (.int x4), .val (.int v1), .val (.int v4), .val (.int v7), .val (.int v10), .val (.int v13), .val (.ref b15), .val (.long v184), .second, .val (.long v200), .second, .unset, .unset] [(.long (own_F8 v13 (2 : Int32) v213)), (.long v212)])) (T215.setTop (mkF m 323 #[.val (.int x0), .val (.int x1), .val (.int x2), .val (.int x3), .val (.int x4), .val (.int v1), .val (.int v4), .val (.int v7), .val (.int v10), .val (.int v13), .val (.ref b15), .val (.long v184), .second, .val (.long v200), .second, .val (.long v216), .second] [(.ref b15)])) := by
    subst v216
    refine XS.ladd X215.here hx rfl (hb hby at_318) rfl ?_
    show Steps p.tables e below (T215.setTop (mkF m 319 #[.val (.int x0), .val (.int x1), .val (.int x2), .val (.int x3), .val (.int x4), .val (.int v1), .val (.int v4), .val (.int v7), .val (.int v10), .val (.int v13), .val (.ref b15), .val (.long v184), .second, .val (.long v200), .second, .unset, .unset] [(.long (v212 + (own_F8 v13 (2 : Int32) v213)))])) _
    refine XS.lstore X215.here hx rfl (hb hby at_319) rfl (l' := #[.val (.int x0), .val (.int x1), .val (.int x2), .val (.int x3), .val (.int x4), .val (.int v1), .val (.int v4), .val (.int v7), .val (.int v10), .val (.int v13), .val (.ref b15), .val (.long v184), .second, .val (.long v200), .second, .val (.long (v212 + (own_F8 v13 (2 : Int32) v213))), .second]) rfl ?_
    show Steps p.tables e below (T215.setTop (mkF m 321 #[.val (.int x0), .val (.int x1), .val (.int x2), .val (.int x3), .val (.int x4), .val (.int v1), .val (.int v4), .val (.int v7), .val (.int v10), .val (.int v13), .val (.ref b15), .val (.long v184), .second, .val (.long v200), .second, .val (.long (v212 + (own_F8 v13 (2 : Int32) v213))), .second] [])) _
    refine XS.aload X215.here hx rfl (hb hby at_321) rfl rfl ?_
    show Steps p.tables e below (T215.setTop (mkF m 323 #[.val (.int x0), .val (.int x1), .val (.int x2), .val (.int x3), .val (.int x4), .val (.int v1), .val (.int v4), .val (.int v7), .val (.int v10), .val (.int v13), .val (.ref b15), .val (.long v184), .second, .val (.long v200), .second, .val (.long (v212 + (own_F8 v13 (2 : Int32) v213))), .second] [(.ref b15)])) _
    exact Steps.refl _
  have pre217 := pre215.trans st217
  obtain ⟨T218, X218, e218, st218⟩ := getS2 X215 hx hZ hown (host := "") (Or.inl (hw _ (List.mem_of_getElem? (i := 39) rfl))) Via.refl e215 (S_A.ext O168.2) (g := (mkF m 323 #[.val (.int x0), .val (.int x1), .val (.int x2), .val (.int x3), .val (.int x4), .val (.int v1), .val (.int v4), .val (.int v7), .val (.int v10), .val (.int v13), .val (.ref b15), .val (.long v184), .second, .val (.long v200), .second, .val (.long v216), .second] [(.ref b15)])) rfl (hb hby at_323)
  have pre218 : Steps p.tables e below (s₁.setTop (entryFrame m #[(.int x0), (.int x1), (.int x2), (.int x3), (.int x4)] maxLocals)) (T218.setTop (mkF m 326 #[.val (.int x0), .val (.int x1), .val (.int x2), .val (.int x3), .val (.int x4), .val (.int v1), .val (.int v4), .val (.int v7), .val (.int v10), .val (.int v13), .val (.ref b15), .val (.long v184), .second, .val (.long v200), .second, .val (.long v216), .second] [(.ref aA), (.ref b15)])) := pre217.trans (st218 _ (Steps.refl _))
  obtain ⟨cq219, kq219, q219a, q219b, q219c⟩ := isOf hZ e218 J168_8
  obtain ⟨_, _, ⟨T219, L219, k219, n219⟩, -, X219, ⟨Lc219, hQ219, l219, y219, z219⟩, st219⟩ := X218.virtualBack hx (y := (⟨"com/example/evident_ledger/evidentledger/ExecutorVerdict$Tally", "of", "(Lcom/example/evident_ledger/evidentledger/ExecutorVerdict;)J"⟩ : MethodName)) (z := (⟨"com/example/evident_ledger/evidentledger/ExecutorVerdict$Tally", "of", "(Lcom/example/evident_ledger/evidentledger/ExecutorVerdict;)J"⟩ : MethodName)) hown (mvT hZ (hw _ (List.mem_of_getElem? (i := 40) rfl))) (mvT hZ (hw _ (List.mem_of_getElem? (i := 41) rfl))) (notFace_of_selects (args := #[]) (mvT hZ (hw _ (List.mem_of_getElem? (i := 43) rfl)))) (mvT hZ (hw _ (List.mem_of_getElem? (i := 43) rfl))) (mvT hZ (hw _ (List.mem_of_getElem? (i := 42) rfl))) (by decide) (backOf (W := 0) (rm6a l Z a0 hw [] b15 aA ar_26 kk_26 (if (3 : Int32) < v1 then (own_up (if (2 : Int32) < v1 then (own_up (if (1 : Int32) < v1 then (own_up (if (0 : Int32) < v1 then (own_up (0 : Int64) v4 (0 : Int32)) else (0 : Int64)) v7 (0 : Int32)) else (if (0 : Int32) < v1 then (own_up (0 : Int64) v4 (0 : Int32)) else (0 : Int64))) v10 (0 : Int32)) else (if (1 : Int32) < v1 then (own_up (if (0 : Int32) < v1 then (own_up (0 : Int64) v4 (0 : Int32)) else (0 : Int64)) v7 (0 : Int32)) else (if (0 : Int32) < v1 then (own_up (0 : Int64) v4 (0 : Int32)) else (0 : Int64)))) v13 (0 : Int32)) else (if (2 : Int32) < v1 then (own_up (if (1 : Int32) < v1 then (own_up (if (0 : Int32) < v1 then (own_up (0 : Int64) v4 (0 : Int32)) else (0 : Int64)) v7 (0 : Int32)) else (if (0 : Int32) < v1 then (own_up (0 : Int64) v4 (0 : Int32)) else (0 : Int64))) v10 (0 : Int32)) else (if (1 : Int32) < v1 then (own_up (if (0 : Int32) < v1 then (own_up (0 : Int64) v4 (0 : Int32)) else (0 : Int64)) v7 (0 : Int32)) else (if (0 : Int32) < v1 then (own_up (0 : Int64) v4 (0 : Int32)) else (0 : Int64))))) (if (3 : Int32) < v1 then (own_up (if (2 : Int32) < v1 then (own_up (if (1 : Int32) < v1 then (own_up (if (0 : Int32) < v1 then (own_up (0 : Int64) v4 (1 : Int32)) else (0 : Int64)) v7 (1 : Int32)) else (if (0 : Int32) < v1 then (own_up (0 : Int64) v4 (1 : Int32)) else (0 : Int64))) v10 (1 : Int32)) else (if (1 : Int32) < v1 then (own_up (if (0 : Int32) < v1 then (own_up (0 : Int64) v4 (1 : Int32)) else (0 : Int64)) v7 (1 : Int32)) else (if (0 : Int32) < v1 then (own_up (0 : Int64) v4 (1 : Int32)) else (0 : Int64)))) v13 (1 : Int32)) else (if (2 : Int32) < v1 then (own_up (if (1 : Int32) < v1 then (own_up (if (0 : Int32) < v1 then (own_up (0 : Int64) v4 (1 : Int32)) else (0 : Int64)) v7 (1 : Int32)) else (if (0 : Int32) < v1 then (own_up (0 : Int64) v4 (1 : Int32)) else (0 : Int64))) v10 (1 : Int32)) else (if (1 : Int32) < v1 then (own_up (if (0 : Int32) < v1 then (own_up (0 : Int64) v4 (1 : Int32)) else (0 : Int64)) v7 (1 : Int32)) else (if (0 : Int32) < v1 then (own_up (0 : Int64) v4 (1 : Int32)) else (0 : Int64))))) (if (3 : Int32) < v1 then (own_up (if (2 : Int32) < v1 then (own_up (if (1 : Int32) < v1 then (own_up (if (0 : Int32) < v1 then (own_up (0 : Int64) v4 (2 : Int32)) else (0 : Int64)) v7 (2 : Int32)) else (if (0 : Int32) < v1 then (own_up (0 : Int64) v4 (2 : Int32)) else (0 : Int64))) v10 (2 : Int32)) else (if (1 : Int32) < v1 then (own_up (if (0 : Int32) < v1 then (own_up (0 : Int64) v4 (2 : Int32)) else (0 : Int64)) v7 (2 : Int32)) else (if (0 : Int32) < v1 then (own_up (0 : Int64) v4 (2 : Int32)) else (0 : Int64)))) v13 (2 : Int32)) else (if (2 : Int32) < v1 then (own_up (if (1 : Int32) < v1 then (own_up (if (0 : Int32) < v1 then (own_up (0 : Int64) v4 (2 : Int32)) else (0 : Int64)) v7 (2 : Int32)) else (if (0 : Int32) < v1 then (own_up (0 : Int64) v4 (2 : Int32)) else (0 : Int64))) v10 (2 : Int32)) else (if (1 : Int32) < v1 then (own_up (if (0 : Int32) < v1 then (own_up (0 : Int64) v4 (2 : Int32)) else (0 : Int64)) v7 (2 : Int32)) else (if (0 : Int32) < v1 then (own_up (0 : Int64) v4 (2 : Int32)) else (0 : Int64))))) h168 n0 Z168 J168_10 J168_11 J168_1 J168_4) hZ (hw _ (List.mem_of_getElem? (i := 44) rfl)) (hw _ (List.mem_of_getElem? (i := 7) rfl)) (by decide) (by decide)) q219a q219c (g := (mkF m 326 #[.val (.int x0), .val (.int x1), .val (.int x2), .val (.int x3), .val (.int x4), .val (.int v1), .val (.int v4), .val (.int v7), .val (.int v10), .val (.int v13), .val (.ref b15), .val (.long v184), .second, .val (.long v200), .second, .val (.long v216), .second] [(.ref aA), (.ref b15)])) rfl (by rw [hml]; rfl) (Steps.refl _) (argsL := [(.ref aA)]) (rest := []) (lenOf pd0_5 rfl) rfl (by show 2 * 0 + _ ≤ _; exact Nat.le_of_eq rfl) (hb hby at_326) (fun _ _ => ⟨rfl, e218, (by decide : 3 + 0 ≤ _), (by decide : 7 + 0 ≤ _)⟩)
  dsimp only [Pt.U, Pt.locs, Pt.cells, Pt.slots] at X219 l219 y219 z219 st219 hQ219
  subst l219 y219 z219
  obtain ⟨rfl, Nq219, e219⟩ := hQ219
  have N219 := Fr.app N215 Nq219
  have pre219 : Steps p.tables e below (s₁.setTop (entryFrame m #[(.int x0), (.int x1), (.int x2), (.int x3), (.int x4)] maxLocals)) (T219.setTop (mkF m 329 #[.val (.int x0), .val (.int x1), .val (.int x2), .val (.int x3), .val (.int x4), .val (.int v1), .val (.int v4), .val (.int v7), .val (.int v10), .val (.int v13), .val (.ref b15), .val (.long v184), .second, .val (.long v200), .second, .val (.long v216), .second] [(.long (if (3 : Int32) < v1 then (own_up (if (2 : Int32) < v1 then (own_up (if (1 : Int32) < v1 then (own_up (if (0 : Int32) < v1 then (own_up (0 : Int64) v4 (0 : Int32)) else (0 : Int64)) v7 (0 : Int32)) else (if (0 : Int32) < v1 then (own_up (0 : Int64) v4 (0 : Int32)) else (0 : Int64))) v10 (0 : Int32)) else (if (1 : Int32) < v1 then (own_up (if (0 : Int32) < v1 then (own_up (0 : Int64) v4 (0 : Int32)) else (0 : Int64)) v7 (0 : Int32)) else (if (0 : Int32) < v1 then (own_up (0 : Int64) v4 (0 : Int32)) else (0 : Int64)))) v13 (0 : Int32)) else (if (2 : Int32) < v1 then (own_up (if (1 : Int32) < v1 then (own_up (if (0 : Int32) < v1 then (own_up (0 : Int64) v4 (0 : Int32)) else (0 : Int64)) v7 (0 : Int32)) else (if (0 : Int32) < v1 then (own_up (0 : Int64) v4 (0 : Int32)) else (0 : Int64))) v10 (0 : Int32)) else (if (1 : Int32) < v1 then (own_up (if (0 : Int32) < v1 then (own_up (0 : Int64) v4 (0 : Int32)) else (0 : Int64)) v7 (0 : Int32)) else (if (0 : Int32) < v1 then (own_up (0 : Int64) v4 (0 : Int32)) else (0 : Int64))))))])) := pre218.trans st219
  have st220 : Steps p.tables e below (T219.setTop (mkF m 329 #[.val (.int x0), .val (.int x1), .val (.int x2), .val (.int x3), .val (.int x4), .val (.int v1), .val (.int v4), .val (.int v7), .val (.int v10), .val (.int v13), .val (.ref b15), .val (.long v184), .second, .val (.long v200), .second, .val (.long v216), .second] [(.long (if (3 : Int32) < v1 then (own_up (if (2 : Int32) < v1 then (own_up (if (1 : Int32) < v1 then (own_up (if (0 : Int32) < v1 then (own_up (0 : Int64) v4 (0 : Int32)) else (0 : Int64)) v7 (0 : Int32)) else (if (0 : Int32) < v1 then (own_up (0 : Int64) v4 (0 : Int32)) else (0 : Int64))) v10 (0 : Int32)) else (if (1 : Int32) < v1 then (own_up (if (0 : Int32) < v1 then (own_up (0 : Int64) v4 (0 : Int32)) else (0 : Int64)) v7 (0 : Int32)) else (if (0 : Int32) < v1 then (own_up (0 : Int64) v4 (0 : Int32)) else (0 : Int64)))) v13 (0 : Int32)) else (if (2 : Int32) < v1 then (own_up (if (1 : Int32) < v1 then (own_up (if (0 : Int32) < v1 then (own_up (0 : Int64) v4 (0 : Int32)) else (0 : Int64)) v7 (0 : Int32)) else (if (0 : Int32) < v1 then (own_up (0 : Int64) v4 (0 : Int32)) else (0 : Int64))) v10 (0 : Int32)) else (if (1 : Int32) < v1 then (own_up (if (0 : Int32) < v1 then (own_up (0 : Int64) v4 (0 : Int32)) else (0 : Int64)) v7 (0 : Int32)) else (if (0 : Int32) < v1 then (own_up (0 : Int64) v4 (0 : Int32)) else (0 : Int64))))))])) (T219.setTop (mkF m 332 #[.val (.int x0), .val (.int x1), .val (.int x2), .val (.int x3), .val (.int x4), .val (.int v1), .val (.int v4), .val (.int v7), .val (.int v10), .val (.int v13), .val (.ref b15), .val (.long v184), .second, .val (.long v200), .second, .val (.long v216), .second] [(.int (lcmpW (if (3 : Int32) < v1 then (own_up (if (2 : Int32) < v1 then (own_up (if (1 : Int32) < v1 then (own_up (if (0 : Int32) < v1 then (own_up (0 : Int64) v4 (0 : Int32)) else (0 : Int64)) v7 (0 : Int32)) else (if (0 : Int32) < v1 then (own_up (0 : Int64) v4 (0 : Int32)) else (0 : Int64))) v10 (0 : Int32)) else (if (1 : Int32) < v1 then (own_up (if (0 : Int32) < v1 then (own_up (0 : Int64) v4 (0 : Int32)) else (0 : Int64)) v7 (0 : Int32)) else (if (0 : Int32) < v1 then (own_up (0 : Int64) v4 (0 : Int32)) else (0 : Int64)))) v13 (0 : Int32)) else (if (2 : Int32) < v1 then (own_up (if (1 : Int32) < v1 then (own_up (if (0 : Int32) < v1 then (own_up (0 : Int64) v4 (0 : Int32)) else (0 : Int64)) v7 (0 : Int32)) else (if (0 : Int32) < v1 then (own_up (0 : Int64) v4 (0 : Int32)) else (0 : Int64))) v10 (0 : Int32)) else (if (1 : Int32) < v1 then (own_up (if (0 : Int32) < v1 then (own_up (0 : Int64) v4 (0 : Int32)) else (0 : Int64)) v7 (0 : Int32)) else (if (0 : Int32) < v1 then (own_up (0 : Int64) v4 (0 : Int32)) else (0 : Int64))))) v184))])) := by
    refine XS.lload X219.here hx rfl (hb hby at_329) rfl ?_
    show Steps p.tables e below (T219.setTop (mkF m 331 #[.val (.int x0), .val (.int x1), .val (.int x2), .val (.int x3), .val (.int x4), .val (.int v1), .val (.int v4), .val (.int v7), .val (.int v10), .val (.int v13), .val (.ref b15), .val (.long v184), .second, .val (.long v200), .second, .val (.long v216), .second] [(.long v184), (.long (if (3 : Int32) < v1 then (own_up (if (2 : Int32) < v1 then (own_up (if (1 : Int32) < v1 then (own_up (if (0 : Int32) < v1 then (own_up (0 : Int64) v4 (0 : Int32)) else (0 : Int64)) v7 (0 : Int32)) else (if (0 : Int32) < v1 then (own_up (0 : Int64) v4 (0 : Int32)) else (0 : Int64))) v10 (0 : Int32)) else (if (1 : Int32) < v1 then (own_up (if (0 : Int32) < v1 then (own_up (0 : Int64) v4 (0 : Int32)) else (0 : Int64)) v7 (0 : Int32)) else (if (0 : Int32) < v1 then (own_up (0 : Int64) v4 (0 : Int32)) else (0 : Int64)))) v13 (0 : Int32)) else (if (2 : Int32) < v1 then (own_up (if (1 : Int32) < v1 then (own_up (if (0 : Int32) < v1 then (own_up (0 : Int64) v4 (0 : Int32)) else (0 : Int64)) v7 (0 : Int32)) else (if (0 : Int32) < v1 then (own_up (0 : Int64) v4 (0 : Int32)) else (0 : Int64))) v10 (0 : Int32)) else (if (1 : Int32) < v1 then (own_up (if (0 : Int32) < v1 then (own_up (0 : Int64) v4 (0 : Int32)) else (0 : Int64)) v7 (0 : Int32)) else (if (0 : Int32) < v1 then (own_up (0 : Int64) v4 (0 : Int32)) else (0 : Int64))))))])) _
    refine XS.lcmp X219.here hx rfl (hb hby at_331) rfl ?_
    show Steps p.tables e below (T219.setTop (mkF m 332 #[.val (.int x0), .val (.int x1), .val (.int x2), .val (.int x3), .val (.int x4), .val (.int v1), .val (.int v4), .val (.int v7), .val (.int v10), .val (.int v13), .val (.ref b15), .val (.long v184), .second, .val (.long v200), .second, .val (.long v216), .second] [(.int (lcmpW (if (3 : Int32) < v1 then (own_up (if (2 : Int32) < v1 then (own_up (if (1 : Int32) < v1 then (own_up (if (0 : Int32) < v1 then (own_up (0 : Int64) v4 (0 : Int32)) else (0 : Int64)) v7 (0 : Int32)) else (if (0 : Int32) < v1 then (own_up (0 : Int64) v4 (0 : Int32)) else (0 : Int64))) v10 (0 : Int32)) else (if (1 : Int32) < v1 then (own_up (if (0 : Int32) < v1 then (own_up (0 : Int64) v4 (0 : Int32)) else (0 : Int64)) v7 (0 : Int32)) else (if (0 : Int32) < v1 then (own_up (0 : Int64) v4 (0 : Int32)) else (0 : Int64)))) v13 (0 : Int32)) else (if (2 : Int32) < v1 then (own_up (if (1 : Int32) < v1 then (own_up (if (0 : Int32) < v1 then (own_up (0 : Int64) v4 (0 : Int32)) else (0 : Int64)) v7 (0 : Int32)) else (if (0 : Int32) < v1 then (own_up (0 : Int64) v4 (0 : Int32)) else (0 : Int64))) v10 (0 : Int32)) else (if (1 : Int32) < v1 then (own_up (if (0 : Int32) < v1 then (own_up (0 : Int64) v4 (0 : Int32)) else (0 : Int64)) v7 (0 : Int32)) else (if (0 : Int32) < v1 then (own_up (0 : Int64) v4 (0 : Int32)) else (0 : Int64))))) v184))])) _
    exact Steps.refl _
  have pre220 := pre219.trans st220
  have hc332 : (if (3 : Int32) < v1 then (own_up (if (2 : Int32) < v1 then (own_up (if (1 : Int32) < v1 then (own_up (if (0 : Int32) < v1 then (own_up (0 : Int64) v4 (0 : Int32)) else (0 : Int64)) v7 (0 : Int32)) else (if (0 : Int32) < v1 then (own_up (0 : Int64) v4 (0 : Int32)) else (0 : Int64))) v10 (0 : Int32)) else (if (1 : Int32) < v1 then (own_up (if (0 : Int32) < v1 then (own_up (0 : Int64) v4 (0 : Int32)) else (0 : Int64)) v7 (0 : Int32)) else (if (0 : Int32) < v1 then (own_up (0 : Int64) v4 (0 : Int32)) else (0 : Int64)))) v13 (0 : Int32)) else (if (2 : Int32) < v1 then (own_up (if (1 : Int32) < v1 then (own_up (if (0 : Int32) < v1 then (own_up (0 : Int64) v4 (0 : Int32)) else (0 : Int64)) v7 (0 : Int32)) else (if (0 : Int32) < v1 then (own_up (0 : Int64) v4 (0 : Int32)) else (0 : Int64))) v10 (0 : Int32)) else (if (1 : Int32) < v1 then (own_up (if (0 : Int32) < v1 then (own_up (0 : Int64) v4 (0 : Int32)) else (0 : Int64)) v7 (0 : Int32)) else (if (0 : Int32) < v1 then (own_up (0 : Int64) v4 (0 : Int32)) else (0 : Int64))))) = v184 := by
    simp only [hv184, hv180, hv176, hv172, hv169, hv173, hv177, hv181]
    simp only [own_st, Int64.zero_add]
  have st221 : Steps p.tables e below (T219.setTop (mkF m 332 #[.val (.int x0), .val (.int x1), .val (.int x2), .val (.int x3), .val (.int x4), .val (.int v1), .val (.int v4), .val (.int v7), .val (.int v10), .val (.int v13), .val (.ref b15), .val (.long v184), .second, .val (.long v200), .second, .val (.long v216), .second] [(.int (lcmpW (if (3 : Int32) < v1 then (own_up (if (2 : Int32) < v1 then (own_up (if (1 : Int32) < v1 then (own_up (if (0 : Int32) < v1 then (own_up (0 : Int64) v4 (0 : Int32)) else (0 : Int64)) v7 (0 : Int32)) else (if (0 : Int32) < v1 then (own_up (0 : Int64) v4 (0 : Int32)) else (0 : Int64))) v10 (0 : Int32)) else (if (1 : Int32) < v1 then (own_up (if (0 : Int32) < v1 then (own_up (0 : Int64) v4 (0 : Int32)) else (0 : Int64)) v7 (0 : Int32)) else (if (0 : Int32) < v1 then (own_up (0 : Int64) v4 (0 : Int32)) else (0 : Int64)))) v13 (0 : Int32)) else (if (2 : Int32) < v1 then (own_up (if (1 : Int32) < v1 then (own_up (if (0 : Int32) < v1 then (own_up (0 : Int64) v4 (0 : Int32)) else (0 : Int64)) v7 (0 : Int32)) else (if (0 : Int32) < v1 then (own_up (0 : Int64) v4 (0 : Int32)) else (0 : Int64))) v10 (0 : Int32)) else (if (1 : Int32) < v1 then (own_up (if (0 : Int32) < v1 then (own_up (0 : Int64) v4 (0 : Int32)) else (0 : Int64)) v7 (0 : Int32)) else (if (0 : Int32) < v1 then (own_up (0 : Int64) v4 (0 : Int32)) else (0 : Int64))))) v184))])) (T219.setTop (mkF m 335 #[.val (.int x0), .val (.int x1), .val (.int x2), .val (.int x3), .val (.int x4), .val (.int v1), .val (.int v4), .val (.int v7), .val (.int v10), .val (.int v13), .val (.ref b15), .val (.long v184), .second, .val (.long v200), .second, .val (.long v216), .second] [])) := by
    refine XS.ifNo X219.here hx rfl (hb hby at_332) rfl ((if0 _ _).trans (teq ((lw_eq (if (3 : Int32) < v1 then (own_up (if (2 : Int32) < v1 then (own_up (if (1 : Int32) < v1 then (own_up (if (0 : Int32) < v1 then (own_up (0 : Int64) v4 (0 : Int32)) else (0 : Int64)) v7 (0 : Int32)) else (if (0 : Int32) < v1 then (own_up (0 : Int64) v4 (0 : Int32)) else (0 : Int64))) v10 (0 : Int32)) else (if (1 : Int32) < v1 then (own_up (if (0 : Int32) < v1 then (own_up (0 : Int64) v4 (0 : Int32)) else (0 : Int64)) v7 (0 : Int32)) else (if (0 : Int32) < v1 then (own_up (0 : Int64) v4 (0 : Int32)) else (0 : Int64)))) v13 (0 : Int32)) else (if (2 : Int32) < v1 then (own_up (if (1 : Int32) < v1 then (own_up (if (0 : Int32) < v1 then (own_up (0 : Int64) v4 (0 : Int32)) else (0 : Int64)) v7 (0 : Int32)) else (if (0 : Int32) < v1 then (own_up (0 : Int64) v4 (0 : Int32)) else (0 : Int64))) v10 (0 : Int32)) else (if (1 : Int32) < v1 then (own_up (if (0 : Int32) < v1 then (own_up (0 : Int64) v4 (0 : Int32)) else (0 : Int64)) v7 (0 : Int32)) else (if (0 : Int32) < v1 then (own_up (0 : Int64) v4 (0 : Int32)) else (0 : Int64))))) v184).mpr hc332)).2) ?_
    exact Steps.refl _
  have pre221 := pre220.trans st221
  have st222 : Steps p.tables e below (T219.setTop (mkF m 335 #[.val (.int x0), .val (.int x1), .val (.int x2), .val (.int x3), .val (.int x4), .val (.int v1), .val (.int v4), .val (.int v7), .val (.int v10), .val (.int v13), .val (.ref b15), .val (.long v184), .second, .val (.long v200), .second, .val (.long v216), .second] [])) (T219.setTop (mkF m 337 #[.val (.int x0), .val (.int x1), .val (.int x2), .val (.int x3), .val (.int x4), .val (.int v1), .val (.int v4), .val (.int v7), .val (.int v10), .val (.int v13), .val (.ref b15), .val (.long v184), .second, .val (.long v200), .second, .val (.long v216), .second] [(.ref b15)])) := by
    refine XS.aload X219.here hx rfl (hb hby at_335) rfl rfl ?_
    show Steps p.tables e below (T219.setTop (mkF m 337 #[.val (.int x0), .val (.int x1), .val (.int x2), .val (.int x3), .val (.int x4), .val (.int v1), .val (.int v4), .val (.int v7), .val (.int v10), .val (.int v13), .val (.ref b15), .val (.long v184), .second, .val (.long v200), .second, .val (.long v216), .second] [(.ref b15)])) _
    exact Steps.refl _
  have pre222 := pre221.trans st222
  obtain ⟨T223, X223, e223, st223⟩ := getS2 X219 hx hZ hown (host := "") (Or.inl (hw _ (List.mem_of_getElem? (i := 54) rfl))) Via.refl e219 (S_U.ext O168.2) (g := (mkF m 337 #[.val (.int x0), .val (.int x1), .val (.int x2), .val (.int x3), .val (.int x4), .val (.int v1), .val (.int v4), .val (.int v7), .val (.int v10), .val (.int v13), .val (.ref b15), .val (.long v184), .second, .val (.long v200), .second, .val (.long v216), .second] [(.ref b15)])) rfl (hb hby at_337)
  have pre223 : Steps p.tables e below (s₁.setTop (entryFrame m #[(.int x0), (.int x1), (.int x2), (.int x3), (.int x4)] maxLocals)) (T223.setTop (mkF m 340 #[.val (.int x0), .val (.int x1), .val (.int x2), .val (.int x3), .val (.int x4), .val (.int v1), .val (.int v4), .val (.int v7), .val (.int v10), .val (.int v13), .val (.ref b15), .val (.long v184), .second, .val (.long v200), .second, .val (.long v216), .second] [(.ref aU), (.ref b15)])) := pre222.trans (st223 _ (Steps.refl _))
  obtain ⟨cq224, kq224, q224a, q224b, q224c⟩ := isOf hZ e223 J168_8
  obtain ⟨_, _, ⟨T224, L224, k224, n224⟩, -, X224, ⟨Lc224, hQ224, l224, y224, z224⟩, st224⟩ := X223.virtualBack hx (y := (⟨"com/example/evident_ledger/evidentledger/ExecutorVerdict$Tally", "of", "(Lcom/example/evident_ledger/evidentledger/ExecutorVerdict;)J"⟩ : MethodName)) (z := (⟨"com/example/evident_ledger/evidentledger/ExecutorVerdict$Tally", "of", "(Lcom/example/evident_ledger/evidentledger/ExecutorVerdict;)J"⟩ : MethodName)) hown (mvT hZ (hw _ (List.mem_of_getElem? (i := 40) rfl))) (mvT hZ (hw _ (List.mem_of_getElem? (i := 41) rfl))) (notFace_of_selects (args := #[]) (mvT hZ (hw _ (List.mem_of_getElem? (i := 43) rfl)))) (mvT hZ (hw _ (List.mem_of_getElem? (i := 43) rfl))) (mvT hZ (hw _ (List.mem_of_getElem? (i := 42) rfl))) (by decide) (backOf (W := 0) (rm6b l Z a0 hw [] b15 aU ar_26 kk_26 (if (3 : Int32) < v1 then (own_up (if (2 : Int32) < v1 then (own_up (if (1 : Int32) < v1 then (own_up (if (0 : Int32) < v1 then (own_up (0 : Int64) v4 (0 : Int32)) else (0 : Int64)) v7 (0 : Int32)) else (if (0 : Int32) < v1 then (own_up (0 : Int64) v4 (0 : Int32)) else (0 : Int64))) v10 (0 : Int32)) else (if (1 : Int32) < v1 then (own_up (if (0 : Int32) < v1 then (own_up (0 : Int64) v4 (0 : Int32)) else (0 : Int64)) v7 (0 : Int32)) else (if (0 : Int32) < v1 then (own_up (0 : Int64) v4 (0 : Int32)) else (0 : Int64)))) v13 (0 : Int32)) else (if (2 : Int32) < v1 then (own_up (if (1 : Int32) < v1 then (own_up (if (0 : Int32) < v1 then (own_up (0 : Int64) v4 (0 : Int32)) else (0 : Int64)) v7 (0 : Int32)) else (if (0 : Int32) < v1 then (own_up (0 : Int64) v4 (0 : Int32)) else (0 : Int64))) v10 (0 : Int32)) else (if (1 : Int32) < v1 then (own_up (if (0 : Int32) < v1 then (own_up (0 : Int64) v4 (0 : Int32)) else (0 : Int64)) v7 (0 : Int32)) else (if (0 : Int32) < v1 then (own_up (0 : Int64) v4 (0 : Int32)) else (0 : Int64))))) (if (3 : Int32) < v1 then (own_up (if (2 : Int32) < v1 then (own_up (if (1 : Int32) < v1 then (own_up (if (0 : Int32) < v1 then (own_up (0 : Int64) v4 (1 : Int32)) else (0 : Int64)) v7 (1 : Int32)) else (if (0 : Int32) < v1 then (own_up (0 : Int64) v4 (1 : Int32)) else (0 : Int64))) v10 (1 : Int32)) else (if (1 : Int32) < v1 then (own_up (if (0 : Int32) < v1 then (own_up (0 : Int64) v4 (1 : Int32)) else (0 : Int64)) v7 (1 : Int32)) else (if (0 : Int32) < v1 then (own_up (0 : Int64) v4 (1 : Int32)) else (0 : Int64)))) v13 (1 : Int32)) else (if (2 : Int32) < v1 then (own_up (if (1 : Int32) < v1 then (own_up (if (0 : Int32) < v1 then (own_up (0 : Int64) v4 (1 : Int32)) else (0 : Int64)) v7 (1 : Int32)) else (if (0 : Int32) < v1 then (own_up (0 : Int64) v4 (1 : Int32)) else (0 : Int64))) v10 (1 : Int32)) else (if (1 : Int32) < v1 then (own_up (if (0 : Int32) < v1 then (own_up (0 : Int64) v4 (1 : Int32)) else (0 : Int64)) v7 (1 : Int32)) else (if (0 : Int32) < v1 then (own_up (0 : Int64) v4 (1 : Int32)) else (0 : Int64))))) (if (3 : Int32) < v1 then (own_up (if (2 : Int32) < v1 then (own_up (if (1 : Int32) < v1 then (own_up (if (0 : Int32) < v1 then (own_up (0 : Int64) v4 (2 : Int32)) else (0 : Int64)) v7 (2 : Int32)) else (if (0 : Int32) < v1 then (own_up (0 : Int64) v4 (2 : Int32)) else (0 : Int64))) v10 (2 : Int32)) else (if (1 : Int32) < v1 then (own_up (if (0 : Int32) < v1 then (own_up (0 : Int64) v4 (2 : Int32)) else (0 : Int64)) v7 (2 : Int32)) else (if (0 : Int32) < v1 then (own_up (0 : Int64) v4 (2 : Int32)) else (0 : Int64)))) v13 (2 : Int32)) else (if (2 : Int32) < v1 then (own_up (if (1 : Int32) < v1 then (own_up (if (0 : Int32) < v1 then (own_up (0 : Int64) v4 (2 : Int32)) else (0 : Int64)) v7 (2 : Int32)) else (if (0 : Int32) < v1 then (own_up (0 : Int64) v4 (2 : Int32)) else (0 : Int64))) v10 (2 : Int32)) else (if (1 : Int32) < v1 then (own_up (if (0 : Int32) < v1 then (own_up (0 : Int64) v4 (2 : Int32)) else (0 : Int64)) v7 (2 : Int32)) else (if (0 : Int32) < v1 then (own_up (0 : Int64) v4 (2 : Int32)) else (0 : Int64))))) h168 n0 Z168 J168_10 J168_11 J168_2 J168_5) hZ (hw _ (List.mem_of_getElem? (i := 44) rfl)) (hw _ (List.mem_of_getElem? (i := 7) rfl)) (by decide) (by decide)) q224a q224c (g := (mkF m 340 #[.val (.int x0), .val (.int x1), .val (.int x2), .val (.int x3), .val (.int x4), .val (.int v1), .val (.int v4), .val (.int v7), .val (.int v10), .val (.int v13), .val (.ref b15), .val (.long v184), .second, .val (.long v200), .second, .val (.long v216), .second] [(.ref aU), (.ref b15)])) rfl (by rw [hml]; rfl) (Steps.refl _) (argsL := [(.ref aU)]) (rest := []) (lenOf pd0_5 rfl) rfl (by show 2 * 0 + _ ≤ _; exact Nat.le_of_eq rfl) (hb hby at_340) (fun _ _ => ⟨rfl, e223, (by decide : 3 + 0 ≤ _), (by decide : 7 + 0 ≤ _)⟩)
  dsimp only [Pt.U, Pt.locs, Pt.cells, Pt.slots] at X224 l224 y224 z224 st224 hQ224
  subst l224 y224 z224
  obtain ⟨rfl, Nq224, e224⟩ := hQ224
  have N224 := Fr.app N219 Nq224
  have pre224 : Steps p.tables e below (s₁.setTop (entryFrame m #[(.int x0), (.int x1), (.int x2), (.int x3), (.int x4)] maxLocals)) (T224.setTop (mkF m 343 #[.val (.int x0), .val (.int x1), .val (.int x2), .val (.int x3), .val (.int x4), .val (.int v1), .val (.int v4), .val (.int v7), .val (.int v10), .val (.int v13), .val (.ref b15), .val (.long v184), .second, .val (.long v200), .second, .val (.long v216), .second] [(.long (if (3 : Int32) < v1 then (own_up (if (2 : Int32) < v1 then (own_up (if (1 : Int32) < v1 then (own_up (if (0 : Int32) < v1 then (own_up (0 : Int64) v4 (1 : Int32)) else (0 : Int64)) v7 (1 : Int32)) else (if (0 : Int32) < v1 then (own_up (0 : Int64) v4 (1 : Int32)) else (0 : Int64))) v10 (1 : Int32)) else (if (1 : Int32) < v1 then (own_up (if (0 : Int32) < v1 then (own_up (0 : Int64) v4 (1 : Int32)) else (0 : Int64)) v7 (1 : Int32)) else (if (0 : Int32) < v1 then (own_up (0 : Int64) v4 (1 : Int32)) else (0 : Int64)))) v13 (1 : Int32)) else (if (2 : Int32) < v1 then (own_up (if (1 : Int32) < v1 then (own_up (if (0 : Int32) < v1 then (own_up (0 : Int64) v4 (1 : Int32)) else (0 : Int64)) v7 (1 : Int32)) else (if (0 : Int32) < v1 then (own_up (0 : Int64) v4 (1 : Int32)) else (0 : Int64))) v10 (1 : Int32)) else (if (1 : Int32) < v1 then (own_up (if (0 : Int32) < v1 then (own_up (0 : Int64) v4 (1 : Int32)) else (0 : Int64)) v7 (1 : Int32)) else (if (0 : Int32) < v1 then (own_up (0 : Int64) v4 (1 : Int32)) else (0 : Int64))))))])) := pre223.trans st224
  have st225 : Steps p.tables e below (T224.setTop (mkF m 343 #[.val (.int x0), .val (.int x1), .val (.int x2), .val (.int x3), .val (.int x4), .val (.int v1), .val (.int v4), .val (.int v7), .val (.int v10), .val (.int v13), .val (.ref b15), .val (.long v184), .second, .val (.long v200), .second, .val (.long v216), .second] [(.long (if (3 : Int32) < v1 then (own_up (if (2 : Int32) < v1 then (own_up (if (1 : Int32) < v1 then (own_up (if (0 : Int32) < v1 then (own_up (0 : Int64) v4 (1 : Int32)) else (0 : Int64)) v7 (1 : Int32)) else (if (0 : Int32) < v1 then (own_up (0 : Int64) v4 (1 : Int32)) else (0 : Int64))) v10 (1 : Int32)) else (if (1 : Int32) < v1 then (own_up (if (0 : Int32) < v1 then (own_up (0 : Int64) v4 (1 : Int32)) else (0 : Int64)) v7 (1 : Int32)) else (if (0 : Int32) < v1 then (own_up (0 : Int64) v4 (1 : Int32)) else (0 : Int64)))) v13 (1 : Int32)) else (if (2 : Int32) < v1 then (own_up (if (1 : Int32) < v1 then (own_up (if (0 : Int32) < v1 then (own_up (0 : Int64) v4 (1 : Int32)) else (0 : Int64)) v7 (1 : Int32)) else (if (0 : Int32) < v1 then (own_up (0 : Int64) v4 (1 : Int32)) else (0 : Int64))) v10 (1 : Int32)) else (if (1 : Int32) < v1 then (own_up (if (0 : Int32) < v1 then (own_up (0 : Int64) v4 (1 : Int32)) else (0 : Int64)) v7 (1 : Int32)) else (if (0 : Int32) < v1 then (own_up (0 : Int64) v4 (1 : Int32)) else (0 : Int64))))))])) (T224.setTop (mkF m 346 #[.val (.int x0), .val (.int x1), .val (.int x2), .val (.int x3), .val (.int x4), .val (.int v1), .val (.int v4), .val (.int v7), .val (.int v10), .val (.int v13), .val (.ref b15), .val (.long v184), .second, .val (.long v200), .second, .val (.long v216), .second] [(.int (lcmpW (if (3 : Int32) < v1 then (own_up (if (2 : Int32) < v1 then (own_up (if (1 : Int32) < v1 then (own_up (if (0 : Int32) < v1 then (own_up (0 : Int64) v4 (1 : Int32)) else (0 : Int64)) v7 (1 : Int32)) else (if (0 : Int32) < v1 then (own_up (0 : Int64) v4 (1 : Int32)) else (0 : Int64))) v10 (1 : Int32)) else (if (1 : Int32) < v1 then (own_up (if (0 : Int32) < v1 then (own_up (0 : Int64) v4 (1 : Int32)) else (0 : Int64)) v7 (1 : Int32)) else (if (0 : Int32) < v1 then (own_up (0 : Int64) v4 (1 : Int32)) else (0 : Int64)))) v13 (1 : Int32)) else (if (2 : Int32) < v1 then (own_up (if (1 : Int32) < v1 then (own_up (if (0 : Int32) < v1 then (own_up (0 : Int64) v4 (1 : Int32)) else (0 : Int64)) v7 (1 : Int32)) else (if (0 : Int32) < v1 then (own_up (0 : Int64) v4 (1 : Int32)) else (0 : Int64))) v10 (1 : Int32)) else (if (1 : Int32) < v1 then (own_up (if (0 : Int32) < v1 then (own_up (0 : Int64) v4 (1 : Int32)) else (0 : Int64)) v7 (1 : Int32)) else (if (0 : Int32) < v1 then (own_up (0 : Int64) v4 (1 : Int32)) else (0 : Int64))))) v200))])) := by
    refine XS.lload X224.here hx rfl (hb hby at_343) rfl ?_
    show Steps p.tables e below (T224.setTop (mkF m 345 #[.val (.int x0), .val (.int x1), .val (.int x2), .val (.int x3), .val (.int x4), .val (.int v1), .val (.int v4), .val (.int v7), .val (.int v10), .val (.int v13), .val (.ref b15), .val (.long v184), .second, .val (.long v200), .second, .val (.long v216), .second] [(.long v200), (.long (if (3 : Int32) < v1 then (own_up (if (2 : Int32) < v1 then (own_up (if (1 : Int32) < v1 then (own_up (if (0 : Int32) < v1 then (own_up (0 : Int64) v4 (1 : Int32)) else (0 : Int64)) v7 (1 : Int32)) else (if (0 : Int32) < v1 then (own_up (0 : Int64) v4 (1 : Int32)) else (0 : Int64))) v10 (1 : Int32)) else (if (1 : Int32) < v1 then (own_up (if (0 : Int32) < v1 then (own_up (0 : Int64) v4 (1 : Int32)) else (0 : Int64)) v7 (1 : Int32)) else (if (0 : Int32) < v1 then (own_up (0 : Int64) v4 (1 : Int32)) else (0 : Int64)))) v13 (1 : Int32)) else (if (2 : Int32) < v1 then (own_up (if (1 : Int32) < v1 then (own_up (if (0 : Int32) < v1 then (own_up (0 : Int64) v4 (1 : Int32)) else (0 : Int64)) v7 (1 : Int32)) else (if (0 : Int32) < v1 then (own_up (0 : Int64) v4 (1 : Int32)) else (0 : Int64))) v10 (1 : Int32)) else (if (1 : Int32) < v1 then (own_up (if (0 : Int32) < v1 then (own_up (0 : Int64) v4 (1 : Int32)) else (0 : Int64)) v7 (1 : Int32)) else (if (0 : Int32) < v1 then (own_up (0 : Int64) v4 (1 : Int32)) else (0 : Int64))))))])) _
    refine XS.lcmp X224.here hx rfl (hb hby at_345) rfl ?_
    show Steps p.tables e below (T224.setTop (mkF m 346 #[.val (.int x0), .val (.int x1), .val (.int x2), .val (.int x3), .val (.int x4), .val (.int v1), .val (.int v4), .val (.int v7), .val (.int v10), .val (.int v13), .val (.ref b15), .val (.long v184), .second, .val (.long v200), .second, .val (.long v216), .second] [(.int (lcmpW (if (3 : Int32) < v1 then (own_up (if (2 : Int32) < v1 then (own_up (if (1 : Int32) < v1 then (own_up (if (0 : Int32) < v1 then (own_up (0 : Int64) v4 (1 : Int32)) else (0 : Int64)) v7 (1 : Int32)) else (if (0 : Int32) < v1 then (own_up (0 : Int64) v4 (1 : Int32)) else (0 : Int64))) v10 (1 : Int32)) else (if (1 : Int32) < v1 then (own_up (if (0 : Int32) < v1 then (own_up (0 : Int64) v4 (1 : Int32)) else (0 : Int64)) v7 (1 : Int32)) else (if (0 : Int32) < v1 then (own_up (0 : Int64) v4 (1 : Int32)) else (0 : Int64)))) v13 (1 : Int32)) else (if (2 : Int32) < v1 then (own_up (if (1 : Int32) < v1 then (own_up (if (0 : Int32) < v1 then (own_up (0 : Int64) v4 (1 : Int32)) else (0 : Int64)) v7 (1 : Int32)) else (if (0 : Int32) < v1 then (own_up (0 : Int64) v4 (1 : Int32)) else (0 : Int64))) v10 (1 : Int32)) else (if (1 : Int32) < v1 then (own_up (if (0 : Int32) < v1 then (own_up (0 : Int64) v4 (1 : Int32)) else (0 : Int64)) v7 (1 : Int32)) else (if (0 : Int32) < v1 then (own_up (0 : Int64) v4 (1 : Int32)) else (0 : Int64))))) v200))])) _
    exact Steps.refl _
  have pre225 := pre224.trans st225
  have hc346 : (if (3 : Int32) < v1 then (own_up (if (2 : Int32) < v1 then (own_up (if (1 : Int32) < v1 then (own_up (if (0 : Int32) < v1 then (own_up (0 : Int64) v4 (1 : Int32)) else (0 : Int64)) v7 (1 : Int32)) else (if (0 : Int32) < v1 then (own_up (0 : Int64) v4 (1 : Int32)) else (0 : Int64))) v10 (1 : Int32)) else (if (1 : Int32) < v1 then (own_up (if (0 : Int32) < v1 then (own_up (0 : Int64) v4 (1 : Int32)) else (0 : Int64)) v7 (1 : Int32)) else (if (0 : Int32) < v1 then (own_up (0 : Int64) v4 (1 : Int32)) else (0 : Int64)))) v13 (1 : Int32)) else (if (2 : Int32) < v1 then (own_up (if (1 : Int32) < v1 then (own_up (if (0 : Int32) < v1 then (own_up (0 : Int64) v4 (1 : Int32)) else (0 : Int64)) v7 (1 : Int32)) else (if (0 : Int32) < v1 then (own_up (0 : Int64) v4 (1 : Int32)) else (0 : Int64))) v10 (1 : Int32)) else (if (1 : Int32) < v1 then (own_up (if (0 : Int32) < v1 then (own_up (0 : Int64) v4 (1 : Int32)) else (0 : Int64)) v7 (1 : Int32)) else (if (0 : Int32) < v1 then (own_up (0 : Int64) v4 (1 : Int32)) else (0 : Int64))))) = v200 := by
    simp only [hv200, hv196, hv192, hv188, hv185, hv189, hv193, hv197]
    simp only [own_st, Int64.zero_add]
  have st226 : Steps p.tables e below (T224.setTop (mkF m 346 #[.val (.int x0), .val (.int x1), .val (.int x2), .val (.int x3), .val (.int x4), .val (.int v1), .val (.int v4), .val (.int v7), .val (.int v10), .val (.int v13), .val (.ref b15), .val (.long v184), .second, .val (.long v200), .second, .val (.long v216), .second] [(.int (lcmpW (if (3 : Int32) < v1 then (own_up (if (2 : Int32) < v1 then (own_up (if (1 : Int32) < v1 then (own_up (if (0 : Int32) < v1 then (own_up (0 : Int64) v4 (1 : Int32)) else (0 : Int64)) v7 (1 : Int32)) else (if (0 : Int32) < v1 then (own_up (0 : Int64) v4 (1 : Int32)) else (0 : Int64))) v10 (1 : Int32)) else (if (1 : Int32) < v1 then (own_up (if (0 : Int32) < v1 then (own_up (0 : Int64) v4 (1 : Int32)) else (0 : Int64)) v7 (1 : Int32)) else (if (0 : Int32) < v1 then (own_up (0 : Int64) v4 (1 : Int32)) else (0 : Int64)))) v13 (1 : Int32)) else (if (2 : Int32) < v1 then (own_up (if (1 : Int32) < v1 then (own_up (if (0 : Int32) < v1 then (own_up (0 : Int64) v4 (1 : Int32)) else (0 : Int64)) v7 (1 : Int32)) else (if (0 : Int32) < v1 then (own_up (0 : Int64) v4 (1 : Int32)) else (0 : Int64))) v10 (1 : Int32)) else (if (1 : Int32) < v1 then (own_up (if (0 : Int32) < v1 then (own_up (0 : Int64) v4 (1 : Int32)) else (0 : Int64)) v7 (1 : Int32)) else (if (0 : Int32) < v1 then (own_up (0 : Int64) v4 (1 : Int32)) else (0 : Int64))))) v200))])) (T224.setTop (mkF m 349 #[.val (.int x0), .val (.int x1), .val (.int x2), .val (.int x3), .val (.int x4), .val (.int v1), .val (.int v4), .val (.int v7), .val (.int v10), .val (.int v13), .val (.ref b15), .val (.long v184), .second, .val (.long v200), .second, .val (.long v216), .second] [])) := by
    refine XS.ifNo X224.here hx rfl (hb hby at_346) rfl ((if0 _ _).trans (teq ((lw_eq (if (3 : Int32) < v1 then (own_up (if (2 : Int32) < v1 then (own_up (if (1 : Int32) < v1 then (own_up (if (0 : Int32) < v1 then (own_up (0 : Int64) v4 (1 : Int32)) else (0 : Int64)) v7 (1 : Int32)) else (if (0 : Int32) < v1 then (own_up (0 : Int64) v4 (1 : Int32)) else (0 : Int64))) v10 (1 : Int32)) else (if (1 : Int32) < v1 then (own_up (if (0 : Int32) < v1 then (own_up (0 : Int64) v4 (1 : Int32)) else (0 : Int64)) v7 (1 : Int32)) else (if (0 : Int32) < v1 then (own_up (0 : Int64) v4 (1 : Int32)) else (0 : Int64)))) v13 (1 : Int32)) else (if (2 : Int32) < v1 then (own_up (if (1 : Int32) < v1 then (own_up (if (0 : Int32) < v1 then (own_up (0 : Int64) v4 (1 : Int32)) else (0 : Int64)) v7 (1 : Int32)) else (if (0 : Int32) < v1 then (own_up (0 : Int64) v4 (1 : Int32)) else (0 : Int64))) v10 (1 : Int32)) else (if (1 : Int32) < v1 then (own_up (if (0 : Int32) < v1 then (own_up (0 : Int64) v4 (1 : Int32)) else (0 : Int64)) v7 (1 : Int32)) else (if (0 : Int32) < v1 then (own_up (0 : Int64) v4 (1 : Int32)) else (0 : Int64))))) v200).mpr hc346)).2) ?_
    exact Steps.refl _
  have pre226 := pre225.trans st226
  have st227 : Steps p.tables e below (T224.setTop (mkF m 349 #[.val (.int x0), .val (.int x1), .val (.int x2), .val (.int x3), .val (.int x4), .val (.int v1), .val (.int v4), .val (.int v7), .val (.int v10), .val (.int v13), .val (.ref b15), .val (.long v184), .second, .val (.long v200), .second, .val (.long v216), .second] [])) (T224.setTop (mkF m 351 #[.val (.int x0), .val (.int x1), .val (.int x2), .val (.int x3), .val (.int x4), .val (.int v1), .val (.int v4), .val (.int v7), .val (.int v10), .val (.int v13), .val (.ref b15), .val (.long v184), .second, .val (.long v200), .second, .val (.long v216), .second] [(.ref b15)])) := by
    refine XS.aload X224.here hx rfl (hb hby at_349) rfl rfl ?_
    show Steps p.tables e below (T224.setTop (mkF m 351 #[.val (.int x0), .val (.int x1), .val (.int x2), .val (.int x3), .val (.int x4), .val (.int v1), .val (.int v4), .val (.int v7), .val (.int v10), .val (.int v13), .val (.ref b15), .val (.long v184), .second, .val (.long v200), .second, .val (.long v216), .second] [(.ref b15)])) _
    exact Steps.refl _
  have pre227 := pre226.trans st227
  obtain ⟨T228, X228, e228, st228⟩ := getS2 X224 hx hZ hown (host := "") (Or.inl (hw _ (List.mem_of_getElem? (i := 55) rfl))) Via.refl e224 (S_B.ext O168.2) (g := (mkF m 351 #[.val (.int x0), .val (.int x1), .val (.int x2), .val (.int x3), .val (.int x4), .val (.int v1), .val (.int v4), .val (.int v7), .val (.int v10), .val (.int v13), .val (.ref b15), .val (.long v184), .second, .val (.long v200), .second, .val (.long v216), .second] [(.ref b15)])) rfl (hb hby at_351)
  have pre228 : Steps p.tables e below (s₁.setTop (entryFrame m #[(.int x0), (.int x1), (.int x2), (.int x3), (.int x4)] maxLocals)) (T228.setTop (mkF m 354 #[.val (.int x0), .val (.int x1), .val (.int x2), .val (.int x3), .val (.int x4), .val (.int v1), .val (.int v4), .val (.int v7), .val (.int v10), .val (.int v13), .val (.ref b15), .val (.long v184), .second, .val (.long v200), .second, .val (.long v216), .second] [(.ref aB), (.ref b15)])) := pre227.trans (st228 _ (Steps.refl _))
  obtain ⟨cq229, kq229, q229a, q229b, q229c⟩ := isOf hZ e228 J168_8
  obtain ⟨_, _, ⟨T229, L229, k229, n229⟩, -, X229, ⟨Lc229, hQ229, l229, y229, z229⟩, st229⟩ := X228.virtualBack hx (y := (⟨"com/example/evident_ledger/evidentledger/ExecutorVerdict$Tally", "of", "(Lcom/example/evident_ledger/evidentledger/ExecutorVerdict;)J"⟩ : MethodName)) (z := (⟨"com/example/evident_ledger/evidentledger/ExecutorVerdict$Tally", "of", "(Lcom/example/evident_ledger/evidentledger/ExecutorVerdict;)J"⟩ : MethodName)) hown (mvT hZ (hw _ (List.mem_of_getElem? (i := 40) rfl))) (mvT hZ (hw _ (List.mem_of_getElem? (i := 41) rfl))) (notFace_of_selects (args := #[]) (mvT hZ (hw _ (List.mem_of_getElem? (i := 43) rfl)))) (mvT hZ (hw _ (List.mem_of_getElem? (i := 43) rfl))) (mvT hZ (hw _ (List.mem_of_getElem? (i := 42) rfl))) (by decide) (backOf (W := 0) (rm6c l Z a0 hw [] b15 aB ar_26 kk_26 (if (3 : Int32) < v1 then (own_up (if (2 : Int32) < v1 then (own_up (if (1 : Int32) < v1 then (own_up (if (0 : Int32) < v1 then (own_up (0 : Int64) v4 (0 : Int32)) else (0 : Int64)) v7 (0 : Int32)) else (if (0 : Int32) < v1 then (own_up (0 : Int64) v4 (0 : Int32)) else (0 : Int64))) v10 (0 : Int32)) else (if (1 : Int32) < v1 then (own_up (if (0 : Int32) < v1 then (own_up (0 : Int64) v4 (0 : Int32)) else (0 : Int64)) v7 (0 : Int32)) else (if (0 : Int32) < v1 then (own_up (0 : Int64) v4 (0 : Int32)) else (0 : Int64)))) v13 (0 : Int32)) else (if (2 : Int32) < v1 then (own_up (if (1 : Int32) < v1 then (own_up (if (0 : Int32) < v1 then (own_up (0 : Int64) v4 (0 : Int32)) else (0 : Int64)) v7 (0 : Int32)) else (if (0 : Int32) < v1 then (own_up (0 : Int64) v4 (0 : Int32)) else (0 : Int64))) v10 (0 : Int32)) else (if (1 : Int32) < v1 then (own_up (if (0 : Int32) < v1 then (own_up (0 : Int64) v4 (0 : Int32)) else (0 : Int64)) v7 (0 : Int32)) else (if (0 : Int32) < v1 then (own_up (0 : Int64) v4 (0 : Int32)) else (0 : Int64))))) (if (3 : Int32) < v1 then (own_up (if (2 : Int32) < v1 then (own_up (if (1 : Int32) < v1 then (own_up (if (0 : Int32) < v1 then (own_up (0 : Int64) v4 (1 : Int32)) else (0 : Int64)) v7 (1 : Int32)) else (if (0 : Int32) < v1 then (own_up (0 : Int64) v4 (1 : Int32)) else (0 : Int64))) v10 (1 : Int32)) else (if (1 : Int32) < v1 then (own_up (if (0 : Int32) < v1 then (own_up (0 : Int64) v4 (1 : Int32)) else (0 : Int64)) v7 (1 : Int32)) else (if (0 : Int32) < v1 then (own_up (0 : Int64) v4 (1 : Int32)) else (0 : Int64)))) v13 (1 : Int32)) else (if (2 : Int32) < v1 then (own_up (if (1 : Int32) < v1 then (own_up (if (0 : Int32) < v1 then (own_up (0 : Int64) v4 (1 : Int32)) else (0 : Int64)) v7 (1 : Int32)) else (if (0 : Int32) < v1 then (own_up (0 : Int64) v4 (1 : Int32)) else (0 : Int64))) v10 (1 : Int32)) else (if (1 : Int32) < v1 then (own_up (if (0 : Int32) < v1 then (own_up (0 : Int64) v4 (1 : Int32)) else (0 : Int64)) v7 (1 : Int32)) else (if (0 : Int32) < v1 then (own_up (0 : Int64) v4 (1 : Int32)) else (0 : Int64))))) (if (3 : Int32) < v1 then (own_up (if (2 : Int32) < v1 then (own_up (if (1 : Int32) < v1 then (own_up (if (0 : Int32) < v1 then (own_up (0 : Int64) v4 (2 : Int32)) else (0 : Int64)) v7 (2 : Int32)) else (if (0 : Int32) < v1 then (own_up (0 : Int64) v4 (2 : Int32)) else (0 : Int64))) v10 (2 : Int32)) else (if (1 : Int32) < v1 then (own_up (if (0 : Int32) < v1 then (own_up (0 : Int64) v4 (2 : Int32)) else (0 : Int64)) v7 (2 : Int32)) else (if (0 : Int32) < v1 then (own_up (0 : Int64) v4 (2 : Int32)) else (0 : Int64)))) v13 (2 : Int32)) else (if (2 : Int32) < v1 then (own_up (if (1 : Int32) < v1 then (own_up (if (0 : Int32) < v1 then (own_up (0 : Int64) v4 (2 : Int32)) else (0 : Int64)) v7 (2 : Int32)) else (if (0 : Int32) < v1 then (own_up (0 : Int64) v4 (2 : Int32)) else (0 : Int64))) v10 (2 : Int32)) else (if (1 : Int32) < v1 then (own_up (if (0 : Int32) < v1 then (own_up (0 : Int64) v4 (2 : Int32)) else (0 : Int64)) v7 (2 : Int32)) else (if (0 : Int32) < v1 then (own_up (0 : Int64) v4 (2 : Int32)) else (0 : Int64))))) h168 n0 Z168 J168_10 J168_11 J168_3 J168_6) hZ (hw _ (List.mem_of_getElem? (i := 44) rfl)) (hw _ (List.mem_of_getElem? (i := 7) rfl)) (by decide) (by decide)) q229a q229c (g := (mkF m 354 #[.val (.int x0), .val (.int x1), .val (.int x2), .val (.int x3), .val (.int x4), .val (.int v1), .val (.int v4), .val (.int v7), .val (.int v10), .val (.int v13), .val (.ref b15), .val (.long v184), .second, .val (.long v200), .second, .val (.long v216), .second] [(.ref aB), (.ref b15)])) rfl (by rw [hml]; rfl) (Steps.refl _) (argsL := [(.ref aB)]) (rest := []) (lenOf pd0_5 rfl) rfl (by show 2 * 0 + _ ≤ _; exact Nat.le_of_eq rfl) (hb hby at_354) (fun _ _ => ⟨rfl, e228, (by decide : 3 + 0 ≤ _), (by decide : 7 + 0 ≤ _)⟩)
  dsimp only [Pt.U, Pt.locs, Pt.cells, Pt.slots] at X229 l229 y229 z229 st229 hQ229
  subst l229 y229 z229
  obtain ⟨rfl, Nq229, e229⟩ := hQ229
  have N229 := Fr.app N224 Nq229
  have pre229 : Steps p.tables e below (s₁.setTop (entryFrame m #[(.int x0), (.int x1), (.int x2), (.int x3), (.int x4)] maxLocals)) (T229.setTop (mkF m 357 #[.val (.int x0), .val (.int x1), .val (.int x2), .val (.int x3), .val (.int x4), .val (.int v1), .val (.int v4), .val (.int v7), .val (.int v10), .val (.int v13), .val (.ref b15), .val (.long v184), .second, .val (.long v200), .second, .val (.long v216), .second] [(.long (if (3 : Int32) < v1 then (own_up (if (2 : Int32) < v1 then (own_up (if (1 : Int32) < v1 then (own_up (if (0 : Int32) < v1 then (own_up (0 : Int64) v4 (2 : Int32)) else (0 : Int64)) v7 (2 : Int32)) else (if (0 : Int32) < v1 then (own_up (0 : Int64) v4 (2 : Int32)) else (0 : Int64))) v10 (2 : Int32)) else (if (1 : Int32) < v1 then (own_up (if (0 : Int32) < v1 then (own_up (0 : Int64) v4 (2 : Int32)) else (0 : Int64)) v7 (2 : Int32)) else (if (0 : Int32) < v1 then (own_up (0 : Int64) v4 (2 : Int32)) else (0 : Int64)))) v13 (2 : Int32)) else (if (2 : Int32) < v1 then (own_up (if (1 : Int32) < v1 then (own_up (if (0 : Int32) < v1 then (own_up (0 : Int64) v4 (2 : Int32)) else (0 : Int64)) v7 (2 : Int32)) else (if (0 : Int32) < v1 then (own_up (0 : Int64) v4 (2 : Int32)) else (0 : Int64))) v10 (2 : Int32)) else (if (1 : Int32) < v1 then (own_up (if (0 : Int32) < v1 then (own_up (0 : Int64) v4 (2 : Int32)) else (0 : Int64)) v7 (2 : Int32)) else (if (0 : Int32) < v1 then (own_up (0 : Int64) v4 (2 : Int32)) else (0 : Int64))))))])) := pre228.trans st229
  have st230 : Steps p.tables e below (T229.setTop (mkF m 357 #[.val (.int x0), .val (.int x1), .val (.int x2), .val (.int x3), .val (.int x4), .val (.int v1), .val (.int v4), .val (.int v7), .val (.int v10), .val (.int v13), .val (.ref b15), .val (.long v184), .second, .val (.long v200), .second, .val (.long v216), .second] [(.long (if (3 : Int32) < v1 then (own_up (if (2 : Int32) < v1 then (own_up (if (1 : Int32) < v1 then (own_up (if (0 : Int32) < v1 then (own_up (0 : Int64) v4 (2 : Int32)) else (0 : Int64)) v7 (2 : Int32)) else (if (0 : Int32) < v1 then (own_up (0 : Int64) v4 (2 : Int32)) else (0 : Int64))) v10 (2 : Int32)) else (if (1 : Int32) < v1 then (own_up (if (0 : Int32) < v1 then (own_up (0 : Int64) v4 (2 : Int32)) else (0 : Int64)) v7 (2 : Int32)) else (if (0 : Int32) < v1 then (own_up (0 : Int64) v4 (2 : Int32)) else (0 : Int64)))) v13 (2 : Int32)) else (if (2 : Int32) < v1 then (own_up (if (1 : Int32) < v1 then (own_up (if (0 : Int32) < v1 then (own_up (0 : Int64) v4 (2 : Int32)) else (0 : Int64)) v7 (2 : Int32)) else (if (0 : Int32) < v1 then (own_up (0 : Int64) v4 (2 : Int32)) else (0 : Int64))) v10 (2 : Int32)) else (if (1 : Int32) < v1 then (own_up (if (0 : Int32) < v1 then (own_up (0 : Int64) v4 (2 : Int32)) else (0 : Int64)) v7 (2 : Int32)) else (if (0 : Int32) < v1 then (own_up (0 : Int64) v4 (2 : Int32)) else (0 : Int64))))))])) (T229.setTop (mkF m 360 #[.val (.int x0), .val (.int x1), .val (.int x2), .val (.int x3), .val (.int x4), .val (.int v1), .val (.int v4), .val (.int v7), .val (.int v10), .val (.int v13), .val (.ref b15), .val (.long v184), .second, .val (.long v200), .second, .val (.long v216), .second] [(.int (lcmpW (if (3 : Int32) < v1 then (own_up (if (2 : Int32) < v1 then (own_up (if (1 : Int32) < v1 then (own_up (if (0 : Int32) < v1 then (own_up (0 : Int64) v4 (2 : Int32)) else (0 : Int64)) v7 (2 : Int32)) else (if (0 : Int32) < v1 then (own_up (0 : Int64) v4 (2 : Int32)) else (0 : Int64))) v10 (2 : Int32)) else (if (1 : Int32) < v1 then (own_up (if (0 : Int32) < v1 then (own_up (0 : Int64) v4 (2 : Int32)) else (0 : Int64)) v7 (2 : Int32)) else (if (0 : Int32) < v1 then (own_up (0 : Int64) v4 (2 : Int32)) else (0 : Int64)))) v13 (2 : Int32)) else (if (2 : Int32) < v1 then (own_up (if (1 : Int32) < v1 then (own_up (if (0 : Int32) < v1 then (own_up (0 : Int64) v4 (2 : Int32)) else (0 : Int64)) v7 (2 : Int32)) else (if (0 : Int32) < v1 then (own_up (0 : Int64) v4 (2 : Int32)) else (0 : Int64))) v10 (2 : Int32)) else (if (1 : Int32) < v1 then (own_up (if (0 : Int32) < v1 then (own_up (0 : Int64) v4 (2 : Int32)) else (0 : Int64)) v7 (2 : Int32)) else (if (0 : Int32) < v1 then (own_up (0 : Int64) v4 (2 : Int32)) else (0 : Int64))))) v216))])) := by
    refine XS.lload X229.here hx rfl (hb hby at_357) rfl ?_
    show Steps p.tables e below (T229.setTop (mkF m 359 #[.val (.int x0), .val (.int x1), .val (.int x2), .val (.int x3), .val (.int x4), .val (.int v1), .val (.int v4), .val (.int v7), .val (.int v10), .val (.int v13), .val (.ref b15), .val (.long v184), .second, .val (.long v200), .second, .val (.long v216), .second] [(.long v216), (.long (if (3 : Int32) < v1 then (own_up (if (2 : Int32) < v1 then (own_up (if (1 : Int32) < v1 then (own_up (if (0 : Int32) < v1 then (own_up (0 : Int64) v4 (2 : Int32)) else (0 : Int64)) v7 (2 : Int32)) else (if (0 : Int32) < v1 then (own_up (0 : Int64) v4 (2 : Int32)) else (0 : Int64))) v10 (2 : Int32)) else (if (1 : Int32) < v1 then (own_up (if (0 : Int32) < v1 then (own_up (0 : Int64) v4 (2 : Int32)) else (0 : Int64)) v7 (2 : Int32)) else (if (0 : Int32) < v1 then (own_up (0 : Int64) v4 (2 : Int32)) else (0 : Int64)))) v13 (2 : Int32)) else (if (2 : Int32) < v1 then (own_up (if (1 : Int32) < v1 then (own_up (if (0 : Int32) < v1 then (own_up (0 : Int64) v4 (2 : Int32)) else (0 : Int64)) v7 (2 : Int32)) else (if (0 : Int32) < v1 then (own_up (0 : Int64) v4 (2 : Int32)) else (0 : Int64))) v10 (2 : Int32)) else (if (1 : Int32) < v1 then (own_up (if (0 : Int32) < v1 then (own_up (0 : Int64) v4 (2 : Int32)) else (0 : Int64)) v7 (2 : Int32)) else (if (0 : Int32) < v1 then (own_up (0 : Int64) v4 (2 : Int32)) else (0 : Int64))))))])) _
    refine XS.lcmp X229.here hx rfl (hb hby at_359) rfl ?_
    show Steps p.tables e below (T229.setTop (mkF m 360 #[.val (.int x0), .val (.int x1), .val (.int x2), .val (.int x3), .val (.int x4), .val (.int v1), .val (.int v4), .val (.int v7), .val (.int v10), .val (.int v13), .val (.ref b15), .val (.long v184), .second, .val (.long v200), .second, .val (.long v216), .second] [(.int (lcmpW (if (3 : Int32) < v1 then (own_up (if (2 : Int32) < v1 then (own_up (if (1 : Int32) < v1 then (own_up (if (0 : Int32) < v1 then (own_up (0 : Int64) v4 (2 : Int32)) else (0 : Int64)) v7 (2 : Int32)) else (if (0 : Int32) < v1 then (own_up (0 : Int64) v4 (2 : Int32)) else (0 : Int64))) v10 (2 : Int32)) else (if (1 : Int32) < v1 then (own_up (if (0 : Int32) < v1 then (own_up (0 : Int64) v4 (2 : Int32)) else (0 : Int64)) v7 (2 : Int32)) else (if (0 : Int32) < v1 then (own_up (0 : Int64) v4 (2 : Int32)) else (0 : Int64)))) v13 (2 : Int32)) else (if (2 : Int32) < v1 then (own_up (if (1 : Int32) < v1 then (own_up (if (0 : Int32) < v1 then (own_up (0 : Int64) v4 (2 : Int32)) else (0 : Int64)) v7 (2 : Int32)) else (if (0 : Int32) < v1 then (own_up (0 : Int64) v4 (2 : Int32)) else (0 : Int64))) v10 (2 : Int32)) else (if (1 : Int32) < v1 then (own_up (if (0 : Int32) < v1 then (own_up (0 : Int64) v4 (2 : Int32)) else (0 : Int64)) v7 (2 : Int32)) else (if (0 : Int32) < v1 then (own_up (0 : Int64) v4 (2 : Int32)) else (0 : Int64))))) v216))])) _
    exact Steps.refl _
  have pre230 := pre229.trans st230
  have hc360 : (if (3 : Int32) < v1 then (own_up (if (2 : Int32) < v1 then (own_up (if (1 : Int32) < v1 then (own_up (if (0 : Int32) < v1 then (own_up (0 : Int64) v4 (2 : Int32)) else (0 : Int64)) v7 (2 : Int32)) else (if (0 : Int32) < v1 then (own_up (0 : Int64) v4 (2 : Int32)) else (0 : Int64))) v10 (2 : Int32)) else (if (1 : Int32) < v1 then (own_up (if (0 : Int32) < v1 then (own_up (0 : Int64) v4 (2 : Int32)) else (0 : Int64)) v7 (2 : Int32)) else (if (0 : Int32) < v1 then (own_up (0 : Int64) v4 (2 : Int32)) else (0 : Int64)))) v13 (2 : Int32)) else (if (2 : Int32) < v1 then (own_up (if (1 : Int32) < v1 then (own_up (if (0 : Int32) < v1 then (own_up (0 : Int64) v4 (2 : Int32)) else (0 : Int64)) v7 (2 : Int32)) else (if (0 : Int32) < v1 then (own_up (0 : Int64) v4 (2 : Int32)) else (0 : Int64))) v10 (2 : Int32)) else (if (1 : Int32) < v1 then (own_up (if (0 : Int32) < v1 then (own_up (0 : Int64) v4 (2 : Int32)) else (0 : Int64)) v7 (2 : Int32)) else (if (0 : Int32) < v1 then (own_up (0 : Int64) v4 (2 : Int32)) else (0 : Int64))))) = v216 := by
    simp only [hv216, hv212, hv208, hv204, hv201, hv205, hv209, hv213]
    simp only [own_st, Int64.zero_add]
  have st231 : Steps p.tables e below (T229.setTop (mkF m 360 #[.val (.int x0), .val (.int x1), .val (.int x2), .val (.int x3), .val (.int x4), .val (.int v1), .val (.int v4), .val (.int v7), .val (.int v10), .val (.int v13), .val (.ref b15), .val (.long v184), .second, .val (.long v200), .second, .val (.long v216), .second] [(.int (lcmpW (if (3 : Int32) < v1 then (own_up (if (2 : Int32) < v1 then (own_up (if (1 : Int32) < v1 then (own_up (if (0 : Int32) < v1 then (own_up (0 : Int64) v4 (2 : Int32)) else (0 : Int64)) v7 (2 : Int32)) else (if (0 : Int32) < v1 then (own_up (0 : Int64) v4 (2 : Int32)) else (0 : Int64))) v10 (2 : Int32)) else (if (1 : Int32) < v1 then (own_up (if (0 : Int32) < v1 then (own_up (0 : Int64) v4 (2 : Int32)) else (0 : Int64)) v7 (2 : Int32)) else (if (0 : Int32) < v1 then (own_up (0 : Int64) v4 (2 : Int32)) else (0 : Int64)))) v13 (2 : Int32)) else (if (2 : Int32) < v1 then (own_up (if (1 : Int32) < v1 then (own_up (if (0 : Int32) < v1 then (own_up (0 : Int64) v4 (2 : Int32)) else (0 : Int64)) v7 (2 : Int32)) else (if (0 : Int32) < v1 then (own_up (0 : Int64) v4 (2 : Int32)) else (0 : Int64))) v10 (2 : Int32)) else (if (1 : Int32) < v1 then (own_up (if (0 : Int32) < v1 then (own_up (0 : Int64) v4 (2 : Int32)) else (0 : Int64)) v7 (2 : Int32)) else (if (0 : Int32) < v1 then (own_up (0 : Int64) v4 (2 : Int32)) else (0 : Int64))))) v216))])) (T229.setTop (mkF m 363 #[.val (.int x0), .val (.int x1), .val (.int x2), .val (.int x3), .val (.int x4), .val (.int v1), .val (.int v4), .val (.int v7), .val (.int v10), .val (.int v13), .val (.ref b15), .val (.long v184), .second, .val (.long v200), .second, .val (.long v216), .second] [])) := by
    refine XS.ifNo X229.here hx rfl (hb hby at_360) rfl ((if0 _ _).trans (teq ((lw_eq (if (3 : Int32) < v1 then (own_up (if (2 : Int32) < v1 then (own_up (if (1 : Int32) < v1 then (own_up (if (0 : Int32) < v1 then (own_up (0 : Int64) v4 (2 : Int32)) else (0 : Int64)) v7 (2 : Int32)) else (if (0 : Int32) < v1 then (own_up (0 : Int64) v4 (2 : Int32)) else (0 : Int64))) v10 (2 : Int32)) else (if (1 : Int32) < v1 then (own_up (if (0 : Int32) < v1 then (own_up (0 : Int64) v4 (2 : Int32)) else (0 : Int64)) v7 (2 : Int32)) else (if (0 : Int32) < v1 then (own_up (0 : Int64) v4 (2 : Int32)) else (0 : Int64)))) v13 (2 : Int32)) else (if (2 : Int32) < v1 then (own_up (if (1 : Int32) < v1 then (own_up (if (0 : Int32) < v1 then (own_up (0 : Int64) v4 (2 : Int32)) else (0 : Int64)) v7 (2 : Int32)) else (if (0 : Int32) < v1 then (own_up (0 : Int64) v4 (2 : Int32)) else (0 : Int64))) v10 (2 : Int32)) else (if (1 : Int32) < v1 then (own_up (if (0 : Int32) < v1 then (own_up (0 : Int64) v4 (2 : Int32)) else (0 : Int64)) v7 (2 : Int32)) else (if (0 : Int32) < v1 then (own_up (0 : Int64) v4 (2 : Int32)) else (0 : Int64))))) v216).mpr hc360)).2) ?_
    exact Steps.refl _
  have pre231 := pre230.trans st231
  have st232 : Steps p.tables e below (T229.setTop (mkF m 363 #[.val (.int x0), .val (.int x1), .val (.int x2), .val (.int x3), .val (.int x4), .val (.int v1), .val (.int v4), .val (.int v7), .val (.int v10), .val (.int v13), .val (.ref b15), .val (.long v184), .second, .val (.long v200), .second, .val (.long v216), .second] [])) (T229.setTop (mkF m 368 #[.val (.int x0), .val (.int x1), .val (.int x2), .val (.int x3), .val (.int x4), .val (.int v1), .val (.int v4), .val (.int v7), .val (.int v10), .val (.int v13), .val (.ref b15), .val (.long v184), .second, .val (.long v200), .second, .val (.long v216), .second] [(.int (1 : Int32))])) := by
    refine XS.iconst X229.here hx rfl (hb hby at_363) ?_
    show Steps p.tables e below (T229.setTop (mkF m 364 #[.val (.int x0), .val (.int x1), .val (.int x2), .val (.int x3), .val (.int x4), .val (.int v1), .val (.int v4), .val (.int v7), .val (.int v10), .val (.int v13), .val (.ref b15), .val (.long v184), .second, .val (.long v200), .second, .val (.long v216), .second] [(.int (1 : Int32))])) _
    refine XS.goto X229.here hx rfl (pc0 := 364) (pc' := 368) rfl (hb hby at_364) (by decide) (by decide) ?_
    show Steps p.tables e below (T229.setTop (mkF m 368 #[.val (.int x0), .val (.int x1), .val (.int x2), .val (.int x3), .val (.int x4), .val (.int v1), .val (.int v4), .val (.int v7), .val (.int v10), .val (.int v13), .val (.ref b15), .val (.long v184), .second, .val (.long v200), .second, .val (.long v216), .second] [(.int (1 : Int32))])) _
    exact Steps.refl _
  have pre232 := pre231.trans st232
  obtain ⟨fs, hr, hrun, hended, hW, hsame⟩ := X229.leave (v := some (.int (1 : Int32))) (fun h => by rw [Bd.returns] at h; cases h)
  refine ⟨_, _, pre232.trans ?_, hrun, hended, _, _, rfl, ?_, ⟨_, rfl⟩, hW, hsame.mono (by decide) (by decide)⟩
  · show Steps p.tables e below (T229.setTop (mkF m 368 #[.val (.int x0), .val (.int x1), .val (.int x2), .val (.int x3), .val (.int x4), .val (.int v1), .val (.int v4), .val (.int v7), .val (.int v10), .val (.int v13), .val (.ref b15), .val (.long v184), .second, .val (.long v200), .second, .val (.long v216), .second] [(.int (1 : Int32))])) _
    exact retN X229 hx (t := .boolean) Bd.returns (by simp) (hb hby at_368) hr
  · show Q0 Z x0 x1 x2 x3 x4 aV aA aU aB kV h0 n0 _ T229.heap _
    rw [e229]
    exact ⟨rfl, N229⟩
set_option maxRecDepth 65536 in
set_option maxHeartbeats 40000000 in
theorem comes_1 {Post : Tables → Env → Array Value → State → Outcome → State → Prop} (hpost : ∀ tb e args s v u, (limb_1_1.after args s (.returned v) u = true ∧ limb_1_2.after args s (.returned v) u = true ∧ True) → FrameEnd s (.returned v) u (Jvm.fieldLocs frame_1_writes args s ++ Jvm.arrayLocs frame_1_arrays args s ++ Jvm.staticLocs frame_1_statics s) 16 128 → Post tb e args s (.returned v) u) :
    ArmFor flags0 classFile x code maxLocals ret World_1 tables_1 room_1 Calls_1 rest_1 Pre_1 Post := by
  intro l hfl _ _ p e ha hc hk s m args below hf hA hF happ hP
  obtain ⟨hcalls, hrest, hpre⟩ := hP
  obtain ⟨-, -, -, hnamed, -, -, -, hat⟩ := (Spec.applies_iff hf).mp happ
  obtain ⟨hg, hn⟩ := and_e (Cond.before_iff.mp (show (Jvm.Cond.and given_1 narrow_1).before args s = true from hpre))
  obtain ⟨g1, g2⟩ := and_e hg
  obtain ⟨g3, g4⟩ := and_e g2
  obtain ⟨g5, g6⟩ := and_e g4
  obtain ⟨g7, g8⟩ := and_e g6
  obtain ⟨g9, g10⟩ := and_e g8
  obtain ⟨w0, w1, w2, w3, w4, rfl⟩ : ∃ w0 w1 w2 w3 w4 : Value, args = #[w0, w1, w2, w3, w4] := by
    have hs : args.size = 5 := by simpa [Cond.value, given_1] using g1
    obtain ⟨L⟩ := args
    match L, hs with
    | [w0, w1, w2, w3, w4], _ => exact ⟨w0, w1, w2, w3, w4, rfl⟩
  have hw := fun d (hd : d ∈ tables_1) => atoms_spec (ws := Jvm.Cond.code x code maxLocals ret :: tables_1) hat d (List.mem_cons_of_mem _ hd)
  obtain ⟨i0, ei0⟩ := is_v g3
  obtain rfl : w0 = (.int i0) := Option.some.inj ei0
  obtain ⟨i1, ei1⟩ := is_v g5
  obtain rfl : w1 = (.int i1) := Option.some.inj ei1
  obtain ⟨i2, ei2⟩ := is_v g7
  obtain rfl : w2 = (.int i2) := Option.some.inj ei2
  obtain ⟨i3, ei3⟩ := is_v g9
  obtain rfl : w3 = (.int i3) := Option.some.inj ei3
  obtain ⟨i4, ei4⟩ := is_v g10
  obtain rfl : w4 = (.int i4) := Option.some.inj ei4
  obtain ⟨nn0, nn1⟩ := and_e hn
  obtain ⟨nn2, nn3⟩ := and_e nn1
  obtain ⟨nn4, nn5⟩ := and_e nn3
  obtain ⟨nn6, nn7⟩ := and_e nn5
  obtain ⟨nn8, nn9⟩ := and_e nn7
  obtain ⟨nn10, nn11⟩ := and_e nn9
  obtain ⟨nn12, nn13⟩ := and_e nn11
  obtain ⟨nn14, nn15⟩ := and_e nn13
  obtain ⟨nn16, nn17⟩ := and_e nn15
  obtain ⟨nn18, nn19⟩ := and_e nn17
  obtain ⟨nn20, nn21⟩ := and_e nn19
  obtain ⟨aV, evV⟩ := exa_v nn2
  have ExV : Exa s s.heap aV "[Lcom/example/evident_ledger/evidentledger/ExecutorVerdict;" := Exa.start evV nn2
  have StV : Sta s s.heap "com/example/evident_ledger/evidentledger/ExecutorVerdict" "$VALUES" "[Lcom/example/evident_ledger/evidentledger/ExecutorVerdict;" (.ref aV) := Sta.start evV (Or.inl (hw _ (List.mem_of_getElem? (i := 30) rfl)))
  obtain ⟨aA, evA⟩ := exa_v nn6
  have ExA : Exa s s.heap aA "com/example/evident_ledger/evidentledger/ExecutorVerdict" := Exa.start evA nn6
  have StA : Sta s s.heap "com/example/evident_ledger/evidentledger/ExecutorVerdict" "ATTESTED" "Lcom/example/evident_ledger/evidentledger/ExecutorVerdict;" (.ref aA) := Sta.start evA (Or.inr ⟨(hw _ (List.mem_of_getElem? (i := 16) rfl)), (hw _ (List.mem_of_getElem? (i := 27) rfl))⟩)
  obtain ⟨aU, evU⟩ := exa_v nn10
  have ExU : Exa s s.heap aU "com/example/evident_ledger/evidentledger/ExecutorVerdict" := Exa.start evU nn10
  have StU : Sta s s.heap "com/example/evident_ledger/evidentledger/ExecutorVerdict" "UNATTESTED" "Lcom/example/evident_ledger/evidentledger/ExecutorVerdict;" (.ref aU) := Sta.start evU (Or.inr ⟨(hw _ (List.mem_of_getElem? (i := 16) rfl)), (hw _ (List.mem_of_getElem? (i := 28) rfl))⟩)
  obtain ⟨aB, evB⟩ := exa_v nn14
  have ExB : Exa s s.heap aB "com/example/evident_ledger/evidentledger/ExecutorVerdict" := Exa.start evB nn14
  have StB : Sta s s.heap "com/example/evident_ledger/evidentledger/ExecutorVerdict" "ABSENT" "Lcom/example/evident_ledger/evidentledger/ExecutorVerdict;" (.ref aB) := Sta.start evB (Or.inr ⟨(hw _ (List.mem_of_getElem? (i := 16) rfl)), (hw _ (List.mem_of_getElem? (i := 29) rfl))⟩)
  have FsA_ordinal : Fld s s.heap aA "java/lang/Enum" "ordinal" "I" (.int (0 : Int32)) := Fld.start ((fld_at evA).symm.trans (own_eqI nn18))
  have FsU_ordinal : Fld s s.heap aU "java/lang/Enum" "ordinal" "I" (.int (1 : Int32)) := Fld.start ((fld_at evU).symm.trans (own_eqI nn20))
  have FsB_ordinal : Fld s s.heap aB "java/lang/Enum" "ordinal" "I" (.int (2 : Int32)) := Fld.start ((fld_at evB).symm.trans (own_eqI nn21))
  have hfit : Fit s := fun {y c} hc i hi => by
    obtain ⟨ha, rfl⟩ := Array.getElem?_eq_some_iff.mp hc
    have q := List.all_eq_true.mp ((Array.all_eq_true_iff_forall_mem.mp hF) _ (Array.getElem_mem ha)) i (List.mem_range.mpr hi)
    simpa [Array.getElem?_eq_getElem hi] using q
  obtain ⟨kV, ArV⟩ := own_arr hfit evV evA evU evB nn0 nn4 nn8 nn12 nn16
  obtain ⟨n, o, h1, h2, h3, _, L, rfl, ⟨rfl, N⟩, hq⟩ := rm0 l s _ hw tables_1 i0 i1 i2 i3 i4 aV aA aU aB kV s.heap s.heap.size (Nat.le_refl _) (Old.start s) ExV ExA ExU ExB FsA_ordinal FsU_ordinal FsB_ordinal ArV StV StA StU StB p e ha hc hk s m _ below hf ((Spec.applies_iff_loose hf).mp happ).1 ⟨rfl, State.Warmed39.refl s, rfl⟩ trivial
  refine ⟨n, _, h1, h2, h3, hpost _ _ _ _ _ _ ⟨Cond.after_iff.mpr rfl, Cond.after_iff.mpr (eq_i res_at (Term.int_eval (1)) rfl), trivial⟩ ⟨hq.1, hq.2.1, (hq.2.2.sift fun y hy => Or.inr (N y hy)).mono (by decide) (by decide)⟩⟩
theorem main_1_1 : Claimed_1_1 := comes_1 fun _ _ _ _ _ _ h hF => ⟨h.1, hF⟩
theorem main_1_2 : Claimed_1_2 := comes_1 fun _ _ _ _ _ _ h hF => ⟨h.2.1, hF⟩
end Jvm.Pilot.@@N@@
namespace Jvm.Pilot.@@N@@
open Jvm Jvm.ClassFile Sem Op Lib Jvm.Free Jvm.Stand Jvm.Pilot.@@N@@.Jvm.D
/-! MADE BY PROGRAM (witnessworld.py) out of the Statement's table words and the real class files: 16 classes; the members and pool entries that the words name. The judged class is class 1, her method 4. -/
namespace start1
open Jvm.ClassFile
def u (s : String) : CpInfo := .utf8 (stringToUtf16 s)
/-- a pool by its gaps: so many unusable entries, then the entry; so many at the end -/
def gap : Nat → List CpInfo → List CpInfo
  | 0, r => r
  | n + 1, r => .unusable :: gap n r
def poolList (es : List (Nat × CpInfo)) (last : Nat) : List CpInfo := es.foldr (fun e r => gap e.1 (e.2 :: r)) (gap last [])
def pool (es : List (Nat × CpInfo)) (last : Nat) : Array CpInfo := ⟨poolList es last⟩
def fileOf (pool : Array CpInfo) (this : Nat) (attrs : Array Attribute := #[]) (ms : Array MethodInfo := #[]) (fl : Nat := 33) (sup : Nat := 0) (ifs : Array Nat := #[]) (fds : Array FieldInfo := #[]) : ClassFile where
  minorVersion := 0
  majorVersion := 65
  constantPool := pool
  accessFlags := fl
  thisClass := this
  superClass := sup
  interfaces := ifs
  fields := fds
  methods := ms
  attributes := attrs
def plain (name : String) (sup : Option ClassId) : Class where
  name := name
  kind := .ordinary
  loader := none
  accessFlags := 33
  super := sup
  interfaces := #[]
  cf := none
  fields := #[]
  methods := #[]
  instanceTypes := #[]
  staticTypes := #[]
  resolved := #[]
  callSites := []
  init := .initialized
  statics := none
  mirror := none

def pool0 : Array CpInfo := pool [(5, u "<init>"), (0, u "()V"), (1, .class_ 10), (1, u "java/lang/Object"), (85, u "clone"), (0, u "()Ljava/lang/Object;")] 26

def k0c0 : Code := { maxStack := 0, maxLocals := 1, code := object_method_1_code, exceptionTable := #[], attributes := #[] }
def k0m0 : Method := { name := "<init>", desc := "()V", sig := { parameters := [], returnType := none }, accessFlags := 1, code := some k0c0 }
def k0m1 : Method := { name := "clone", desc := "()Ljava/lang/Object;", sig := { parameters := [], returnType := some (.object "java/lang/Object") }, accessFlags := 260, code := none }
/-- java/lang/Object -/
def k0 : Class := { plain "java/lang/Object" none with
  accessFlags := 33
  interfaces := #[]
  cf := some (fileOf pool0 8 #[] #[{ accessFlags := 1, nameIndex := 5, descriptorIndex := 6, attributes := #[] }, { accessFlags := 260, nameIndex := 96, descriptorIndex := 97, attributes := #[] }] 33 0 #[] #[])
  fields := #[]
  methods := #[k0m0, k0m1]
  instanceTypes := #[]
  staticTypes := #[]
  resolved := Array.replicate 124 none
  statics := none }

def pool1 : Array CpInfo := pool [(2, .class_ 4), (0, .nameAndType 5 6), (0, u "java/lang/Object"), (0, u "<init>"), (0, u "()V"), (0, .integer 2147483647), (0, .fieldref 9 10), (0, .class_ 11), (0, .nameAndType 12 13), (0, u "com/example/evident_ledger/evidentledger/ExecutorVerdict"), (0, u "ATTESTED"), (0, u "Lcom/example/evident_ledger/evidentledger/ExecutorVerdict;"), (0, .fieldref 9 15), (0, .nameAndType 16 13), (0, u "UNATTESTED"), (0, .fieldref 9 18), (0, .nameAndType 19 13), (0, u "ABSENT"), (0, .methodref 21 22), (0, .class_ 23), (0, .nameAndType 24 25), (0, u "com/example/evident_ledger/evidentledger/TallyCountPinLaw"), (0, u "kind"), (0, u "(I)I"), (0, .class_ 27), (0, u "com/example/evident_ledger/evidentledger/ExecutorVerdict$Tally"), (0, .methodref 26 3), (0, .methodref 21 30), (0, .nameAndType 31 32), (0, u "verdict"), (0, u "(I)Lcom/example/evident_ledger/evidentledger/ExecutorVerdict;"), (0, .methodref 26 34), (0, .nameAndType 35 36), (0, u "count"), (0, u "(Lcom/example/evident_ledger/evidentledger/ExecutorVerdict;)V"), (0, .methodref 21 38), (0, .nameAndType 39 40), (0, u "hit"), (0, u "(IIZ)J"), (0, .methodref 26 42), (0, .nameAndType 43 44), (0, u "of"), (0, u "(Lcom/example/evident_ledger/evidentledger/ExecutorVerdict;)J"), (3, u "law"), (0, u "(IIIII)Z")] 4

def k1m0 : Method := { name := "<init>", desc := "()V", sig := { parameters := [], returnType := none }, accessFlags := 1, code := none }
def k1c1 : Code := { maxStack := 2, maxLocals := 1, code := method_2_code, exceptionTable := #[], attributes := #[] }
def k1m1 : Method := { name := "kind", desc := "(I)I", sig := { parameters := [.int], returnType := some .int }, accessFlags := 10, code := some k1c1 }
def k1c2 : Code := { maxStack := 2, maxLocals := 1, code := method_3_code, exceptionTable := #[], attributes := #[] }
def k1m2 : Method := { name := "verdict", desc := "(I)Lcom/example/evident_ledger/evidentledger/ExecutorVerdict;", sig := { parameters := [.int], returnType := some (.object "com/example/evident_ledger/evidentledger/ExecutorVerdict") }, accessFlags := 10, code := some k1c2 }
def k1c3 : Code := { maxStack := 2, maxLocals := 3, code := method_4_code, exceptionTable := #[], attributes := #[] }
def k1m3 : Method := { name := "hit", desc := "(IIZ)J", sig := { parameters := [.int, .int, .boolean], returnType := some .long }, accessFlags := 10, code := some k1c3 }
def k1c4 : Code := { maxStack := 6, maxLocals := 17, code := code, exceptionTable := #[], attributes := #[] }
def k1m4 : Method := { name := "law", desc := "(IIIII)Z", sig := { parameters := [.int, .int, .int, .int, .int], returnType := some .boolean }, accessFlags := 9, code := some k1c4 }
/-- com/example/evident_ledger/evidentledger/TallyCountPinLaw -/
def k1 : Class := { plain "com/example/evident_ledger/evidentledger/TallyCountPinLaw" (some 0) with
  accessFlags := 49
  interfaces := #[]
  cf := some (fileOf pool1 21 #[] #[{ accessFlags := 1, nameIndex := 5, descriptorIndex := 6, attributes := #[] }, { accessFlags := 10, nameIndex := 24, descriptorIndex := 25, attributes := #[] }, { accessFlags := 10, nameIndex := 31, descriptorIndex := 32, attributes := #[] }, { accessFlags := 10, nameIndex := 39, descriptorIndex := 40, attributes := #[] }, { accessFlags := 9, nameIndex := 48, descriptorIndex := 49, attributes := #[] }] 49 2 #[] #[])
  fields := #[]
  methods := #[k1m0, k1m1, k1m2, k1m3, k1m4]
  instanceTypes := #[]
  staticTypes := #[]
  resolved := Array.replicate 54 none
  statics := none }

def pool2 : Array CpInfo := pool [(1, .methodref 2 3), (0, .class_ 4), (0, .nameAndType 5 6), (0, u "java/lang/Object"), (0, u "<init>"), (0, u "()V"), (0, .methodref 8 9), (0, .class_ 10), (0, .nameAndType 11 12), (0, u "com/example/evident_ledger/evidentledger/ExecutorVerdict"), (0, u "values"), (0, u "()[Lcom/example/evident_ledger/evidentledger/ExecutorVerdict;"), (0, .fieldref 14 15), (0, .class_ 16), (0, .nameAndType 17 18), (0, u "com/example/evident_ledger/evidentledger/ExecutorVerdict$Tally"), (0, u "counts"), (0, u "[J"), (0, .methodref 8 20), (0, .nameAndType 21 22), (0, u "ordinal"), (0, u "()I"), (26, u "count"), (0, u "(Lcom/example/evident_ledger/evidentledger/ExecutorVerdict;)V"), (0, u "of"), (0, u "(Lcom/example/evident_ledger/evidentledger/ExecutorVerdict;)J")] 9

def k2c0 : Code := { maxStack := 2, maxLocals := 1, code := prog_27_method_1_code, exceptionTable := #[], attributes := #[] }
def k2m0 : Method := { name := "<init>", desc := "()V", sig := { parameters := [], returnType := none }, accessFlags := 0, code := some k2c0 }
def k2c1 : Code := { maxStack := 6, maxLocals := 2, code := prog_27_method_2_code, exceptionTable := #[], attributes := #[] }
def k2m1 : Method := { name := "count", desc := "(Lcom/example/evident_ledger/evidentledger/ExecutorVerdict;)V", sig := { parameters := [(.object "com/example/evident_ledger/evidentledger/ExecutorVerdict")], returnType := none }, accessFlags := 0, code := some k2c1 }
def k2c2 : Code := { maxStack := 2, maxLocals := 2, code := prog_27_method_3_code, exceptionTable := #[], attributes := #[] }
def k2m2 : Method := { name := "of", desc := "(Lcom/example/evident_ledger/evidentledger/ExecutorVerdict;)J", sig := { parameters := [(.object "com/example/evident_ledger/evidentledger/ExecutorVerdict")], returnType := some .long }, accessFlags := 0, code := some k2c2 }
/-- com/example/evident_ledger/evidentledger/ExecutorVerdict$Tally -/
def k2 : Class := { plain "com/example/evident_ledger/evidentledger/ExecutorVerdict$Tally" (some 0) with
  accessFlags := 32
  interfaces := #[]
  cf := some (fileOf pool2 14 #[.nestHost 8] #[{ accessFlags := 0, nameIndex := 5, descriptorIndex := 6, attributes := #[] }, { accessFlags := 0, nameIndex := 49, descriptorIndex := 50, attributes := #[] }, { accessFlags := 0, nameIndex := 51, descriptorIndex := 52, attributes := #[] }] 32 2 #[] #[{ accessFlags := 18, nameIndex := 17, descriptorIndex := 18, attributes := #[] }])
  fields := #[{ name := "counts", type := (.array .long), accessFlags := 18, slot := 0, constantValue := 0 }]
  methods := #[k2m0, k2m1, k2m2]
  instanceTypes := #[(.array .long)]
  staticTypes := #[]
  resolved := Array.replicate 62 none
  statics := none }

def pool3 : Array CpInfo := pool [(1, .class_ 2), (0, u "java/lang/constant/Constable"), (0, .class_ 4), (0, u "java/lang/Object")] 6

/-- java/lang/constant/Constable -/
def k3 : Class := { plain "java/lang/constant/Constable" (some 0) with
  accessFlags := 1537
  interfaces := #[]
  cf := some (fileOf pool3 1 #[] #[] 1537 3 #[] #[])
  fields := #[]
  methods := #[]
  instanceTypes := #[]
  staticTypes := #[]
  resolved := Array.replicate 11 none
  statics := none }

def pool4 : Array CpInfo := pool [(1, .class_ 2), (0, u "java/lang/Comparable"), (0, .class_ 4), (0, u "java/lang/Object")] 7

/-- java/lang/Comparable -/
def k4 : Class := { plain "java/lang/Comparable" (some 0) with
  accessFlags := 1537
  interfaces := #[]
  cf := some (fileOf pool4 1 #[] #[] 1537 3 #[] #[])
  fields := #[]
  methods := #[]
  instanceTypes := #[]
  staticTypes := #[]
  resolved := Array.replicate 12 none
  statics := none }

def pool5 : Array CpInfo := pool [(1, .class_ 2), (0, u "java/io/Serializable"), (0, .class_ 4), (0, u "java/lang/Object")] 2

/-- java/io/Serializable -/
def k5 : Class := { plain "java/io/Serializable" (some 0) with
  accessFlags := 1537
  interfaces := #[]
  cf := some (fileOf pool5 1 #[] #[] 1537 3 #[] #[])
  fields := #[]
  methods := #[]
  instanceTypes := #[]
  staticTypes := #[]
  resolved := Array.replicate 7 none
  statics := none }

def pool6 : Array CpInfo := pool [(2, .class_ 4), (1, u "java/lang/Enum"), (0, u "name"), (0, u "Ljava/lang/String;"), (0, .fieldref 2 8), (0, .nameAndType 9 10), (0, u "ordinal"), (0, u "I"), (1, .class_ 14), (1, u "java/lang/Object"), (4, u "hash"), (86, .class_ 108), (1, u "java/lang/Enum$EnumDesc"), (2, .class_ 112), (0, u "java/lang/constant/Constable"), (0, .class_ 114), (0, u "java/lang/Comparable"), (0, .class_ 116), (0, u "java/io/Serializable"), (9, u "()I")] 77

def k6c0 : Code := { maxStack := 1, maxLocals := 1, code := jdk_37_method_2_code, exceptionTable := #[], attributes := #[] }
def k6m0 : Method := { name := "ordinal", desc := "()I", sig := { parameters := [], returnType := some .int }, accessFlags := 17, code := some k6c0 }
/-- java/lang/Enum -/
def k6 : Class := { plain "java/lang/Enum" (some 0) with
  accessFlags := 1057
  interfaces := #[3, 4, 5]
  cf := some (fileOf pool6 2 #[.nestMembers #[106]] #[{ accessFlags := 17, nameIndex := 9, descriptorIndex := 126, attributes := #[] }] 1057 12 #[111, 113, 115] #[{ accessFlags := 18, nameIndex := 5, descriptorIndex := 6, attributes := #[] }, { accessFlags := 18, nameIndex := 9, descriptorIndex := 10, attributes := #[] }, { accessFlags := 2, nameIndex := 19, descriptorIndex := 10, attributes := #[] }])
  fields := #[{ name := "name", type := (.object "java/lang/String"), accessFlags := 18, slot := 0, constantValue := 0 }, { name := "ordinal", type := .int, accessFlags := 18, slot := 1, constantValue := 0 }, { name := "hash", type := .int, accessFlags := 2, slot := 2, constantValue := 0 }]
  methods := #[k6m0]
  instanceTypes := #[(.object "java/lang/String"), .int, .int]
  staticTypes := #[]
  resolved := Array.replicate 204 none
  statics := none }

def pool7 : Array CpInfo := pool [(1, .class_ 2), (0, u "com/example/evident_ledger/evidentledger/ExecutorVerdict"), (2, u "ATTESTED"), (0, u "Lcom/example/evident_ledger/evidentledger/ExecutorVerdict;"), (2, u "UNATTESTED"), (2, u "ABSENT"), (0, .fieldref 1 14), (0, .nameAndType 15 16), (0, u "$VALUES"), (0, u "[Lcom/example/evident_ledger/evidentledger/ExecutorVerdict;"), (0, .methodref 18 19), (0, .class_ 16), (0, .nameAndType 20 21), (0, u "clone"), (0, u "()Ljava/lang/Object;"), (1, .class_ 25), (1, u "java/lang/Enum"), (36, u "()[Lcom/example/evident_ledger/evidentledger/ExecutorVerdict;"), (0, u "values"), (13, .class_ 78), (0, u "com/example/evident_ledger/evidentledger/ExecutorVerdict$Tally")] 16

def k7c0 : Code := { maxStack := 1, maxLocals := 0, code := prog_26_method_1_code, exceptionTable := #[], attributes := #[] }
def k7m0 : Method := { name := "values", desc := "()[Lcom/example/evident_ledger/evidentledger/ExecutorVerdict;", sig := { parameters := [], returnType := some (.array (.object "com/example/evident_ledger/evidentledger/ExecutorVerdict")) }, accessFlags := 9, code := some k7c0 }
/-- com/example/evident_ledger/evidentledger/ExecutorVerdict -/
def k7 : Class := { plain "com/example/evident_ledger/evidentledger/ExecutorVerdict" (some 6) with
  accessFlags := 16432
  interfaces := #[]
  cf := some (fileOf pool7 1 #[.nestMembers #[77]] #[{ accessFlags := 9, nameIndex := 63, descriptorIndex := 62, attributes := #[] }] 16432 23 #[] #[{ accessFlags := 16409, nameIndex := 5, descriptorIndex := 6, attributes := #[] }, { accessFlags := 16409, nameIndex := 9, descriptorIndex := 6, attributes := #[] }, { accessFlags := 16409, nameIndex := 12, descriptorIndex := 6, attributes := #[] }, { accessFlags := 4122, nameIndex := 15, descriptorIndex := 16, attributes := #[] }])
  fields := #[{ name := "ATTESTED", type := (.object "com/example/evident_ledger/evidentledger/ExecutorVerdict"), accessFlags := 16409, slot := 0, constantValue := 0 }, { name := "UNATTESTED", type := (.object "com/example/evident_ledger/evidentledger/ExecutorVerdict"), accessFlags := 16409, slot := 1, constantValue := 0 }, { name := "ABSENT", type := (.object "com/example/evident_ledger/evidentledger/ExecutorVerdict"), accessFlags := 16409, slot := 2, constantValue := 0 }, { name := "$VALUES", type := (.array (.object "com/example/evident_ledger/evidentledger/ExecutorVerdict")), accessFlags := 4122, slot := 3, constantValue := 0 }]
  methods := #[k7m0]
  instanceTypes := #[(.object "java/lang/String"), .int, .int]
  staticTypes := #[(.object "com/example/evident_ledger/evidentledger/ExecutorVerdict"), (.object "com/example/evident_ledger/evidentledger/ExecutorVerdict"), (.object "com/example/evident_ledger/evidentledger/ExecutorVerdict"), (.array (.object "com/example/evident_ledger/evidentledger/ExecutorVerdict"))]
  resolved := Array.replicate 95 none
  statics := some 0 }

def pool8 : Array CpInfo := pool [(1, .class_ 2), (0, u "java/lang/Cloneable"), (0, .class_ 4), (0, u "java/lang/Object")] 2

/-- java/lang/Cloneable -/
def k8 : Class := { plain "java/lang/Cloneable" (some 0) with
  accessFlags := 1537
  interfaces := #[]
  cf := some (fileOf pool8 1 #[] #[] 1537 3 #[] #[])
  fields := #[]
  methods := #[]
  instanceTypes := #[]
  staticTypes := #[]
  resolved := Array.replicate 7 none
  statics := none }

/-- the primitive byte -/
def k9 : Class := { plain "byte" none with kind := .primitive 'B', accessFlags := 0x411 }
/-- [B -/
def k10 : Class := { plain "[B" (some 0) with kind := .array 9 .byte, interfaces := #[8, 5], accessFlags := 1041 }

/-- the primitive int -/
def k11 : Class := { plain "int" none with kind := .primitive 'I', accessFlags := 0x411 }
/-- [I -/
def k12 : Class := { plain "[I" (some 0) with kind := .array 11 .int, interfaces := #[8, 5], accessFlags := 1041 }

/-- the primitive long -/
def k13 : Class := { plain "long" none with kind := .primitive 'J', accessFlags := 0x411 }
/-- [J -/
def k14 : Class := { plain "[J" (some 0) with kind := .array 13 .long, interfaces := #[8, 5], accessFlags := 1041 }

/-- [Lcom/example/evident_ledger/evidentledger/ExecutorVerdict; -/
def k15 : Class := { plain "[Lcom/example/evident_ledger/evidentledger/ExecutorVerdict;" (some 0) with kind := .array 7 (.object "com/example/evident_ledger/evidentledger/ExecutorVerdict"), interfaces := #[8, 5], accessFlags := 1041 }

def heap : Heap := #[{ cls := 7, slots := #[.ref 2, .ref 3, .ref 4, .ref 1], vm := .statics 7 },
  { cls := 15, slots := #[.ref 2, .ref 3, .ref 4], vm := .none },
  { cls := 7, slots := #[.null, .int 0, .int 0], vm := .none },
  { cls := 7, slots := #[.null, .int 1, .int 0], vm := .none },
  { cls := 7, slots := #[.null, .int 2, .int 0], vm := .none }]
def classes : Array Class := #[k0, k1, k2, k3, k4, k5, k6, k7, k8, k9, k10, k11, k12, k13, k14, k15]
def interned : List (Array UInt16 × Addr) := []
def slotsUsed : Nat := 16
def theMethod : MethodId := ⟨1, 4⟩
def args0 : Array Value := #[.int 5, .int 77, .int 1, .int 2, .int 4]
def aboutOver (below : List Frame) : State where
  vm := { classes := classes, interned := interned.toArray }
  heap := heap
  slotsUsed := slotsUsed
  threads := #[{ frames := .invoking theMethod args0 :: below }]
def below0 : List Frame := [.native { method := ⟨0, 0⟩, args := #[] }]
def about1 : State := aboutOver below0
def p0 : Program := .bare "" "" ""
def e0 : Env := launch0.env 0 0 0
theorem w_frames : about1.frames = Frame.invoking theMethod args0 :: below0 := rfl
set_option maxRecDepth 65536 in
theorem w_args : argsFit about1.vm theMethod args0 = true := by decide +kernel
set_option maxRecDepth 65536 in
theorem w_heap : heapFits about1 = true := by decide +kernel
set_option maxRecDepth 65536 in
theorem w_runnable : about1.curStatus? = some .runnable := by decide +kernel
set_option maxRecDepth 65536 in
theorem w_alone : about1.alone = true := by decide +kernel
set_option maxRecDepth 65536 in
theorem w_named : about1.methodNamed? x = some theMethod := by decide +kernel
set_option maxRecDepth 65536 in
theorem w_hears : about1.hears theMethod below0 = true := by decide +kernel
set_option maxRecDepth 65536 in
theorem w_ripe : about1.ripe theMethod args0 below0 = true := by decide +kernel
theorem w_running : about1.status = .running := rfl
set_option maxRecDepth 65536 in
theorem w_room : about1.hasRoom e0.platform room_1 = true :=
  launch0.hasRoom_least _ room_1 (by decide +kernel) (by decide +kernel) (by decide +kernel) (by decide +kernel) (by decide +kernel) (by decide +kernel)
theorem allAtoms_all (ts : List Jvm.Cond) (a : Array Jvm.Value) (st : Jvm.State) : (allAtoms ts).before a st = ts.all (fun c => c.before a st) := by
  induction ts with
  | nil => rfl
  | cons c t ih =>
    show (Jvm.Cond.and c (allAtoms t)).before a st = _
    rw [Jvm.Cond.before_and, ih, List.all_cons]
def words1 : List Jvm.Cond := Jvm.Cond.code x code maxLocals ret :: tables_1
/-- a 'code' word, met by the world's own term for the bytes: nothing is compared byte by byte -/
theorem code_word {y : MethodName} {bytes : ByteArray} {mx : Nat} {rt : Option FieldType} {a : Array Value} {s : State} {m : MethodId} {meth : Method} {c : Code} (h1 : s.methodNamed? y = some m) (h2 : s.vm.method? m = some meth) (h3 : meth.code = some c) (h4 : c.code = bytes)
    (h5 : (c.maxLocals == mx && c.exceptionTable.isEmpty && decide (c.maxStack ≤ mostOperands) && decide (meth.sig.returnType = rt) && !meth.locks && decide (parseMethodDescriptor y.desc = some meth.sig)) = true) : (Jvm.Cond.code y bytes mx rt).before a s = true := by
  simp only [Bool.and_eq_true, beq_iff_eq, Bool.not_eq_true', decide_eq_true_eq] at h5
  obtain ⟨⟨⟨⟨⟨g1, g2⟩, g3⟩, g4⟩, g5⟩, g6⟩ := h5
  simp [Cond.before, Cond.holds, Cond.value, h1, h2, h3, h4, g1, g2, g3, g4, g5, g6]
def isCode : Jvm.Cond → Bool
  | .code _ _ _ _ => true
  | _ => false
theorem all_split {L : List Jvm.Cond} {P : Jvm.Cond → Bool} (h1 : L.all (fun c => isCode c || P c) = true) (h2 : ∀ c ∈ L.filter isCode, P c = true) : L.all P = true := by
  refine List.all_eq_true.mpr fun c hc => ?_
  have h := List.all_eq_true.mp h1 c hc
  rcases Bool.eq_false_or_eq_true (isCode c) with hi | hi
  · exact h2 c (List.mem_filter.mpr ⟨hc, hi⟩)
  · simpa [hi] using h
set_option maxRecDepth 65536 in
theorem w_c0 : (Jvm.Cond.code x code maxLocals ret).before args0 about1 = true := code_word (m := ⟨1, 4⟩) (meth := k1m4) (c := k1c4) (by decide +kernel) rfl rfl rfl (by decide +kernel)
set_option maxRecDepth 65536 in
theorem w_c1 : (Jvm.Cond.code ({ cls := "com/example/evident_ledger/evidentledger/TallyCountPinLaw", name := "kind", desc := "(I)I" } : Jvm.MethodName) method_2_code (1 : Nat) (Option.some Jvm.ClassFile.FieldType.int)).before args0 about1 = true := code_word (m := ⟨1, 1⟩) (meth := k1m1) (c := k1c1) (by decide +kernel) rfl rfl rfl (by decide +kernel)
set_option maxRecDepth 65536 in
theorem w_c2 : (Jvm.Cond.code ({ cls := "com/example/evident_ledger/evidentledger/ExecutorVerdict$Tally", name := "<init>", desc := "()V" } : Jvm.MethodName) prog_27_method_1_code (1 : Nat) (Option.none : Option Jvm.ClassFile.FieldType)).before args0 about1 = true := code_word (m := ⟨2, 0⟩) (meth := k2m0) (c := k2c0) (by decide +kernel) rfl rfl rfl (by decide +kernel)
set_option maxRecDepth 65536 in
theorem w_c3 : (Jvm.Cond.code ({ cls := "java/lang/Object", name := "<init>", desc := "()V" } : Jvm.MethodName) object_method_1_code (1 : Nat) (Option.none : Option Jvm.ClassFile.FieldType)).before args0 about1 = true := code_word (m := ⟨0, 0⟩) (meth := k0m0) (c := k0c0) (by decide +kernel) rfl rfl rfl (by decide +kernel)
set_option maxRecDepth 65536 in
theorem w_c4 : (Jvm.Cond.code ({ cls := "com/example/evident_ledger/evidentledger/ExecutorVerdict", name := "values", desc := "()[Lcom/example/evident_ledger/evidentledger/ExecutorVerdict;" } : Jvm.MethodName) prog_26_method_1_code (0 : Nat) (Option.some (Jvm.ClassFile.FieldType.array (Jvm.ClassFile.FieldType.object "com/example/evident_ledger/evidentledger/ExecutorVerdict")))).before args0 about1 = true := code_word (m := ⟨7, 0⟩) (meth := k7m0) (c := k7c0) (by decide +kernel) rfl rfl rfl (by decide +kernel)
set_option maxRecDepth 65536 in
theorem w_c5 : (Jvm.Cond.code ({ cls := "com/example/evident_ledger/evidentledger/TallyCountPinLaw", name := "hit", desc := "(IIZ)J" } : Jvm.MethodName) method_4_code (3 : Nat) (Option.some Jvm.ClassFile.FieldType.long)).before args0 about1 = true := code_word (m := ⟨1, 3⟩) (meth := k1m3) (c := k1c3) (by decide +kernel) rfl rfl rfl (by decide +kernel)
set_option maxRecDepth 65536 in
theorem w_c6 : (Jvm.Cond.code ({ cls := "com/example/evident_ledger/evidentledger/ExecutorVerdict$Tally", name := "of", desc := "(Lcom/example/evident_ledger/evidentledger/ExecutorVerdict;)J" } : Jvm.MethodName) prog_27_method_3_code (2 : Nat) (Option.some Jvm.ClassFile.FieldType.long)).before args0 about1 = true := code_word (m := ⟨2, 2⟩) (meth := k2m2) (c := k2c2) (by decide +kernel) rfl rfl rfl (by decide +kernel)
set_option maxRecDepth 65536 in
theorem w_c7 : (Jvm.Cond.code ({ cls := "java/lang/Enum", name := "ordinal", desc := "()I" } : Jvm.MethodName) jdk_37_method_2_code (1 : Nat) (Option.some Jvm.ClassFile.FieldType.int)).before args0 about1 = true := code_word (m := ⟨6, 0⟩) (meth := k6m0) (c := k6c0) (by decide +kernel) rfl rfl rfl (by decide +kernel)
set_option maxRecDepth 65536 in
theorem w_c8 : (Jvm.Cond.code ({ cls := "com/example/evident_ledger/evidentledger/TallyCountPinLaw", name := "verdict", desc := "(I)Lcom/example/evident_ledger/evidentledger/ExecutorVerdict;" } : Jvm.MethodName) method_3_code (1 : Nat) (Option.some (Jvm.ClassFile.FieldType.object "com/example/evident_ledger/evidentledger/ExecutorVerdict"))).before args0 about1 = true := code_word (m := ⟨1, 2⟩) (meth := k1m2) (c := k1c2) (by decide +kernel) rfl rfl rfl (by decide +kernel)
set_option maxRecDepth 65536 in
theorem w_c9 : (Jvm.Cond.code ({ cls := "com/example/evident_ledger/evidentledger/ExecutorVerdict$Tally", name := "count", desc := "(Lcom/example/evident_ledger/evidentledger/ExecutorVerdict;)V" } : Jvm.MethodName) prog_27_method_2_code (2 : Nat) (Option.none : Option Jvm.ClassFile.FieldType)).before args0 about1 = true := code_word (m := ⟨2, 1⟩) (meth := k2m1) (c := k2c1) (by decide +kernel) rfl rfl rfl (by decide +kernel)
def codes1 : List Jvm.Cond := [Jvm.Cond.code x code maxLocals ret, Jvm.Cond.code ({ cls := "com/example/evident_ledger/evidentledger/TallyCountPinLaw", name := "kind", desc := "(I)I" } : Jvm.MethodName) method_2_code (1 : Nat) (Option.some Jvm.ClassFile.FieldType.int), Jvm.Cond.code ({ cls := "com/example/evident_ledger/evidentledger/ExecutorVerdict$Tally", name := "<init>", desc := "()V" } : Jvm.MethodName) prog_27_method_1_code (1 : Nat) (Option.none : Option Jvm.ClassFile.FieldType), Jvm.Cond.code ({ cls := "java/lang/Object", name := "<init>", desc := "()V" } : Jvm.MethodName) object_method_1_code (1 : Nat) (Option.none : Option Jvm.ClassFile.FieldType), Jvm.Cond.code ({ cls := "com/example/evident_ledger/evidentledger/ExecutorVerdict", name := "values", desc := "()[Lcom/example/evident_ledger/evidentledger/ExecutorVerdict;" } : Jvm.MethodName) prog_26_method_1_code (0 : Nat) (Option.some (Jvm.ClassFile.FieldType.array (Jvm.ClassFile.FieldType.object "com/example/evident_ledger/evidentledger/ExecutorVerdict"))), Jvm.Cond.code ({ cls := "com/example/evident_ledger/evidentledger/TallyCountPinLaw", name := "hit", desc := "(IIZ)J" } : Jvm.MethodName) method_4_code (3 : Nat) (Option.some Jvm.ClassFile.FieldType.long), Jvm.Cond.code ({ cls := "com/example/evident_ledger/evidentledger/ExecutorVerdict$Tally", name := "of", desc := "(Lcom/example/evident_ledger/evidentledger/ExecutorVerdict;)J" } : Jvm.MethodName) prog_27_method_3_code (2 : Nat) (Option.some Jvm.ClassFile.FieldType.long), Jvm.Cond.code ({ cls := "java/lang/Enum", name := "ordinal", desc := "()I" } : Jvm.MethodName) jdk_37_method_2_code (1 : Nat) (Option.some Jvm.ClassFile.FieldType.int), Jvm.Cond.code ({ cls := "com/example/evident_ledger/evidentledger/TallyCountPinLaw", name := "verdict", desc := "(I)Lcom/example/evident_ledger/evidentledger/ExecutorVerdict;" } : Jvm.MethodName) method_3_code (1 : Nat) (Option.some (Jvm.ClassFile.FieldType.object "com/example/evident_ledger/evidentledger/ExecutorVerdict")), Jvm.Cond.code ({ cls := "com/example/evident_ledger/evidentledger/ExecutorVerdict$Tally", name := "count", desc := "(Lcom/example/evident_ledger/evidentledger/ExecutorVerdict;)V" } : Jvm.MethodName) prog_27_method_2_code (2 : Nat) (Option.none : Option Jvm.ClassFile.FieldType)]
set_option maxRecDepth 65536 in
theorem codes_eq : words1.filter isCode = codes1 := rfl
theorem w_codes : ∀ c ∈ words1.filter isCode, c.before args0 about1 = true := by
  rw [codes_eq]
  intro c hc
  simp only [codes1, List.mem_cons, List.not_mem_nil, or_false] at hc
  rcases hc with rfl | rfl | rfl | rfl | rfl | rfl | rfl | rfl | rfl | rfl
  · exact w_c0
  · exact w_c1
  · exact w_c2
  · exact w_c3
  · exact w_c4
  · exact w_c5
  · exact w_c6
  · exact w_c7
  · exact w_c8
  · exact w_c9
set_option maxRecDepth 65536 in
theorem w_t1 : (words1.take 24).all (fun c => isCode c || c.before args0 about1) = true := by decide +kernel
set_option maxRecDepth 65536 in
theorem w_t2 : ((words1.drop 24).take 24).all (fun c => isCode c || c.before args0 about1) = true := by decide +kernel
set_option maxRecDepth 65536 in
theorem w_t3 : ((words1.drop 24).drop 24).all (fun c => isCode c || c.before args0 about1) = true := by decide +kernel
theorem w_tables : (allAtoms (Jvm.Cond.code x code maxLocals ret :: tables_1)).before args0 about1 = true := by
  rw [allAtoms_all]
  show words1.all (fun c => c.before args0 about1) = true
  refine all_split ?_ w_codes
  rw [← List.take_append_drop 24 words1, List.all_append, w_t1, ← List.take_append_drop 24 (words1.drop 24), List.all_append, w_t2, w_t3]
  rfl
set_option maxRecDepth 65536 in
theorem w_case : (Jvm.Cond.and given_1 narrow_1).before args0 about1 = true := by decide +kernel
theorem w_applies : (headSpec (Jvm.Cond.code x code maxLocals ret :: tables_1) room_1).applies x e0.platform about1 = true :=
  (Spec.applies_iff w_frames).mpr ⟨w_running, w_runnable, w_alone, w_named, w_hears, w_ripe, w_room, w_tables⟩
theorem atStart : AtStart classFile x code maxLocals ret World_1 tables_1 room_1 Calls_1 rest_1 Pre_1 launch0 p0 e0 about1 theMethod args0 below0 :=
  ⟨lists_1, trivial, launch0.admits_env _ _ _, launch0.least_env, fairChoices_fair.cas, fairChoices_fair.clock, w_frames, w_args, w_heap, w_applies, trivial, trivial, w_case⟩
end start1
theorem witness_1 : WitnessClaimed_1 := ⟨start1.p0, start1.e0, start1.about1, start1.theMethod, start1.args0, start1.below0, start1.atStart⟩
end Jvm.Pilot.@@N@@
