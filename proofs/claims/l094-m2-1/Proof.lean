import JvmDerived
import JvmDerived.Pilot.@@N@@Statement
import JvmDerived.Pilot.@@N@@Code
set_option linter.unusedVariables false
set_option linter.unusedSimpArgs false
namespace Jvm.RoadKit
open Sem ClassFile Op Lib Jvm.Stand Jvm.Free Jvm.LawKit
section New
variable {p : Program} {l : Launch} {e : Env} {R : Room} {s : State} {m : MethodId} {args : Array Value} {below : List Frame} {meth : Method} {c : Code} {T : State} {locs : List Loc} {cells slots : Nat}
theorem retI (X : Stand p l e R s m args below meth c T locs cells slots) (hx : p.tables.exec = Jvm.exec) {pc : Nat} {Ls : Array Slot} {z : Int32} {rest : List Value} (hret : meth.sig.returnType = some .int) (hd : decode c.code pc = .ok (.ireturn, 1)) {fs : List Frame}
    (hl : ∀ (f : JFrame) (acts : List Action), f.method = m → f.locked = none → f.entered = [] → (doReturn e (T.setTop f) acts (some (.int z))).1 = T.setFrames fs) : Steps p.tables e below (T.setTop (mkF m pc Ls (.int z :: rest))) (T.setFrames fs) := by
  have hm' : T.vm.method? m = some meth := X.method'
  have hn : narrow .int (.int z) = .int z := rfl
  show Steps p.tables e below (T.setTop { method := m, pc := pc, locals := Ls, stack := _ :: rest, locked := none }) _
  jvm_step X.here [X.here.top, hx, hd, hm', hret, hn]
  first | (intro acts; rw [hl _ acts rfl rfl rfl]) | rw [hl _ _ rfl rfl rfl]
  exact Steps.refl _
end New
end Jvm.RoadKit
namespace Jvm.Pilot.@@N@@
open Jvm Jvm.ClassFile Sem Op Lib Jvm.Free Jvm.Stand Jvm.LawKit Jvm.RoadKit Bundle Jvm.Pilot.@@N@@.Jvm.D

theorem own_eqI {a : Term} {n : Int32} {args : Array Value} {first s : State} {o : Option Outcome} {idx : List Nat} (h : (Jvm.Cond.eq a (Jvm.Term.int n)).value args first o s idx = some true) : a.eval args first o idx s = some (.int n) := by
  obtain ⟨x, y, hx, hy, k1, -⟩ := cmp_v (Or.inl h)
  have hb : (Jvm.Term.int n).eval args first o idx s = some (.int n) := Term.int_eval n
  rw [hb] at hy
  cases hy
  cases x with
  | int z => rw [hx]; have := gotT (P := z = n) (by simp [Cond.value, hx, hb]) h; rw [this]
  | _ => simp [Kin, Value.isRef] at k1
theorem own_eqL {a : Term} {n : Int64} {args : Array Value} {first s : State} {o : Option Outcome} {idx : List Nat} (h : (Jvm.Cond.eq a (Jvm.Term.long n)).value args first o s idx = some true) : a.eval args first o idx s = some (.long n) := by
  obtain ⟨x, y, hx, hy, k1, -⟩ := cmp_v (Or.inl h)
  have hb : (Jvm.Term.long n).eval args first o idx s = some (.long n) := rfl
  rw [hb] at hy
  cases hy
  cases x with
  | long z => rw [hx]; have := gotT (P := z = n) (by simp [Cond.value, hx, hb]) h; rw [this]
  | _ => simp [Kin, Value.isRef] at k1
theorem own_mask (x : Int32) : 0 ≤ (x &&& (2147483647 : Int32)).toInt ∧ (x &&& (2147483647 : Int32)).toInt ≤ 2147483647 := by
  have q := c_and x (2147483647 : Int32) (by decide)
  have e : (2147483647 : Int32).toInt = 2147483647 := by decide
  omega
theorem d1_0 : decode prog_14_method_5_code 0 = .ok (.iload_n 1, 1) := by decide +kernel
theorem d1_1 : decode prog_14_method_5_code 1 = .ok (.aload_n 0, 1) := by decide +kernel
theorem d1_2 : decode prog_14_method_5_code 2 = .ok (.getfield 36, 3) := by decide +kernel
theorem d1_5 : decode prog_14_method_5_code 5 = .ok (.if_icmp .lt 15, 3) := by decide +kernel
theorem d1_8 : decode prog_14_method_5_code 8 = .ok (.iload_n 1, 1) := by decide +kernel
theorem d1_9 : decode prog_14_method_5_code 9 = .ok (.aload_n 0, 1) := by decide +kernel
theorem d1_10 : decode prog_14_method_5_code 10 = .ok (.getfield 40, 3) := by decide +kernel
theorem d1_13 : decode prog_14_method_5_code 13 = .ok (.if_icmp .gt 7, 3) := by decide +kernel
theorem d1_16 : decode prog_14_method_5_code 16 = .ok (.iconst 1, 1) := by decide +kernel
theorem d1_17 : decode prog_14_method_5_code 17 = .ok (.goto 4, 3) := by decide +kernel
theorem d1_20 : decode prog_14_method_5_code 20 = .ok (.iconst 0, 1) := by decide +kernel
theorem d1_21 : decode prog_14_method_5_code 21 = .ok (.ireturn, 1) := by decide +kernel
theorem pn1 : plainName "com/example/portia/portia/expression/Normalizer" = true := by first | (simp [plainName, overriddenIn]; done) | decide +kernel
theorem ef1 (m : MethodId) (x0 : Addr) (x1 : Int32) : entryFrame m #[(.ref x0), (.int x1)] 2 = mkF m 0 #[.val (.ref x0), .val (.int x1)] [] := by first | (simp [entryFrame, mkF, argsToLocals, Value.category]; done) | rfl
def own_F1 (x0 : Addr) (x1 : Int32) (w0 : Int32) (w1 : Int32) : Int32 := (if x1 < w0 then (0 : Int32) else (if w1 < x1 then (0 : Int32) else (1 : Int32)))
def Q1 (Z : State) (x0 : Addr) (x1 : Int32) (w0 : Int32) (w1 : Int32) (h0 : Heap) (n0 : Nat) (v : Option Value) (h : Heap) (L : List Loc) : Prop := v = some (.int (own_F1 x0 x1 w0 w1)) ∧ Fr n0 L ∧ h = h0
set_option maxRecDepth 65536 in
set_option maxHeartbeats 40000000 in
theorem rm1 (l : Launch) (Z : State) (a0 : Array Value) (hw : ∀ d ∈ tables_1, d.before a0 Z = true) (ws : List Jvm.Cond) (x0 : Addr) (x1 : Int32) (w0 : Int32) (w1 : Int32) (h0 : Heap) (n0 : Nat) (Z0 : n0 ≤ h0.size) (B0 : Fld Z h0 x0 "com/example/portia/portia/expression/Normalizer" "fewest" "I" (.int w0)) (B1 : Fld Z h0 x0 "com/example/portia/portia/expression/Normalizer" "most" "I" (.int w1)) :
    MetFree l (⟨"com/example/portia/portia/expression/Normalizer", "takes", "(I)Z"⟩ : MethodName) (head1 (Jvm.Cond.code (⟨"com/example/portia/portia/expression/Normalizer", "takes", "(I)Z"⟩ : MethodName) prog_14_method_5_code 2 (some .boolean) :: ws) ({ frames := 0, cells := 0, slots := 0, locals := 0 } : Room)) (fun a U => a = #[(.ref x0), (.int x1)] ∧ Z.Warmed39 U.vm ∧ U.heap = h0) (fun _ _ _ _ _ => True) (fun _ U o U' => ∃ v L, o = .returned v ∧ Q1 Z x0 x1 w0 w1 h0 n0 v U'.heap L ∧ FrameEnd U o U' L ({ frames := 0, cells := 0, slots := 0, locals := 0 } : Room).cells ({ frames := 0, cells := 0, slots := 0, locals := 0 } : Room).slots) := by
  refine MetFree.of_bodySF (plainFor_of_name pn1) hisR ?_
  intro p e s m args below meth c s₁ Bd hml0 hP hK
  obtain ⟨rfl, hZ, hh⟩ := hP
  have hx := Bd.exec
  have hby := Bd.bytes
  have hml : c.maxLocals = 2 := hml0
  have hown : s.vm.findClass "com/example/portia/portia/expression/Normalizer" = some m.cls := findClass_of_methodNamed Bd.named
  have hnm := (name_of_methodNamed Bd.named Bd.method).1
  have X0 : Stand p l e ({ frames := 0, cells := 0, slots := 0, locals := 0 } : Room) s m #[(.ref x0), (.int x1)] below meth c s₁ [] 0 0 := Stand.of_body Bd
  have e0 : s₁.heap = h0 := by rw [← hh, Bd.state]; rfl
  have N0 := Fr.nil n0
  have pre0 : Steps p.tables e below (s₁.setTop (entryFrame m #[(.ref x0), (.int x1)] 2)) (s₁.setTop (mkF m 0 #[.val (.ref x0), .val (.int x1)] [])) := castTop (ef1 m x0 x1) (Steps.refl _)
  have st1 : Steps p.tables e below (s₁.setTop (mkF m 0 #[.val (.ref x0), .val (.int x1)] [])) (s₁.setTop (mkF m 2 #[.val (.ref x0), .val (.int x1)] [(.ref x0), (.int x1)])) := by
    refine XS.iloadN X0.here hx rfl (hb hby d1_0) rfl ?_
    show Steps p.tables e below (s₁.setTop (mkF m 1 #[.val (.ref x0), .val (.int x1)] [(.int x1)])) _
    refine XS.aloadN X0.here hx rfl (hb hby d1_1) rfl rfl ?_
    show Steps p.tables e below (s₁.setTop (mkF m 2 #[.val (.ref x0), .val (.int x1)] [(.ref x0), (.int x1)])) _
    exact Steps.refl _
  have pre1 := pre0.trans st1
  obtain ⟨T2, X2, e2, st2⟩ := getF X0 hx hZ hown (host := "") (Or.inl (hw _ (List.mem_of_getElem? (i := 9) rfl))) Via.refl e0 B0 (g := (mkF m 2 #[.val (.ref x0), .val (.int x1)] [(.ref x0), (.int x1)])) rfl rfl (hb hby d1_2)
  have pre2 : Steps p.tables e below (s₁.setTop (entryFrame m #[(.ref x0), (.int x1)] 2)) (T2.setTop (mkF m 5 #[.val (.ref x0), .val (.int x1)] [(.int w0), (.int x1)])) := pre1.trans (st2 _ (Steps.refl _))
  by_cases hc5 : x1 < w0
  · have st3 : Steps p.tables e below (T2.setTop (mkF m 5 #[.val (.ref x0), .val (.int x1)] [(.int w0), (.int x1)])) (T2.setTop (mkF m 20 #[.val (.ref x0), .val (.int x1)] [])) := by
      refine XS.icmpYes X2.here hx rfl (pc0 := 5) (pc' := 20) rfl (hb hby d1_5) rfl (tlt hc5).1 (by decide) (by decide) ?_
      exact Steps.refl _
    have pre3 := pre2.trans st3
    have st4 : Steps p.tables e below (T2.setTop (mkF m 20 #[.val (.ref x0), .val (.int x1)] [])) (T2.setTop (mkF m 21 #[.val (.ref x0), .val (.int x1)] [(.int (0 : Int32))])) := by
      refine XS.iconst X2.here hx rfl (hb hby d1_20) ?_
      show Steps p.tables e below (T2.setTop (mkF m 21 #[.val (.ref x0), .val (.int x1)] [(.int (0 : Int32))])) _
      exact Steps.refl _
    have pre4 := pre3.trans st4
    obtain ⟨fs, hr, hrun, hended, hW, hsame⟩ := X2.leave (v := some (.int (0 : Int32))) (fun h => by rw [Bd.returns] at h; cases h)
    refine ⟨_, _, pre4.trans ?_, hrun, hended, _, _, rfl, ?_, ⟨_, rfl⟩, hW, hsame.mono (by decide) (by decide)⟩
    · show Steps p.tables e below (T2.setTop (mkF m 21 #[.val (.ref x0), .val (.int x1)] [(.int (0 : Int32))])) _
      exact retN X2 hx (t := .boolean) Bd.returns (by simp) (hb hby d1_21) hr
    · show Q1 Z x0 x1 w0 w1 h0 n0 _ T2.heap _
      rw [e2]
      have hF : own_F1 x0 x1 w0 w1 = (0 : Int32) := by
        simp only [own_F1, if_pos hc5]
      exact ⟨by rw [hF], N0, rfl⟩
  · have st5 : Steps p.tables e below (T2.setTop (mkF m 5 #[.val (.ref x0), .val (.int x1)] [(.int w0), (.int x1)])) (T2.setTop (mkF m 8 #[.val (.ref x0), .val (.int x1)] [])) := by
      refine XS.icmpNo X2.here hx rfl (hb hby d1_5) rfl (flt hc5).1 ?_
      exact Steps.refl _
    have pre5 := pre2.trans st5
    have st6 : Steps p.tables e below (T2.setTop (mkF m 8 #[.val (.ref x0), .val (.int x1)] [])) (T2.setTop (mkF m 10 #[.val (.ref x0), .val (.int x1)] [(.ref x0), (.int x1)])) := by
      refine XS.iloadN X2.here hx rfl (hb hby d1_8) rfl ?_
      show Steps p.tables e below (T2.setTop (mkF m 9 #[.val (.ref x0), .val (.int x1)] [(.int x1)])) _
      refine XS.aloadN X2.here hx rfl (hb hby d1_9) rfl rfl ?_
      show Steps p.tables e below (T2.setTop (mkF m 10 #[.val (.ref x0), .val (.int x1)] [(.ref x0), (.int x1)])) _
      exact Steps.refl _
    have pre6 := pre5.trans st6
    obtain ⟨T7, X7, e7, st7⟩ := getF X2 hx hZ hown (host := "") (Or.inl (hw _ (List.mem_of_getElem? (i := 11) rfl))) Via.refl e2 B1 (g := (mkF m 10 #[.val (.ref x0), .val (.int x1)] [(.ref x0), (.int x1)])) rfl rfl (hb hby d1_10)
    have pre7 : Steps p.tables e below (s₁.setTop (entryFrame m #[(.ref x0), (.int x1)] 2)) (T7.setTop (mkF m 13 #[.val (.ref x0), .val (.int x1)] [(.int w1), (.int x1)])) := pre6.trans (st7 _ (Steps.refl _))
    obtain ⟨v8, hv8⟩ : ∃ z : Int32, z = (if w1 < x1 then (0 : Int32) else (1 : Int32)) := ⟨_, rfl⟩
    have st9 : Steps p.tables e below (T7.setTop (mkF m 13 #[.val (.ref x0), .val (.int x1)] [(.int w1), (.int x1)])) (T7.setTop (mkF m 21 #[.val (.ref x0), .val (.int x1)] [(.int v8)])) := by
      subst v8
      refine Steps.trans (s₂ := T7.setTop (mkF m 21 #[.val (.ref x0), .val (.int x1)] [(.int (if w1 < x1 then (0 : Int32) else (1 : Int32)))])) ?_ ?_
      · by_cases hc13 : w1 < x1
        · refine XS.icmpYes X7.here hx rfl (pc0 := 13) (pc' := 20) rfl (hb hby d1_13) rfl (tlt hc13).2.2.1 (by decide) (by decide) ?_
          show Steps p.tables e below (T7.setTop (mkF m 20 #[.val (.ref x0), .val (.int x1)] [])) _
          refine XS.iconst X7.here hx rfl (hb hby d1_20) ?_
          show Steps p.tables e below (T7.setTop (mkF m 21 #[.val (.ref x0), .val (.int x1)] [(.int (0 : Int32))])) _
          try simp only [if_pos hc13]
          exact Steps.refl _
        · refine XS.icmpNo X7.here hx rfl (hb hby d1_13) rfl (flt hc13).2.2.1 ?_
          show Steps p.tables e below (T7.setTop (mkF m 16 #[.val (.ref x0), .val (.int x1)] [])) _
          refine XS.iconst X7.here hx rfl (hb hby d1_16) ?_
          show Steps p.tables e below (T7.setTop (mkF m 17 #[.val (.ref x0), .val (.int x1)] [(.int (1 : Int32))])) _
          refine XS.goto X7.here hx rfl (pc0 := 17) (pc' := 21) rfl (hb hby d1_17) (by decide) (by decide) ?_
          show Steps p.tables e below (T7.setTop (mkF m 21 #[.val (.ref x0), .val (.int x1)] [(.int (1 : Int32))])) _
          try simp only [if_neg hc13]
          exact Steps.refl _
      show Steps p.tables e below (T7.setTop (mkF m 21 #[.val (.ref x0), .val (.int x1)] [(.int (if w1 < x1 then (0 : Int32) else (1 : Int32)))])) _
      exact Steps.refl _
    have pre9 := pre7.trans st9
    obtain ⟨fs, hr, hrun, hended, hW, hsame⟩ := X7.leave (v := some (.int (nar .boolean v8))) (fun h => by rw [Bd.returns] at h; cases h)
    refine ⟨_, _, pre9.trans ?_, hrun, hended, _, _, rfl, ?_, ⟨_, rfl⟩, hW, hsame.mono (by decide) (by decide)⟩
    · show Steps p.tables e below (T7.setTop (mkF m 21 #[.val (.ref x0), .val (.int x1)] [(.int v8)])) _
      exact retN X7 hx (t := .boolean) Bd.returns (by simp) (hb hby d1_21) hr
    · show Q1 Z x0 x1 w0 w1 h0 n0 _ T7.heap _
      rw [e7]
      have hF : own_F1 x0 x1 w0 w1 = v8 := by
        subst v8
        simp only [own_F1, if_neg hc5]
      have hN : nar .boolean v8 = v8 := by
        subst v8
        repeat' split
        all_goals rfl
      exact ⟨by rw [hF, hN], N0, rfl⟩
theorem d2_0 : decode method_3_code 0 = .ok (.iload_n 0, 1) := by decide +kernel
theorem d2_1 : decode method_3_code 1 = .ok (.iconst 2, 1) := by decide +kernel
theorem d2_2 : decode method_3_code 2 = .ok (.if_icmp .ne 14, 3) := by decide +kernel
theorem d2_5 : decode method_3_code 5 = .ok (.iload_n 1, 1) := by decide +kernel
theorem d2_6 : decode method_3_code 6 = .ok (.iconst 2, 1) := by decide +kernel
theorem d2_7 : decode method_3_code 7 = .ok (.if_icmp .lt 7, 3) := by decide +kernel
theorem d2_10 : decode method_3_code 10 = .ok (.iconst 1, 1) := by decide +kernel
theorem d2_11 : decode method_3_code 11 = .ok (.goto 4, 3) := by decide +kernel
theorem d2_14 : decode method_3_code 14 = .ok (.iconst 0, 1) := by decide +kernel
theorem d2_15 : decode method_3_code 15 = .ok (.ireturn, 1) := by decide +kernel
theorem d2_16 : decode method_3_code 16 = .ok (.iload_n 1, 1) := by decide +kernel
theorem d2_17 : decode method_3_code 17 = .ok (.iconst 1, 1) := by decide +kernel
theorem d2_18 : decode method_3_code 18 = .ok (.if_icmp .ne 7, 3) := by decide +kernel
theorem d2_21 : decode method_3_code 21 = .ok (.iconst 1, 1) := by decide +kernel
theorem d2_22 : decode method_3_code 22 = .ok (.goto 4, 3) := by decide +kernel
theorem d2_25 : decode method_3_code 25 = .ok (.iconst 0, 1) := by decide +kernel
theorem d2_26 : decode method_3_code 26 = .ok (.ireturn, 1) := by decide +kernel
theorem pn2 : plainName "com/example/portia/portia/expression/NormalizerTakesPinLaw" = true := by first | (simp [plainName, overriddenIn]; done) | decide +kernel
theorem ef2 (m : MethodId) (x0 : Int32) (x1 : Int32) : entryFrame m #[(.int x0), (.int x1)] 2 = mkF m 0 #[.val (.int x0), .val (.int x1)] [] := by first | (simp [entryFrame, mkF, argsToLocals, Value.category]; done) | rfl
def own_F2 (x0 : Int32) (x1 : Int32) : Int32 := (if x0 = (2 : Int32) then (if x1 < (2 : Int32) then (0 : Int32) else (1 : Int32)) else (if x1 = (1 : Int32) then (1 : Int32) else (0 : Int32)))
def Q2 (Z : State) (x0 : Int32) (x1 : Int32) (h0 : Heap) (n0 : Nat) (v : Option Value) (h : Heap) (L : List Loc) : Prop := v = some (.int (own_F2 x0 x1)) ∧ Fr n0 L ∧ h = h0
set_option maxRecDepth 65536 in
set_option maxHeartbeats 40000000 in
theorem rm2 (l : Launch) (Z : State) (a0 : Array Value) (hw : ∀ d ∈ tables_1, d.before a0 Z = true) (ws : List Jvm.Cond) (x0 : Int32) (x1 : Int32) (h0 : Heap) (n0 : Nat) (Z0 : n0 ≤ h0.size) :
    MetFree l (⟨"com/example/portia/portia/expression/NormalizerTakesPinLaw", "expected", "(II)Z"⟩ : MethodName) (head1 (Jvm.Cond.code (⟨"com/example/portia/portia/expression/NormalizerTakesPinLaw", "expected", "(II)Z"⟩ : MethodName) method_3_code 2 (some .boolean) :: ws) ({ frames := 0, cells := 0, slots := 0, locals := 0 } : Room)) (fun a U => a = #[(.int x0), (.int x1)] ∧ Z.Warmed39 U.vm ∧ U.heap = h0) (fun _ _ _ _ _ => True) (fun _ U o U' => ∃ v L, o = .returned v ∧ Q2 Z x0 x1 h0 n0 v U'.heap L ∧ FrameEnd U o U' L ({ frames := 0, cells := 0, slots := 0, locals := 0 } : Room).cells ({ frames := 0, cells := 0, slots := 0, locals := 0 } : Room).slots) := by
  refine MetFree.of_bodySF (plainFor_of_name pn2) hisR ?_
  intro p e s m args below meth c s₁ Bd hml0 hP hK
  obtain ⟨rfl, hZ, hh⟩ := hP
  have hx := Bd.exec
  have hby := Bd.bytes
  have hml : c.maxLocals = 2 := hml0
  have hown : s.vm.findClass "com/example/portia/portia/expression/NormalizerTakesPinLaw" = some m.cls := findClass_of_methodNamed Bd.named
  have hnm := (name_of_methodNamed Bd.named Bd.method).1
  have X0 : Stand p l e ({ frames := 0, cells := 0, slots := 0, locals := 0 } : Room) s m #[(.int x0), (.int x1)] below meth c s₁ [] 0 0 := Stand.of_body Bd
  have e0 : s₁.heap = h0 := by rw [← hh, Bd.state]; rfl
  have N0 := Fr.nil n0
  have pre0 : Steps p.tables e below (s₁.setTop (entryFrame m #[(.int x0), (.int x1)] 2)) (s₁.setTop (mkF m 0 #[.val (.int x0), .val (.int x1)] [])) := castTop (ef2 m x0 x1) (Steps.refl _)
  have st1 : Steps p.tables e below (s₁.setTop (mkF m 0 #[.val (.int x0), .val (.int x1)] [])) (s₁.setTop (mkF m 2 #[.val (.int x0), .val (.int x1)] [(.int (2 : Int32)), (.int x0)])) := by
    refine XS.iloadN X0.here hx rfl (hb hby d2_0) rfl ?_
    show Steps p.tables e below (s₁.setTop (mkF m 1 #[.val (.int x0), .val (.int x1)] [(.int x0)])) _
    refine XS.iconst X0.here hx rfl (hb hby d2_1) ?_
    show Steps p.tables e below (s₁.setTop (mkF m 2 #[.val (.int x0), .val (.int x1)] [(.int (2 : Int32)), (.int x0)])) _
    exact Steps.refl _
  have pre1 := pre0.trans st1
  by_cases hc2 : x0 = (2 : Int32)
  · have st2 : Steps p.tables e below (s₁.setTop (mkF m 2 #[.val (.int x0), .val (.int x1)] [(.int (2 : Int32)), (.int x0)])) (s₁.setTop (mkF m 5 #[.val (.int x0), .val (.int x1)] [])) := by
      refine XS.icmpNo X0.here hx rfl (hb hby d2_2) rfl (teq hc2).2 ?_
      exact Steps.refl _
    have pre2 := pre1.trans st2
    obtain ⟨v3, hv3⟩ : ∃ z : Int32, z = (if x1 < (2 : Int32) then (0 : Int32) else (1 : Int32)) := ⟨_, rfl⟩
    have st4 : Steps p.tables e below (s₁.setTop (mkF m 5 #[.val (.int x0), .val (.int x1)] [])) (s₁.setTop (mkF m 15 #[.val (.int x0), .val (.int x1)] [(.int v3)])) := by
      subst v3
      refine XS.iloadN X0.here hx rfl (hb hby d2_5) rfl ?_
      show Steps p.tables e below (s₁.setTop (mkF m 6 #[.val (.int x0), .val (.int x1)] [(.int x1)])) _
      refine XS.iconst X0.here hx rfl (hb hby d2_6) ?_
      show Steps p.tables e below (s₁.setTop (mkF m 7 #[.val (.int x0), .val (.int x1)] [(.int (2 : Int32)), (.int x1)])) _
      refine Steps.trans (s₂ := s₁.setTop (mkF m 15 #[.val (.int x0), .val (.int x1)] [(.int (if x1 < (2 : Int32) then (0 : Int32) else (1 : Int32)))])) ?_ ?_
      · by_cases hc7 : x1 < (2 : Int32)
        · refine XS.icmpYes X0.here hx rfl (pc0 := 7) (pc' := 14) rfl (hb hby d2_7) rfl (tlt hc7).1 (by decide) (by decide) ?_
          show Steps p.tables e below (s₁.setTop (mkF m 14 #[.val (.int x0), .val (.int x1)] [])) _
          refine XS.iconst X0.here hx rfl (hb hby d2_14) ?_
          show Steps p.tables e below (s₁.setTop (mkF m 15 #[.val (.int x0), .val (.int x1)] [(.int (0 : Int32))])) _
          try simp only [if_pos hc7]
          exact Steps.refl _
        · refine XS.icmpNo X0.here hx rfl (hb hby d2_7) rfl (flt hc7).1 ?_
          show Steps p.tables e below (s₁.setTop (mkF m 10 #[.val (.int x0), .val (.int x1)] [])) _
          refine XS.iconst X0.here hx rfl (hb hby d2_10) ?_
          show Steps p.tables e below (s₁.setTop (mkF m 11 #[.val (.int x0), .val (.int x1)] [(.int (1 : Int32))])) _
          refine XS.goto X0.here hx rfl (pc0 := 11) (pc' := 15) rfl (hb hby d2_11) (by decide) (by decide) ?_
          show Steps p.tables e below (s₁.setTop (mkF m 15 #[.val (.int x0), .val (.int x1)] [(.int (1 : Int32))])) _
          try simp only [if_neg hc7]
          exact Steps.refl _
      show Steps p.tables e below (s₁.setTop (mkF m 15 #[.val (.int x0), .val (.int x1)] [(.int (if x1 < (2 : Int32) then (0 : Int32) else (1 : Int32)))])) _
      exact Steps.refl _
    have pre4 := pre2.trans st4
    obtain ⟨fs, hr, hrun, hended, hW, hsame⟩ := X0.leave (v := some (.int (nar .boolean v3))) (fun h => by rw [Bd.returns] at h; cases h)
    refine ⟨_, _, pre4.trans ?_, hrun, hended, _, _, rfl, ?_, ⟨_, rfl⟩, hW, hsame.mono (by decide) (by decide)⟩
    · show Steps p.tables e below (s₁.setTop (mkF m 15 #[.val (.int x0), .val (.int x1)] [(.int v3)])) _
      exact retN X0 hx (t := .boolean) Bd.returns (by simp) (hb hby d2_15) hr
    · show Q2 Z x0 x1 h0 n0 _ s₁.heap _
      rw [e0]
      have hF : own_F2 x0 x1 = v3 := by
        subst v3
        simp only [own_F2, if_pos hc2]
      have hN : nar .boolean v3 = v3 := by
        subst v3
        repeat' split
        all_goals rfl
      exact ⟨by rw [hF, hN], N0, rfl⟩
  · have st5 : Steps p.tables e below (s₁.setTop (mkF m 2 #[.val (.int x0), .val (.int x1)] [(.int (2 : Int32)), (.int x0)])) (s₁.setTop (mkF m 16 #[.val (.int x0), .val (.int x1)] [])) := by
      refine XS.icmpYes X0.here hx rfl (pc0 := 2) (pc' := 16) rfl (hb hby d2_2) rfl (feq hc2).2 (by decide) (by decide) ?_
      exact Steps.refl _
    have pre5 := pre1.trans st5
    obtain ⟨v6, hv6⟩ : ∃ z : Int32, z = (if x1 = (1 : Int32) then (1 : Int32) else (0 : Int32)) := ⟨_, rfl⟩
    have st7 : Steps p.tables e below (s₁.setTop (mkF m 16 #[.val (.int x0), .val (.int x1)] [])) (s₁.setTop (mkF m 26 #[.val (.int x0), .val (.int x1)] [(.int v6)])) := by
      subst v6
      refine XS.iloadN X0.here hx rfl (hb hby d2_16) rfl ?_
      show Steps p.tables e below (s₁.setTop (mkF m 17 #[.val (.int x0), .val (.int x1)] [(.int x1)])) _
      refine XS.iconst X0.here hx rfl (hb hby d2_17) ?_
      show Steps p.tables e below (s₁.setTop (mkF m 18 #[.val (.int x0), .val (.int x1)] [(.int (1 : Int32)), (.int x1)])) _
      refine Steps.trans (s₂ := s₁.setTop (mkF m 26 #[.val (.int x0), .val (.int x1)] [(.int (if x1 = (1 : Int32) then (1 : Int32) else (0 : Int32)))])) ?_ ?_
      · by_cases hc18 : x1 = (1 : Int32)
        · refine XS.icmpNo X0.here hx rfl (hb hby d2_18) rfl (teq hc18).2 ?_
          show Steps p.tables e below (s₁.setTop (mkF m 21 #[.val (.int x0), .val (.int x1)] [])) _
          refine XS.iconst X0.here hx rfl (hb hby d2_21) ?_
          show Steps p.tables e below (s₁.setTop (mkF m 22 #[.val (.int x0), .val (.int x1)] [(.int (1 : Int32))])) _
          refine XS.goto X0.here hx rfl (pc0 := 22) (pc' := 26) rfl (hb hby d2_22) (by decide) (by decide) ?_
          show Steps p.tables e below (s₁.setTop (mkF m 26 #[.val (.int x0), .val (.int x1)] [(.int (1 : Int32))])) _
          try simp only [if_pos hc18]
          exact Steps.refl _
        · refine XS.icmpYes X0.here hx rfl (pc0 := 18) (pc' := 25) rfl (hb hby d2_18) rfl (feq hc18).2 (by decide) (by decide) ?_
          show Steps p.tables e below (s₁.setTop (mkF m 25 #[.val (.int x0), .val (.int x1)] [])) _
          refine XS.iconst X0.here hx rfl (hb hby d2_25) ?_
          show Steps p.tables e below (s₁.setTop (mkF m 26 #[.val (.int x0), .val (.int x1)] [(.int (0 : Int32))])) _
          try simp only [if_neg hc18]
          exact Steps.refl _
      show Steps p.tables e below (s₁.setTop (mkF m 26 #[.val (.int x0), .val (.int x1)] [(.int (if x1 = (1 : Int32) then (1 : Int32) else (0 : Int32)))])) _
      exact Steps.refl _
    have pre7 := pre5.trans st7
    obtain ⟨fs, hr, hrun, hended, hW, hsame⟩ := X0.leave (v := some (.int (nar .boolean v6))) (fun h => by rw [Bd.returns] at h; cases h)
    refine ⟨_, _, pre7.trans ?_, hrun, hended, _, _, rfl, ?_, ⟨_, rfl⟩, hW, hsame.mono (by decide) (by decide)⟩
    · show Steps p.tables e below (s₁.setTop (mkF m 26 #[.val (.int x0), .val (.int x1)] [(.int v6)])) _
      exact retN X0 hx (t := .boolean) Bd.returns (by simp) (hb hby d2_26) hr
    · show Q2 Z x0 x1 h0 n0 _ s₁.heap _
      rw [e0]
      have hF : own_F2 x0 x1 = v6 := by
        subst v6
        simp only [own_F2, if_neg hc2]
      have hN : nar .boolean v6 = v6 := by
        subst v6
        repeat' split
        all_goals rfl
      exact ⟨by rw [hF, hN], N0, rfl⟩
theorem own_k01 (x : Addr) (a k : Int32) (h : k = 0 ∨ k = 1) : own_F1 x a (1 : Int32) (1 : Int32) = own_F2 k a := by
  have e1 : (1 : Int32).toInt = 1 := by decide
  have hk : ¬ k = (2 : Int32) := by rcases h with rfl | rfl <;> decide
  have q1 : a < (1 : Int32) ↔ a.toInt < 1 := by rw [Int32.lt_iff_toInt_lt, e1]
  have q2 : (1 : Int32) < a ↔ 1 < a.toInt := by rw [Int32.lt_iff_toInt_lt, e1]
  have q3 : a = (1 : Int32) ↔ a.toInt = 1 := by rw [← Int32.toInt_inj, e1]
  simp only [own_F1, own_F2, if_neg hk, q1, q2, q3]
  repeat' split
  all_goals first | rfl | omega
theorem own_k2 (x : Addr) (a k : Int32) (h : k = 2) : own_F1 x a (2 : Int32) (2147483647 : Int32) = own_F2 k a := by
  have e1 : (2 : Int32).toInt = 2 := by decide
  have e2 : (2147483647 : Int32).toInt = 2147483647 := by decide
  have r := rng32 a
  subst h
  have q1 : a < (2 : Int32) ↔ a.toInt < 2 := by rw [Int32.lt_iff_toInt_lt, e1]
  have q2 : (2147483647 : Int32) < a ↔ 2147483647 < a.toInt := by rw [Int32.lt_iff_toInt_lt, e2]
  simp only [own_F1, own_F2, if_true, q1, q2]
  repeat' split
  all_goals first | rfl | omega
theorem own_k {x k : Int32} (h : k = ((x &&& (2147483647 : Int32)) % (3 : Int32))) (h0 : ¬ k = (0 : Int32)) (h1 : ¬ k = (1 : Int32)) : k = 2 := by
  have q := own_mask x
  have r := (c_irem (x &&& (2147483647 : Int32)) (3 : Int32) 3 (by decide)).1 q.1
  have e0 : (0 : Int32).toInt = 0 := by decide
  have e1 : (1 : Int32).toInt = 1 := by decide
  have e2 : (2 : Int32).toInt = 2 := by decide
  rw [← h] at r
  rw [← Int32.toInt_inj] at *
  omega
theorem pn0 : plainName "com/example/portia/portia/expression/NormalizerTakesPinLaw" = true := by first | (simp [plainName, overriddenIn]; done) | decide +kernel
theorem pd0_0 : parseMethodDescriptor "(I)Z" = some ⟨[.int], some .boolean⟩ := by decide +kernel
theorem pd0_1 : parseMethodDescriptor "(II)Z" = some ⟨[.int, .int], some .boolean⟩ := by decide +kernel
theorem ef0 (m : MethodId) (x0 : Int32) (x1 : Int32) (x2 : Int32) : entryFrame m #[(.int x0), (.int x1), (.int x2)] maxLocals = mkF m 0 #[.val (.int x0), .val (.int x1), .val (.int x2), .unset, .unset, .unset] [] := by first | (simp [entryFrame, mkF, argsToLocals, Value.category, maxLocals]; done) | rfl
def Q0 (Z : State) (x0 : Int32) (x1 : Int32) (x2 : Int32) (aL : Addr) (aR : Addr) (aF : Addr) (h0 : Heap) (n0 : Nat) (v : Option Value) (h : Heap) (L : List Loc) : Prop := v = some (.int 1) ∧ Fr n0 L
set_option maxRecDepth 65536 in
set_option maxHeartbeats 40000000 in
theorem rm0 (l : Launch) (Z : State) (a0 : Array Value) (hw : ∀ d ∈ tables_1, d.before a0 Z = true) (ws : List Jvm.Cond) (x0 : Int32) (x1 : Int32) (x2 : Int32) (aL : Addr) (aR : Addr) (aF : Addr) (h0 : Heap) (n0 : Nat) (Z0 : n0 ≤ h0.size) (O0 : Old Z n0 h0) (B0 : Exa Z h0 aL "com/example/portia/portia/expression/Normalizer") (B1 : Exa Z h0 aR "com/example/portia/portia/expression/Normalizer") (B2 : Exa Z h0 aF "com/example/portia/portia/expression/Normalizer") (B3 : Fld Z h0 aL "com/example/portia/portia/expression/Normalizer" "fewest" "I" (.int (1 : Int32))) (B4 : Fld Z h0 aL "com/example/portia/portia/expression/Normalizer" "most" "I" (.int (1 : Int32))) (B5 : Fld Z h0 aR "com/example/portia/portia/expression/Normalizer" "fewest" "I" (.int (1 : Int32))) (B6 : Fld Z h0 aR "com/example/portia/portia/expression/Normalizer" "most" "I" (.int (1 : Int32))) (B7 : Fld Z h0 aF "com/example/portia/portia/expression/Normalizer" "fewest" "I" (.int (2 : Int32))) (B8 : Fld Z h0 aF "com/example/portia/portia/expression/Normalizer" "most" "I" (.int (2147483647 : Int32))) (S_L : Sta Z Z.heap "com/example/portia/portia/expression/Normalizer" "NORMALIZE_LINEAR" "Lcom/example/portia/portia/expression/Normalizer;" (.ref aL)) (S_R : Sta Z Z.heap "com/example/portia/portia/expression/Normalizer" "RECIPROCAL_RANK" "Lcom/example/portia/portia/expression/Normalizer;" (.ref aR)) (S_F : Sta Z Z.heap "com/example/portia/portia/expression/Normalizer" "RECIPROCAL_RANK_FUSION" "Lcom/example/portia/portia/expression/Normalizer;" (.ref aF)) :
    MetFree l x (head1 (Jvm.Cond.code x code maxLocals ret :: ws) room_1) (fun a U => a = #[(.int x0), (.int x1), (.int x2)] ∧ Z.Warmed39 U.vm ∧ U.heap = h0) (fun _ _ _ _ _ => True) (fun _ U o U' => ∃ v L, o = .returned v ∧ Q0 Z x0 x1 x2 aL aR aF h0 n0 v U'.heap L ∧ FrameEnd U o U' L room_1.cells room_1.slots) := by
  refine MetFree.of_bodySF (plainFor_of_name pn0) hisR ?_
  intro p e s m args below meth c s₁ Bd hml0 hP hK
  obtain ⟨rfl, hZ, hh⟩ := hP
  have hx := Bd.exec
  have hby := Bd.bytes
  have hml : c.maxLocals = 6 := hml0
  have hown : s.vm.findClass "com/example/portia/portia/expression/NormalizerTakesPinLaw" = some m.cls := findClass_of_methodNamed Bd.named
  have hnm := (name_of_methodNamed Bd.named Bd.method).1
  have X0 : Stand p l e room_1 s m #[(.int x0), (.int x1), (.int x2)] below meth c s₁ [] 0 0 := Stand.of_body Bd
  have e0 : s₁.heap = h0 := by rw [← hh, Bd.state]; rfl
  have N0 := Fr.nil n0
  have pre0 : Steps p.tables e below (s₁.setTop (entryFrame m #[(.int x0), (.int x1), (.int x2)] maxLocals)) (s₁.setTop (mkF m 0 #[.val (.int x0), .val (.int x1), .val (.int x2), .unset, .unset, .unset] [])) := castTop (ef0 m x0 x1 x2) (Steps.refl _)
  have K0 := Keep.refl h0 []
  obtain ⟨v1, hv1⟩ : ∃ z : Int32, z = ((x0 &&& (2147483647 : Int32)) % (3 : Int32)) := ⟨_, rfl⟩
  have st2 : Steps p.tables e below (s₁.setTop (mkF m 0 #[.val (.int x0), .val (.int x1), .val (.int x2), .unset, .unset, .unset] [])) (s₁.setTop (mkF m 8 #[.val (.int x0), .val (.int x1), .val (.int x2), .val (.int v1), .unset, .unset] [(.int v1)])) := by
    subst v1
    refine XS.iloadN X0.here hx rfl (hb hby at_0) rfl ?_
    show Steps p.tables e below (s₁.setTop (mkF m 1 #[.val (.int x0), .val (.int x1), .val (.int x2), .unset, .unset, .unset] [(.int x0)])) _
    refine X0.ldcInt hx hown (mvT hZ (hw _ (List.mem_of_getElem? (i := 0) rfl))) (g := (mkF m 1 #[.val (.int x0), .val (.int x1), .val (.int x2), .unset, .unset, .unset] [(.int x0)])) rfl (hb hby at_1) _ ?_
    show Steps p.tables e below (s₁.setTop (mkF m 3 #[.val (.int x0), .val (.int x1), .val (.int x2), .unset, .unset, .unset] [(.int (2147483647 : Int32)), (.int x0)])) _
    refine XS.iand X0.here hx rfl (hb hby at_3) rfl ?_
    show Steps p.tables e below (s₁.setTop (mkF m 4 #[.val (.int x0), .val (.int x1), .val (.int x2), .unset, .unset, .unset] [(.int (x0 &&& (2147483647 : Int32)))])) _
    refine XS.iconst X0.here hx rfl (hb hby at_4) ?_
    show Steps p.tables e below (s₁.setTop (mkF m 5 #[.val (.int x0), .val (.int x1), .val (.int x2), .unset, .unset, .unset] [(.int (3 : Int32)), (.int (x0 &&& (2147483647 : Int32)))])) _
    refine iremM X0 hx rfl (hb hby at_5) rfl (by decide) ?_
    show Steps p.tables e below (s₁.setTop (mkF m 6 #[.val (.int x0), .val (.int x1), .val (.int x2), .unset, .unset, .unset] [(.int ((x0 &&& (2147483647 : Int32)) % (3 : Int32)))])) _
    refine XS.istoreN X0.here hx rfl (hb hby at_6) rfl (l' := #[.val (.int x0), .val (.int x1), .val (.int x2), .val (.int ((x0 &&& (2147483647 : Int32)) % (3 : Int32))), .unset, .unset]) rfl ?_
    show Steps p.tables e below (s₁.setTop (mkF m 7 #[.val (.int x0), .val (.int x1), .val (.int x2), .val (.int ((x0 &&& (2147483647 : Int32)) % (3 : Int32))), .unset, .unset] [])) _
    refine XS.iloadN X0.here hx rfl (hb hby at_7) rfl ?_
    show Steps p.tables e below (s₁.setTop (mkF m 8 #[.val (.int x0), .val (.int x1), .val (.int x2), .val (.int ((x0 &&& (2147483647 : Int32)) % (3 : Int32))), .unset, .unset] [(.int ((x0 &&& (2147483647 : Int32)) % (3 : Int32)))])) _
    exact Steps.refl _
  have pre2 := pre0.trans st2
  by_cases hc8 : v1 = (0 : Int32)
  · have st3 : Steps p.tables e below (s₁.setTop (mkF m 8 #[.val (.int x0), .val (.int x1), .val (.int x2), .val (.int v1), .unset, .unset] [(.int v1)])) (s₁.setTop (mkF m 11 #[.val (.int x0), .val (.int x1), .val (.int x2), .val (.int v1), .unset, .unset] [])) := by
      refine XS.ifNo X0.here hx rfl (hb hby at_8) rfl ((if0 _ _).trans (teq hc8).2) ?_
      exact Steps.refl _
    have pre3 := pre2.trans st3
    obtain ⟨T4, X4, e4, st4⟩ := getS2 X0 hx hZ hown (host := "") (Or.inl (hw _ (List.mem_of_getElem? (i := 1) rfl))) Via.refl e0 (S_L.ext O0.2) (g := (mkF m 11 #[.val (.int x0), .val (.int x1), .val (.int x2), .val (.int v1), .unset, .unset] [])) rfl (hb hby at_11)
    have pre4 : Steps p.tables e below (s₁.setTop (entryFrame m #[(.int x0), (.int x1), (.int x2)] maxLocals)) (T4.setTop (mkF m 14 #[.val (.int x0), .val (.int x1), .val (.int x2), .val (.int v1), .unset, .unset] [(.ref aL)])) := pre3.trans (st4 _ (Steps.refl _))
    obtain ⟨v5, hv5⟩ : ∃ z : Int32, z = ((x2 &&& (7 : Int32)) - (3 : Int32)) := ⟨_, rfl⟩
    have st6 : Steps p.tables e below (T4.setTop (mkF m 14 #[.val (.int x0), .val (.int x1), .val (.int x2), .val (.int v1), .unset, .unset] [(.ref aL)])) (T4.setTop (mkF m 48 #[.val (.int x0), .val (.int x1), .val (.int x2), .val (.int v1), .val (.ref aL), .val (.int v5)] [(.int x1), (.ref aL)])) := by
      subst v5
      refine XS.astore X4.here hx rfl (hb hby at_14) rfl rfl (l' := #[.val (.int x0), .val (.int x1), .val (.int x2), .val (.int v1), .val (.ref aL), .unset]) rfl ?_
      show Steps p.tables e below (T4.setTop (mkF m 16 #[.val (.int x0), .val (.int x1), .val (.int x2), .val (.int v1), .val (.ref aL), .unset] [])) _
      refine XS.goto X4.here hx rfl (pc0 := 16) (pc' := 37) rfl (hb hby at_16) (by decide) (by decide) ?_
      show Steps p.tables e below (T4.setTop (mkF m 37 #[.val (.int x0), .val (.int x1), .val (.int x2), .val (.int v1), .val (.ref aL), .unset] [])) _
      refine XS.iloadN X4.here hx rfl (hb hby at_37) rfl ?_
      show Steps p.tables e below (T4.setTop (mkF m 38 #[.val (.int x0), .val (.int x1), .val (.int x2), .val (.int v1), .val (.ref aL), .unset] [(.int x2)])) _
      refine XS.bipush X4.here hx rfl (hb hby at_38) ?_
      show Steps p.tables e below (T4.setTop (mkF m 40 #[.val (.int x0), .val (.int x1), .val (.int x2), .val (.int v1), .val (.ref aL), .unset] [(.int (7 : Int32)), (.int x2)])) _
      refine XS.iand X4.here hx rfl (hb hby at_40) rfl ?_
      show Steps p.tables e below (T4.setTop (mkF m 41 #[.val (.int x0), .val (.int x1), .val (.int x2), .val (.int v1), .val (.ref aL), .unset] [(.int (x2 &&& (7 : Int32)))])) _
      refine XS.iconst X4.here hx rfl (hb hby at_41) ?_
      show Steps p.tables e below (T4.setTop (mkF m 42 #[.val (.int x0), .val (.int x1), .val (.int x2), .val (.int v1), .val (.ref aL), .unset] [(.int (3 : Int32)), (.int (x2 &&& (7 : Int32)))])) _
      refine XS.isub X4.here hx rfl (hb hby at_42) rfl ?_
      show Steps p.tables e below (T4.setTop (mkF m 43 #[.val (.int x0), .val (.int x1), .val (.int x2), .val (.int v1), .val (.ref aL), .unset] [(.int ((x2 &&& (7 : Int32)) - (3 : Int32)))])) _
      refine XS.istore X4.here hx rfl (hb hby at_43) rfl (l' := #[.val (.int x0), .val (.int x1), .val (.int x2), .val (.int v1), .val (.ref aL), .val (.int ((x2 &&& (7 : Int32)) - (3 : Int32)))]) rfl ?_
      show Steps p.tables e below (T4.setTop (mkF m 45 #[.val (.int x0), .val (.int x1), .val (.int x2), .val (.int v1), .val (.ref aL), .val (.int ((x2 &&& (7 : Int32)) - (3 : Int32)))] [])) _
      refine XS.aload X4.here hx rfl (hb hby at_45) rfl rfl ?_
      show Steps p.tables e below (T4.setTop (mkF m 47 #[.val (.int x0), .val (.int x1), .val (.int x2), .val (.int v1), .val (.ref aL), .val (.int ((x2 &&& (7 : Int32)) - (3 : Int32)))] [(.ref aL)])) _
      refine XS.iloadN X4.here hx rfl (hb hby at_47) rfl ?_
      show Steps p.tables e below (T4.setTop (mkF m 48 #[.val (.int x0), .val (.int x1), .val (.int x2), .val (.int v1), .val (.ref aL), .val (.int ((x2 &&& (7 : Int32)) - (3 : Int32)))] [(.int x1), (.ref aL)])) _
      exact Steps.refl _
    have pre6 := pre4.trans st6
    obtain ⟨cq7, kq7, q7a, q7b, q7c⟩ := isOf hZ e4 B0
    obtain ⟨_, _, ⟨T7, L7, k7, n7⟩, -, X7, ⟨Lc7, hQ7, l7, y7, z7⟩, st7⟩ := X4.virtualBack hx (y := (⟨"com/example/portia/portia/expression/Normalizer", "takes", "(I)Z"⟩ : MethodName)) (z := (⟨"com/example/portia/portia/expression/Normalizer", "takes", "(I)Z"⟩ : MethodName)) hown (mvT hZ (hw _ (List.mem_of_getElem? (i := 4) rfl))) (mvT hZ (hw _ (List.mem_of_getElem? (i := 5) rfl))) (notFace_of_selects (args := #[]) (mvT hZ (hw _ (List.mem_of_getElem? (i := 7) rfl)))) (mvT hZ (hw _ (List.mem_of_getElem? (i := 7) rfl))) (mvT hZ (hw _ (List.mem_of_getElem? (i := 6) rfl))) (by decide) (backOf (W := 0) (rm1 l Z a0 hw [] aL x1 (1 : Int32) (1 : Int32) h0 n0 Z0 B3 B4) hZ (hw _ (List.mem_of_getElem? (i := 8) rfl)) (hw _ (List.mem_of_getElem? (i := 2) rfl)) (by decide) (by decide)) q7a q7c (g := (mkF m 48 #[.val (.int x0), .val (.int x1), .val (.int x2), .val (.int v1), .val (.ref aL), .val (.int v5)] [(.int x1), (.ref aL)])) rfl (by rw [hml]; rfl) (Steps.refl _) (argsL := [(.int x1)]) (rest := []) (lenOf pd0_0 rfl) rfl (by show 2 * 0 + _ ≤ _; exact Nat.le_of_eq rfl) (hb hby at_48) (fun _ _ => ⟨rfl, e4, (by decide : 0 + 0 ≤ _), (by decide : 0 + 0 ≤ _)⟩)
    dsimp only [Pt.U, Pt.locs, Pt.cells, Pt.slots] at X7 l7 y7 z7 st7 hQ7
    subst l7 y7 z7
    obtain ⟨rfl, Nq7, e7⟩ := hQ7
    have N7 := Fr.app N0 Nq7
    have pre7 : Steps p.tables e below (s₁.setTop (entryFrame m #[(.int x0), (.int x1), (.int x2)] maxLocals)) (T7.setTop (mkF m 51 #[.val (.int x0), .val (.int x1), .val (.int x2), .val (.int v1), .val (.ref aL), .val (.int v5)] [(.int (own_F1 aL x1 (1 : Int32) (1 : Int32)))])) := pre6.trans st7
    obtain ⟨v8, hv8⟩ : ∃ z : Int32, z = (own_F1 aL x1 (1 : Int32) (1 : Int32)) := ⟨_, rfl⟩
    have st9 : Steps p.tables e below (T7.setTop (mkF m 51 #[.val (.int x0), .val (.int x1), .val (.int x2), .val (.int v1), .val (.ref aL), .val (.int v5)] [(.int (own_F1 aL x1 (1 : Int32) (1 : Int32)))])) (T7.setTop (mkF m 53 #[.val (.int x0), .val (.int x1), .val (.int x2), .val (.int v1), .val (.ref aL), .val (.int v5)] [(.int x1), (.int v1), (.int v8)])) := by
      subst v8
      refine XS.iloadN X7.here hx rfl (hb hby at_51) rfl ?_
      show Steps p.tables e below (T7.setTop (mkF m 52 #[.val (.int x0), .val (.int x1), .val (.int x2), .val (.int v1), .val (.ref aL), .val (.int v5)] [(.int v1), (.int (own_F1 aL x1 (1 : Int32) (1 : Int32)))])) _
      refine XS.iloadN X7.here hx rfl (hb hby at_52) rfl ?_
      show Steps p.tables e below (T7.setTop (mkF m 53 #[.val (.int x0), .val (.int x1), .val (.int x2), .val (.int v1), .val (.ref aL), .val (.int v5)] [(.int x1), (.int v1), (.int (own_F1 aL x1 (1 : Int32) (1 : Int32)))])) _
      exact Steps.refl _
    have pre9 := pre7.trans st9
    obtain ⟨_, _, ⟨T10, L10, k10, n10⟩, -, X10, ⟨Lc10, hQ10, l10, y10, z10⟩, st10⟩ := Jvm.LawKit.callS X7 hx (y := (⟨"com/example/portia/portia/expression/NormalizerTakesPinLaw", "expected", "(II)Z"⟩ : MethodName)) hown (mvT hZ (hw _ (List.mem_of_getElem? (i := 13) rfl))) (mvT hZ (hw _ (List.mem_of_getElem? (i := 14) rfl))) (mvT hZ (hw _ (List.mem_of_getElem? (i := 15) rfl))) (mvT hZ (hw _ (List.mem_of_getElem? (i := 16) rfl))) (by decide) (backOf (W := 1) (rm2 l Z a0 hw [] v1 x1 h0 n0 Z0) hZ (hw _ (List.mem_of_getElem? (i := 16) rfl)) (hw _ (List.mem_of_getElem? (i := 15) rfl)) (by decide) (by decide)) (g := (mkF m 53 #[.val (.int x0), .val (.int x1), .val (.int x2), .val (.int v1), .val (.ref aL), .val (.int v5)] [(.int x1), (.int v1), (.int v8)])) rfl (by rw [hml]; rfl) (argsL := [(.int v1), (.int x1)]) (rest := [(.int v8)]) (lenOf pd0_1 rfl) rfl (by show 2 * 0 + _ ≤ _; exact Nat.le_of_eq rfl) (hb hby at_53) (fun _ _ => ⟨rfl, e7, (by decide : 0 + 0 ≤ _), (by decide : 0 + 0 ≤ _)⟩)
    dsimp only [Pt.U, Pt.locs, Pt.cells, Pt.slots] at X10 l10 y10 z10 st10 hQ10
    subst l10 y10 z10
    obtain ⟨rfl, Nq10, e10⟩ := hQ10
    have N10 := Fr.app N7 Nq10
    have pre10 : Steps p.tables e below (s₁.setTop (entryFrame m #[(.int x0), (.int x1), (.int x2)] maxLocals)) (T10.setTop (mkF m 56 #[.val (.int x0), .val (.int x1), .val (.int x2), .val (.int v1), .val (.ref aL), .val (.int v5)] [(.int (own_F2 v1 x1)), (.int v8)])) := pre9.trans (st10 _ (Steps.refl _))
    have hc56 : v8 = (own_F2 v1 x1) := by
      rw [hv8]
      first | exact own_k01 _ _ _ (Or.inl hc8) | exact own_k01 _ _ _ (Or.inr hc21) | exact own_k2 _ _ _ (own_k hv1 hc8 hc21)
    have st11 : Steps p.tables e below (T10.setTop (mkF m 56 #[.val (.int x0), .val (.int x1), .val (.int x2), .val (.int v1), .val (.ref aL), .val (.int v5)] [(.int (own_F2 v1 x1)), (.int v8)])) (T10.setTop (mkF m 59 #[.val (.int x0), .val (.int x1), .val (.int x2), .val (.int v1), .val (.ref aL), .val (.int v5)] [])) := by
      refine XS.icmpNo X10.here hx rfl (hb hby at_56) rfl (teq hc56).2 ?_
      exact Steps.refl _
    have pre11 := pre10.trans st11
    have st12 : Steps p.tables e below (T10.setTop (mkF m 59 #[.val (.int x0), .val (.int x1), .val (.int x2), .val (.int v1), .val (.ref aL), .val (.int v5)] [])) (T10.setTop (mkF m 63 #[.val (.int x0), .val (.int x1), .val (.int x2), .val (.int v1), .val (.ref aL), .val (.int v5)] [(.int v5), (.ref aL)])) := by
      refine XS.aload X10.here hx rfl (hb hby at_59) rfl rfl ?_
      show Steps p.tables e below (T10.setTop (mkF m 61 #[.val (.int x0), .val (.int x1), .val (.int x2), .val (.int v1), .val (.ref aL), .val (.int v5)] [(.ref aL)])) _
      refine XS.iload X10.here hx rfl (hb hby at_61) rfl ?_
      show Steps p.tables e below (T10.setTop (mkF m 63 #[.val (.int x0), .val (.int x1), .val (.int x2), .val (.int v1), .val (.ref aL), .val (.int v5)] [(.int v5), (.ref aL)])) _
      exact Steps.refl _
    have pre12 := pre11.trans st12
    obtain ⟨cq13, kq13, q13a, q13b, q13c⟩ := isOf hZ e10 B0
    obtain ⟨_, _, ⟨T13, L13, k13, n13⟩, -, X13, ⟨Lc13, hQ13, l13, y13, z13⟩, st13⟩ := X10.virtualBack hx (y := (⟨"com/example/portia/portia/expression/Normalizer", "takes", "(I)Z"⟩ : MethodName)) (z := (⟨"com/example/portia/portia/expression/Normalizer", "takes", "(I)Z"⟩ : MethodName)) hown (mvT hZ (hw _ (List.mem_of_getElem? (i := 4) rfl))) (mvT hZ (hw _ (List.mem_of_getElem? (i := 5) rfl))) (notFace_of_selects (args := #[]) (mvT hZ (hw _ (List.mem_of_getElem? (i := 7) rfl)))) (mvT hZ (hw _ (List.mem_of_getElem? (i := 7) rfl))) (mvT hZ (hw _ (List.mem_of_getElem? (i := 6) rfl))) (by decide) (backOf (W := 0) (rm1 l Z a0 hw [] aL v5 (1 : Int32) (1 : Int32) h0 n0 Z0 B3 B4) hZ (hw _ (List.mem_of_getElem? (i := 8) rfl)) (hw _ (List.mem_of_getElem? (i := 2) rfl)) (by decide) (by decide)) q13a q13c (g := (mkF m 63 #[.val (.int x0), .val (.int x1), .val (.int x2), .val (.int v1), .val (.ref aL), .val (.int v5)] [(.int v5), (.ref aL)])) rfl (by rw [hml]; rfl) (Steps.refl _) (argsL := [(.int v5)]) (rest := []) (lenOf pd0_0 rfl) rfl (by show 2 * 0 + _ ≤ _; exact Nat.le_of_eq rfl) (hb hby at_63) (fun _ _ => ⟨rfl, e10, (by decide : 0 + 0 ≤ _), (by decide : 0 + 0 ≤ _)⟩)
    dsimp only [Pt.U, Pt.locs, Pt.cells, Pt.slots] at X13 l13 y13 z13 st13 hQ13
    subst l13 y13 z13
    obtain ⟨rfl, Nq13, e13⟩ := hQ13
    have N13 := Fr.app N10 Nq13
    have pre13 : Steps p.tables e below (s₁.setTop (entryFrame m #[(.int x0), (.int x1), (.int x2)] maxLocals)) (T13.setTop (mkF m 66 #[.val (.int x0), .val (.int x1), .val (.int x2), .val (.int v1), .val (.ref aL), .val (.int v5)] [(.int (own_F1 aL v5 (1 : Int32) (1 : Int32)))])) := pre12.trans st13
    obtain ⟨v14, hv14⟩ : ∃ z : Int32, z = (own_F1 aL v5 (1 : Int32) (1 : Int32)) := ⟨_, rfl⟩
    have st15 : Steps p.tables e below (T13.setTop (mkF m 66 #[.val (.int x0), .val (.int x1), .val (.int x2), .val (.int v1), .val (.ref aL), .val (.int v5)] [(.int (own_F1 aL v5 (1 : Int32) (1 : Int32)))])) (T13.setTop (mkF m 69 #[.val (.int x0), .val (.int x1), .val (.int x2), .val (.int v1), .val (.ref aL), .val (.int v5)] [(.int v5), (.int v1), (.int v14)])) := by
      subst v14
      refine XS.iloadN X13.here hx rfl (hb hby at_66) rfl ?_
      show Steps p.tables e below (T13.setTop (mkF m 67 #[.val (.int x0), .val (.int x1), .val (.int x2), .val (.int v1), .val (.ref aL), .val (.int v5)] [(.int v1), (.int (own_F1 aL v5 (1 : Int32) (1 : Int32)))])) _
      refine XS.iload X13.here hx rfl (hb hby at_67) rfl ?_
      show Steps p.tables e below (T13.setTop (mkF m 69 #[.val (.int x0), .val (.int x1), .val (.int x2), .val (.int v1), .val (.ref aL), .val (.int v5)] [(.int v5), (.int v1), (.int (own_F1 aL v5 (1 : Int32) (1 : Int32)))])) _
      exact Steps.refl _
    have pre15 := pre13.trans st15
    obtain ⟨_, _, ⟨T16, L16, k16, n16⟩, -, X16, ⟨Lc16, hQ16, l16, y16, z16⟩, st16⟩ := Jvm.LawKit.callS X13 hx (y := (⟨"com/example/portia/portia/expression/NormalizerTakesPinLaw", "expected", "(II)Z"⟩ : MethodName)) hown (mvT hZ (hw _ (List.mem_of_getElem? (i := 13) rfl))) (mvT hZ (hw _ (List.mem_of_getElem? (i := 14) rfl))) (mvT hZ (hw _ (List.mem_of_getElem? (i := 15) rfl))) (mvT hZ (hw _ (List.mem_of_getElem? (i := 16) rfl))) (by decide) (backOf (W := 1) (rm2 l Z a0 hw [] v1 v5 h0 n0 Z0) hZ (hw _ (List.mem_of_getElem? (i := 16) rfl)) (hw _ (List.mem_of_getElem? (i := 15) rfl)) (by decide) (by decide)) (g := (mkF m 69 #[.val (.int x0), .val (.int x1), .val (.int x2), .val (.int v1), .val (.ref aL), .val (.int v5)] [(.int v5), (.int v1), (.int v14)])) rfl (by rw [hml]; rfl) (argsL := [(.int v1), (.int v5)]) (rest := [(.int v14)]) (lenOf pd0_1 rfl) rfl (by show 2 * 0 + _ ≤ _; exact Nat.le_of_eq rfl) (hb hby at_69) (fun _ _ => ⟨rfl, e13, (by decide : 0 + 0 ≤ _), (by decide : 0 + 0 ≤ _)⟩)
    dsimp only [Pt.U, Pt.locs, Pt.cells, Pt.slots] at X16 l16 y16 z16 st16 hQ16
    subst l16 y16 z16
    obtain ⟨rfl, Nq16, e16⟩ := hQ16
    have N16 := Fr.app N13 Nq16
    have pre16 : Steps p.tables e below (s₁.setTop (entryFrame m #[(.int x0), (.int x1), (.int x2)] maxLocals)) (T16.setTop (mkF m 72 #[.val (.int x0), .val (.int x1), .val (.int x2), .val (.int v1), .val (.ref aL), .val (.int v5)] [(.int (own_F2 v1 v5)), (.int v14)])) := pre15.trans (st16 _ (Steps.refl _))
    have hc72 : v14 = (own_F2 v1 v5) := by
      rw [hv14]
      first | exact own_k01 _ _ _ (Or.inl hc8) | exact own_k01 _ _ _ (Or.inr hc21) | exact own_k2 _ _ _ (own_k hv1 hc8 hc21)
    have st17 : Steps p.tables e below (T16.setTop (mkF m 72 #[.val (.int x0), .val (.int x1), .val (.int x2), .val (.int v1), .val (.ref aL), .val (.int v5)] [(.int (own_F2 v1 v5)), (.int v14)])) (T16.setTop (mkF m 75 #[.val (.int x0), .val (.int x1), .val (.int x2), .val (.int v1), .val (.ref aL), .val (.int v5)] [])) := by
      refine XS.icmpNo X16.here hx rfl (hb hby at_72) rfl (teq hc72).2 ?_
      exact Steps.refl _
    have pre17 := pre16.trans st17
    have st18 : Steps p.tables e below (T16.setTop (mkF m 75 #[.val (.int x0), .val (.int x1), .val (.int x2), .val (.int v1), .val (.ref aL), .val (.int v5)] [])) (T16.setTop (mkF m 80 #[.val (.int x0), .val (.int x1), .val (.int x2), .val (.int v1), .val (.ref aL), .val (.int v5)] [(.int (1 : Int32))])) := by
      refine XS.iconst X16.here hx rfl (hb hby at_75) ?_
      show Steps p.tables e below (T16.setTop (mkF m 76 #[.val (.int x0), .val (.int x1), .val (.int x2), .val (.int v1), .val (.ref aL), .val (.int v5)] [(.int (1 : Int32))])) _
      refine XS.goto X16.here hx rfl (pc0 := 76) (pc' := 80) rfl (hb hby at_76) (by decide) (by decide) ?_
      show Steps p.tables e below (T16.setTop (mkF m 80 #[.val (.int x0), .val (.int x1), .val (.int x2), .val (.int v1), .val (.ref aL), .val (.int v5)] [(.int (1 : Int32))])) _
      exact Steps.refl _
    have pre18 := pre17.trans st18
    obtain ⟨fs, hr, hrun, hended, hW, hsame⟩ := X16.leave (v := some (.int (1 : Int32))) (fun h => by rw [Bd.returns] at h; cases h)
    refine ⟨_, _, pre18.trans ?_, hrun, hended, _, _, rfl, ?_, ⟨_, rfl⟩, hW, hsame.mono (by decide) (by decide)⟩
    · show Steps p.tables e below (T16.setTop (mkF m 80 #[.val (.int x0), .val (.int x1), .val (.int x2), .val (.int v1), .val (.ref aL), .val (.int v5)] [(.int (1 : Int32))])) _
      exact retN X16 hx (t := .boolean) Bd.returns (by simp) (hb hby at_80) hr
    · show Q0 Z x0 x1 x2 aL aR aF h0 n0 _ T16.heap _
      rw [e16]
      exact ⟨rfl, N16⟩
  · have st19 : Steps p.tables e below (s₁.setTop (mkF m 8 #[.val (.int x0), .val (.int x1), .val (.int x2), .val (.int v1), .unset, .unset] [(.int v1)])) (s₁.setTop (mkF m 19 #[.val (.int x0), .val (.int x1), .val (.int x2), .val (.int v1), .unset, .unset] [])) := by
      refine XS.ifYes X0.here hx rfl (pc0 := 8) (pc' := 19) rfl (hb hby at_8) rfl ((if0 _ _).trans (feq hc8).2) (by decide) (by decide) ?_
      exact Steps.refl _
    have pre19 := pre2.trans st19
    have st20 : Steps p.tables e below (s₁.setTop (mkF m 19 #[.val (.int x0), .val (.int x1), .val (.int x2), .val (.int v1), .unset, .unset] [])) (s₁.setTop (mkF m 21 #[.val (.int x0), .val (.int x1), .val (.int x2), .val (.int v1), .unset, .unset] [(.int (1 : Int32)), (.int v1)])) := by
      refine XS.iloadN X0.here hx rfl (hb hby at_19) rfl ?_
      show Steps p.tables e below (s₁.setTop (mkF m 20 #[.val (.int x0), .val (.int x1), .val (.int x2), .val (.int v1), .unset, .unset] [(.int v1)])) _
      refine XS.iconst X0.here hx rfl (hb hby at_20) ?_
      show Steps p.tables e below (s₁.setTop (mkF m 21 #[.val (.int x0), .val (.int x1), .val (.int x2), .val (.int v1), .unset, .unset] [(.int (1 : Int32)), (.int v1)])) _
      exact Steps.refl _
    have pre20 := pre19.trans st20
    by_cases hc21 : v1 = (1 : Int32)
    · have st21 : Steps p.tables e below (s₁.setTop (mkF m 21 #[.val (.int x0), .val (.int x1), .val (.int x2), .val (.int v1), .unset, .unset] [(.int (1 : Int32)), (.int v1)])) (s₁.setTop (mkF m 24 #[.val (.int x0), .val (.int x1), .val (.int x2), .val (.int v1), .unset, .unset] [])) := by
        refine XS.icmpNo X0.here hx rfl (hb hby at_21) rfl (teq hc21).2 ?_
        exact Steps.refl _
      have pre21 := pre20.trans st21
      obtain ⟨T22, X22, e22, st22⟩ := getS2 X0 hx hZ hown (host := "") (Or.inl (hw _ (List.mem_of_getElem? (i := 17) rfl))) Via.refl e0 (S_R.ext O0.2) (g := (mkF m 24 #[.val (.int x0), .val (.int x1), .val (.int x2), .val (.int v1), .unset, .unset] [])) rfl (hb hby at_24)
      have pre22 : Steps p.tables e below (s₁.setTop (entryFrame m #[(.int x0), (.int x1), (.int x2)] maxLocals)) (T22.setTop (mkF m 27 #[.val (.int x0), .val (.int x1), .val (.int x2), .val (.int v1), .unset, .unset] [(.ref aR)])) := pre21.trans (st22 _ (Steps.refl _))
      obtain ⟨v23, hv23⟩ : ∃ z : Int32, z = ((x2 &&& (7 : Int32)) - (3 : Int32)) := ⟨_, rfl⟩
      have st24 : Steps p.tables e below (T22.setTop (mkF m 27 #[.val (.int x0), .val (.int x1), .val (.int x2), .val (.int v1), .unset, .unset] [(.ref aR)])) (T22.setTop (mkF m 48 #[.val (.int x0), .val (.int x1), .val (.int x2), .val (.int v1), .val (.ref aR), .val (.int v23)] [(.int x1), (.ref aR)])) := by
        subst v23
        refine XS.astore X22.here hx rfl (hb hby at_27) rfl rfl (l' := #[.val (.int x0), .val (.int x1), .val (.int x2), .val (.int v1), .val (.ref aR), .unset]) rfl ?_
        show Steps p.tables e below (T22.setTop (mkF m 29 #[.val (.int x0), .val (.int x1), .val (.int x2), .val (.int v1), .val (.ref aR), .unset] [])) _
        refine XS.goto X22.here hx rfl (pc0 := 29) (pc' := 37) rfl (hb hby at_29) (by decide) (by decide) ?_
        show Steps p.tables e below (T22.setTop (mkF m 37 #[.val (.int x0), .val (.int x1), .val (.int x2), .val (.int v1), .val (.ref aR), .unset] [])) _
        refine XS.iloadN X22.here hx rfl (hb hby at_37) rfl ?_
        show Steps p.tables e below (T22.setTop (mkF m 38 #[.val (.int x0), .val (.int x1), .val (.int x2), .val (.int v1), .val (.ref aR), .unset] [(.int x2)])) _
        refine XS.bipush X22.here hx rfl (hb hby at_38) ?_
        show Steps p.tables e below (T22.setTop (mkF m 40 #[.val (.int x0), .val (.int x1), .val (.int x2), .val (.int v1), .val (.ref aR), .unset] [(.int (7 : Int32)), (.int x2)])) _
        refine XS.iand X22.here hx rfl (hb hby at_40) rfl ?_
        show Steps p.tables e below (T22.setTop (mkF m 41 #[.val (.int x0), .val (.int x1), .val (.int x2), .val (.int v1), .val (.ref aR), .unset] [(.int (x2 &&& (7 : Int32)))])) _
        refine XS.iconst X22.here hx rfl (hb hby at_41) ?_
        show Steps p.tables e below (T22.setTop (mkF m 42 #[.val (.int x0), .val (.int x1), .val (.int x2), .val (.int v1), .val (.ref aR), .unset] [(.int (3 : Int32)), (.int (x2 &&& (7 : Int32)))])) _
        refine XS.isub X22.here hx rfl (hb hby at_42) rfl ?_
        show Steps p.tables e below (T22.setTop (mkF m 43 #[.val (.int x0), .val (.int x1), .val (.int x2), .val (.int v1), .val (.ref aR), .unset] [(.int ((x2 &&& (7 : Int32)) - (3 : Int32)))])) _
        refine XS.istore X22.here hx rfl (hb hby at_43) rfl (l' := #[.val (.int x0), .val (.int x1), .val (.int x2), .val (.int v1), .val (.ref aR), .val (.int ((x2 &&& (7 : Int32)) - (3 : Int32)))]) rfl ?_
        show Steps p.tables e below (T22.setTop (mkF m 45 #[.val (.int x0), .val (.int x1), .val (.int x2), .val (.int v1), .val (.ref aR), .val (.int ((x2 &&& (7 : Int32)) - (3 : Int32)))] [])) _
        refine XS.aload X22.here hx rfl (hb hby at_45) rfl rfl ?_
        show Steps p.tables e below (T22.setTop (mkF m 47 #[.val (.int x0), .val (.int x1), .val (.int x2), .val (.int v1), .val (.ref aR), .val (.int ((x2 &&& (7 : Int32)) - (3 : Int32)))] [(.ref aR)])) _
        refine XS.iloadN X22.here hx rfl (hb hby at_47) rfl ?_
        show Steps p.tables e below (T22.setTop (mkF m 48 #[.val (.int x0), .val (.int x1), .val (.int x2), .val (.int v1), .val (.ref aR), .val (.int ((x2 &&& (7 : Int32)) - (3 : Int32)))] [(.int x1), (.ref aR)])) _
        exact Steps.refl _
      have pre24 := pre22.trans st24
      obtain ⟨cq25, kq25, q25a, q25b, q25c⟩ := isOf hZ e22 B1
      obtain ⟨_, _, ⟨T25, L25, k25, n25⟩, -, X25, ⟨Lc25, hQ25, l25, y25, z25⟩, st25⟩ := X22.virtualBack hx (y := (⟨"com/example/portia/portia/expression/Normalizer", "takes", "(I)Z"⟩ : MethodName)) (z := (⟨"com/example/portia/portia/expression/Normalizer", "takes", "(I)Z"⟩ : MethodName)) hown (mvT hZ (hw _ (List.mem_of_getElem? (i := 4) rfl))) (mvT hZ (hw _ (List.mem_of_getElem? (i := 5) rfl))) (notFace_of_selects (args := #[]) (mvT hZ (hw _ (List.mem_of_getElem? (i := 7) rfl)))) (mvT hZ (hw _ (List.mem_of_getElem? (i := 7) rfl))) (mvT hZ (hw _ (List.mem_of_getElem? (i := 6) rfl))) (by decide) (backOf (W := 0) (rm1 l Z a0 hw [] aR x1 (1 : Int32) (1 : Int32) h0 n0 Z0 B5 B6) hZ (hw _ (List.mem_of_getElem? (i := 8) rfl)) (hw _ (List.mem_of_getElem? (i := 2) rfl)) (by decide) (by decide)) q25a q25c (g := (mkF m 48 #[.val (.int x0), .val (.int x1), .val (.int x2), .val (.int v1), .val (.ref aR), .val (.int v23)] [(.int x1), (.ref aR)])) rfl (by rw [hml]; rfl) (Steps.refl _) (argsL := [(.int x1)]) (rest := []) (lenOf pd0_0 rfl) rfl (by show 2 * 0 + _ ≤ _; exact Nat.le_of_eq rfl) (hb hby at_48) (fun _ _ => ⟨rfl, e22, (by decide : 0 + 0 ≤ _), (by decide : 0 + 0 ≤ _)⟩)
      dsimp only [Pt.U, Pt.locs, Pt.cells, Pt.slots] at X25 l25 y25 z25 st25 hQ25
      subst l25 y25 z25
      obtain ⟨rfl, Nq25, e25⟩ := hQ25
      have N25 := Fr.app N0 Nq25
      have pre25 : Steps p.tables e below (s₁.setTop (entryFrame m #[(.int x0), (.int x1), (.int x2)] maxLocals)) (T25.setTop (mkF m 51 #[.val (.int x0), .val (.int x1), .val (.int x2), .val (.int v1), .val (.ref aR), .val (.int v23)] [(.int (own_F1 aR x1 (1 : Int32) (1 : Int32)))])) := pre24.trans st25
      obtain ⟨v26, hv26⟩ : ∃ z : Int32, z = (own_F1 aR x1 (1 : Int32) (1 : Int32)) := ⟨_, rfl⟩
      have st27 : Steps p.tables e below (T25.setTop (mkF m 51 #[.val (.int x0), .val (.int x1), .val (.int x2), .val (.int v1), .val (.ref aR), .val (.int v23)] [(.int (own_F1 aR x1 (1 : Int32) (1 : Int32)))])) (T25.setTop (mkF m 53 #[.val (.int x0), .val (.int x1), .val (.int x2), .val (.int v1), .val (.ref aR), .val (.int v23)] [(.int x1), (.int v1), (.int v26)])) := by
        subst v26
        refine XS.iloadN X25.here hx rfl (hb hby at_51) rfl ?_
        show Steps p.tables e below (T25.setTop (mkF m 52 #[.val (.int x0), .val (.int x1), .val (.int x2), .val (.int v1), .val (.ref aR), .val (.int v23)] [(.int v1), (.int (own_F1 aR x1 (1 : Int32) (1 : Int32)))])) _
        refine XS.iloadN X25.here hx rfl (hb hby at_52) rfl ?_
        show Steps p.tables e below (T25.setTop (mkF m 53 #[.val (.int x0), .val (.int x1), .val (.int x2), .val (.int v1), .val (.ref aR), .val (.int v23)] [(.int x1), (.int v1), (.int (own_F1 aR x1 (1 : Int32) (1 : Int32)))])) _
        exact Steps.refl _
      have pre27 := pre25.trans st27
      obtain ⟨_, _, ⟨T28, L28, k28, n28⟩, -, X28, ⟨Lc28, hQ28, l28, y28, z28⟩, st28⟩ := Jvm.LawKit.callS X25 hx (y := (⟨"com/example/portia/portia/expression/NormalizerTakesPinLaw", "expected", "(II)Z"⟩ : MethodName)) hown (mvT hZ (hw _ (List.mem_of_getElem? (i := 13) rfl))) (mvT hZ (hw _ (List.mem_of_getElem? (i := 14) rfl))) (mvT hZ (hw _ (List.mem_of_getElem? (i := 15) rfl))) (mvT hZ (hw _ (List.mem_of_getElem? (i := 16) rfl))) (by decide) (backOf (W := 1) (rm2 l Z a0 hw [] v1 x1 h0 n0 Z0) hZ (hw _ (List.mem_of_getElem? (i := 16) rfl)) (hw _ (List.mem_of_getElem? (i := 15) rfl)) (by decide) (by decide)) (g := (mkF m 53 #[.val (.int x0), .val (.int x1), .val (.int x2), .val (.int v1), .val (.ref aR), .val (.int v23)] [(.int x1), (.int v1), (.int v26)])) rfl (by rw [hml]; rfl) (argsL := [(.int v1), (.int x1)]) (rest := [(.int v26)]) (lenOf pd0_1 rfl) rfl (by show 2 * 0 + _ ≤ _; exact Nat.le_of_eq rfl) (hb hby at_53) (fun _ _ => ⟨rfl, e25, (by decide : 0 + 0 ≤ _), (by decide : 0 + 0 ≤ _)⟩)
      dsimp only [Pt.U, Pt.locs, Pt.cells, Pt.slots] at X28 l28 y28 z28 st28 hQ28
      subst l28 y28 z28
      obtain ⟨rfl, Nq28, e28⟩ := hQ28
      have N28 := Fr.app N25 Nq28
      have pre28 : Steps p.tables e below (s₁.setTop (entryFrame m #[(.int x0), (.int x1), (.int x2)] maxLocals)) (T28.setTop (mkF m 56 #[.val (.int x0), .val (.int x1), .val (.int x2), .val (.int v1), .val (.ref aR), .val (.int v23)] [(.int (own_F2 v1 x1)), (.int v26)])) := pre27.trans (st28 _ (Steps.refl _))
      have hc56 : v26 = (own_F2 v1 x1) := by
        rw [hv26]
        first | exact own_k01 _ _ _ (Or.inl hc8) | exact own_k01 _ _ _ (Or.inr hc21) | exact own_k2 _ _ _ (own_k hv1 hc8 hc21)
      have st29 : Steps p.tables e below (T28.setTop (mkF m 56 #[.val (.int x0), .val (.int x1), .val (.int x2), .val (.int v1), .val (.ref aR), .val (.int v23)] [(.int (own_F2 v1 x1)), (.int v26)])) (T28.setTop (mkF m 59 #[.val (.int x0), .val (.int x1), .val (.int x2), .val (.int v1), .val (.ref aR), .val (.int v23)] [])) := by
        refine XS.icmpNo X28.here hx rfl (hb hby at_56) rfl (teq hc56).2 ?_
        exact Steps.refl _
      have pre29 := pre28.trans st29
      have st30 : Steps p.tables e below (T28.setTop (mkF m 59 #[.val (.int x0), .val (.int x1), .val (.int x2), .val (.int v1), .val (.ref aR), .val (.int v23)] [])) (T28.setTop (mkF m 63 #[.val (.int x0), .val (.int x1), .val (.int x2), .val (.int v1), .val (.ref aR), .val (.int v23)] [(.int v23), (.ref aR)])) := by
        refine XS.aload X28.here hx rfl (hb hby at_59) rfl rfl ?_
        show Steps p.tables e below (T28.setTop (mkF m 61 #[.val (.int x0), .val (.int x1), .val (.int x2), .val (.int v1), .val (.ref aR), .val (.int v23)] [(.ref aR)])) _
        refine XS.iload X28.here hx rfl (hb hby at_61) rfl ?_
        show Steps p.tables e below (T28.setTop (mkF m 63 #[.val (.int x0), .val (.int x1), .val (.int x2), .val (.int v1), .val (.ref aR), .val (.int v23)] [(.int v23), (.ref aR)])) _
        exact Steps.refl _
      have pre30 := pre29.trans st30
      obtain ⟨cq31, kq31, q31a, q31b, q31c⟩ := isOf hZ e28 B1
      obtain ⟨_, _, ⟨T31, L31, k31, n31⟩, -, X31, ⟨Lc31, hQ31, l31, y31, z31⟩, st31⟩ := X28.virtualBack hx (y := (⟨"com/example/portia/portia/expression/Normalizer", "takes", "(I)Z"⟩ : MethodName)) (z := (⟨"com/example/portia/portia/expression/Normalizer", "takes", "(I)Z"⟩ : MethodName)) hown (mvT hZ (hw _ (List.mem_of_getElem? (i := 4) rfl))) (mvT hZ (hw _ (List.mem_of_getElem? (i := 5) rfl))) (notFace_of_selects (args := #[]) (mvT hZ (hw _ (List.mem_of_getElem? (i := 7) rfl)))) (mvT hZ (hw _ (List.mem_of_getElem? (i := 7) rfl))) (mvT hZ (hw _ (List.mem_of_getElem? (i := 6) rfl))) (by decide) (backOf (W := 0) (rm1 l Z a0 hw [] aR v23 (1 : Int32) (1 : Int32) h0 n0 Z0 B5 B6) hZ (hw _ (List.mem_of_getElem? (i := 8) rfl)) (hw _ (List.mem_of_getElem? (i := 2) rfl)) (by decide) (by decide)) q31a q31c (g := (mkF m 63 #[.val (.int x0), .val (.int x1), .val (.int x2), .val (.int v1), .val (.ref aR), .val (.int v23)] [(.int v23), (.ref aR)])) rfl (by rw [hml]; rfl) (Steps.refl _) (argsL := [(.int v23)]) (rest := []) (lenOf pd0_0 rfl) rfl (by show 2 * 0 + _ ≤ _; exact Nat.le_of_eq rfl) (hb hby at_63) (fun _ _ => ⟨rfl, e28, (by decide : 0 + 0 ≤ _), (by decide : 0 + 0 ≤ _)⟩)
      dsimp only [Pt.U, Pt.locs, Pt.cells, Pt.slots] at X31 l31 y31 z31 st31 hQ31
      subst l31 y31 z31
      obtain ⟨rfl, Nq31, e31⟩ := hQ31
      have N31 := Fr.app N28 Nq31
      have pre31 : Steps p.tables e below (s₁.setTop (entryFrame m #[(.int x0), (.int x1), (.int x2)] maxLocals)) (T31.setTop (mkF m 66 #[.val (.int x0), .val (.int x1), .val (.int x2), .val (.int v1), .val (.ref aR), .val (.int v23)] [(.int (own_F1 aR v23 (1 : Int32) (1 : Int32)))])) := pre30.trans st31
      obtain ⟨v32, hv32⟩ : ∃ z : Int32, z = (own_F1 aR v23 (1 : Int32) (1 : Int32)) := ⟨_, rfl⟩
      have st33 : Steps p.tables e below (T31.setTop (mkF m 66 #[.val (.int x0), .val (.int x1), .val (.int x2), .val (.int v1), .val (.ref aR), .val (.int v23)] [(.int (own_F1 aR v23 (1 : Int32) (1 : Int32)))])) (T31.setTop (mkF m 69 #[.val (.int x0), .val (.int x1), .val (.int x2), .val (.int v1), .val (.ref aR), .val (.int v23)] [(.int v23), (.int v1), (.int v32)])) := by
        subst v32
        refine XS.iloadN X31.here hx rfl (hb hby at_66) rfl ?_
        show Steps p.tables e below (T31.setTop (mkF m 67 #[.val (.int x0), .val (.int x1), .val (.int x2), .val (.int v1), .val (.ref aR), .val (.int v23)] [(.int v1), (.int (own_F1 aR v23 (1 : Int32) (1 : Int32)))])) _
        refine XS.iload X31.here hx rfl (hb hby at_67) rfl ?_
        show Steps p.tables e below (T31.setTop (mkF m 69 #[.val (.int x0), .val (.int x1), .val (.int x2), .val (.int v1), .val (.ref aR), .val (.int v23)] [(.int v23), (.int v1), (.int (own_F1 aR v23 (1 : Int32) (1 : Int32)))])) _
        exact Steps.refl _
      have pre33 := pre31.trans st33
      obtain ⟨_, _, ⟨T34, L34, k34, n34⟩, -, X34, ⟨Lc34, hQ34, l34, y34, z34⟩, st34⟩ := Jvm.LawKit.callS X31 hx (y := (⟨"com/example/portia/portia/expression/NormalizerTakesPinLaw", "expected", "(II)Z"⟩ : MethodName)) hown (mvT hZ (hw _ (List.mem_of_getElem? (i := 13) rfl))) (mvT hZ (hw _ (List.mem_of_getElem? (i := 14) rfl))) (mvT hZ (hw _ (List.mem_of_getElem? (i := 15) rfl))) (mvT hZ (hw _ (List.mem_of_getElem? (i := 16) rfl))) (by decide) (backOf (W := 1) (rm2 l Z a0 hw [] v1 v23 h0 n0 Z0) hZ (hw _ (List.mem_of_getElem? (i := 16) rfl)) (hw _ (List.mem_of_getElem? (i := 15) rfl)) (by decide) (by decide)) (g := (mkF m 69 #[.val (.int x0), .val (.int x1), .val (.int x2), .val (.int v1), .val (.ref aR), .val (.int v23)] [(.int v23), (.int v1), (.int v32)])) rfl (by rw [hml]; rfl) (argsL := [(.int v1), (.int v23)]) (rest := [(.int v32)]) (lenOf pd0_1 rfl) rfl (by show 2 * 0 + _ ≤ _; exact Nat.le_of_eq rfl) (hb hby at_69) (fun _ _ => ⟨rfl, e31, (by decide : 0 + 0 ≤ _), (by decide : 0 + 0 ≤ _)⟩)
      dsimp only [Pt.U, Pt.locs, Pt.cells, Pt.slots] at X34 l34 y34 z34 st34 hQ34
      subst l34 y34 z34
      obtain ⟨rfl, Nq34, e34⟩ := hQ34
      have N34 := Fr.app N31 Nq34
      have pre34 : Steps p.tables e below (s₁.setTop (entryFrame m #[(.int x0), (.int x1), (.int x2)] maxLocals)) (T34.setTop (mkF m 72 #[.val (.int x0), .val (.int x1), .val (.int x2), .val (.int v1), .val (.ref aR), .val (.int v23)] [(.int (own_F2 v1 v23)), (.int v32)])) := pre33.trans (st34 _ (Steps.refl _))
      have hc72 : v32 = (own_F2 v1 v23) := by
        rw [hv32]
        first | exact own_k01 _ _ _ (Or.inl hc8) | exact own_k01 _ _ _ (Or.inr hc21) | exact own_k2 _ _ _ (own_k hv1 hc8 hc21)
      have st35 : Steps p.tables e below (T34.setTop (mkF m 72 #[.val (.int x0), .val (.int x1), .val (.int x2), .val (.int v1), .val (.ref aR), .val (.int v23)] [(.int (own_F2 v1 v23)), (.int v32)])) (T34.setTop (mkF m 75 #[.val (.int x0), .val (.int x1), .val (.int x2), .val (.int v1), .val (.ref aR), .val (.int v23)] [])) := by
        refine XS.icmpNo X34.here hx rfl (hb hby at_72) rfl (teq hc72).2 ?_
        exact Steps.refl _
      have pre35 := pre34.trans st35
      have st36 : Steps p.tables e below (T34.setTop (mkF m 75 #[.val (.int x0), .val (.int x1), .val (.int x2), .val (.int v1), .val (.ref aR), .val (.int v23)] [])) (T34.setTop (mkF m 80 #[.val (.int x0), .val (.int x1), .val (.int x2), .val (.int v1), .val (.ref aR), .val (.int v23)] [(.int (1 : Int32))])) := by
        refine XS.iconst X34.here hx rfl (hb hby at_75) ?_
        show Steps p.tables e below (T34.setTop (mkF m 76 #[.val (.int x0), .val (.int x1), .val (.int x2), .val (.int v1), .val (.ref aR), .val (.int v23)] [(.int (1 : Int32))])) _
        refine XS.goto X34.here hx rfl (pc0 := 76) (pc' := 80) rfl (hb hby at_76) (by decide) (by decide) ?_
        show Steps p.tables e below (T34.setTop (mkF m 80 #[.val (.int x0), .val (.int x1), .val (.int x2), .val (.int v1), .val (.ref aR), .val (.int v23)] [(.int (1 : Int32))])) _
        exact Steps.refl _
      have pre36 := pre35.trans st36
      obtain ⟨fs, hr, hrun, hended, hW, hsame⟩ := X34.leave (v := some (.int (1 : Int32))) (fun h => by rw [Bd.returns] at h; cases h)
      refine ⟨_, _, pre36.trans ?_, hrun, hended, _, _, rfl, ?_, ⟨_, rfl⟩, hW, hsame.mono (by decide) (by decide)⟩
      · show Steps p.tables e below (T34.setTop (mkF m 80 #[.val (.int x0), .val (.int x1), .val (.int x2), .val (.int v1), .val (.ref aR), .val (.int v23)] [(.int (1 : Int32))])) _
        exact retN X34 hx (t := .boolean) Bd.returns (by simp) (hb hby at_80) hr
      · show Q0 Z x0 x1 x2 aL aR aF h0 n0 _ T34.heap _
        rw [e34]
        exact ⟨rfl, N34⟩
    · have st37 : Steps p.tables e below (s₁.setTop (mkF m 21 #[.val (.int x0), .val (.int x1), .val (.int x2), .val (.int v1), .unset, .unset] [(.int (1 : Int32)), (.int v1)])) (s₁.setTop (mkF m 32 #[.val (.int x0), .val (.int x1), .val (.int x2), .val (.int v1), .unset, .unset] [])) := by
        refine XS.icmpYes X0.here hx rfl (pc0 := 21) (pc' := 32) rfl (hb hby at_21) rfl (feq hc21).2 (by decide) (by decide) ?_
        exact Steps.refl _
      have pre37 := pre20.trans st37
      obtain ⟨T38, X38, e38, st38⟩ := getS2 X0 hx hZ hown (host := "") (Or.inl (hw _ (List.mem_of_getElem? (i := 19) rfl))) Via.refl e0 (S_F.ext O0.2) (g := (mkF m 32 #[.val (.int x0), .val (.int x1), .val (.int x2), .val (.int v1), .unset, .unset] [])) rfl (hb hby at_32)
      have pre38 : Steps p.tables e below (s₁.setTop (entryFrame m #[(.int x0), (.int x1), (.int x2)] maxLocals)) (T38.setTop (mkF m 35 #[.val (.int x0), .val (.int x1), .val (.int x2), .val (.int v1), .unset, .unset] [(.ref aF)])) := pre37.trans (st38 _ (Steps.refl _))
      obtain ⟨v39, hv39⟩ : ∃ z : Int32, z = ((x2 &&& (7 : Int32)) - (3 : Int32)) := ⟨_, rfl⟩
      have st40 : Steps p.tables e below (T38.setTop (mkF m 35 #[.val (.int x0), .val (.int x1), .val (.int x2), .val (.int v1), .unset, .unset] [(.ref aF)])) (T38.setTop (mkF m 48 #[.val (.int x0), .val (.int x1), .val (.int x2), .val (.int v1), .val (.ref aF), .val (.int v39)] [(.int x1), (.ref aF)])) := by
        subst v39
        refine XS.astore X38.here hx rfl (hb hby at_35) rfl rfl (l' := #[.val (.int x0), .val (.int x1), .val (.int x2), .val (.int v1), .val (.ref aF), .unset]) rfl ?_
        show Steps p.tables e below (T38.setTop (mkF m 37 #[.val (.int x0), .val (.int x1), .val (.int x2), .val (.int v1), .val (.ref aF), .unset] [])) _
        refine XS.iloadN X38.here hx rfl (hb hby at_37) rfl ?_
        show Steps p.tables e below (T38.setTop (mkF m 38 #[.val (.int x0), .val (.int x1), .val (.int x2), .val (.int v1), .val (.ref aF), .unset] [(.int x2)])) _
        refine XS.bipush X38.here hx rfl (hb hby at_38) ?_
        show Steps p.tables e below (T38.setTop (mkF m 40 #[.val (.int x0), .val (.int x1), .val (.int x2), .val (.int v1), .val (.ref aF), .unset] [(.int (7 : Int32)), (.int x2)])) _
        refine XS.iand X38.here hx rfl (hb hby at_40) rfl ?_
        show Steps p.tables e below (T38.setTop (mkF m 41 #[.val (.int x0), .val (.int x1), .val (.int x2), .val (.int v1), .val (.ref aF), .unset] [(.int (x2 &&& (7 : Int32)))])) _
        refine XS.iconst X38.here hx rfl (hb hby at_41) ?_
        show Steps p.tables e below (T38.setTop (mkF m 42 #[.val (.int x0), .val (.int x1), .val (.int x2), .val (.int v1), .val (.ref aF), .unset] [(.int (3 : Int32)), (.int (x2 &&& (7 : Int32)))])) _
        refine XS.isub X38.here hx rfl (hb hby at_42) rfl ?_
        show Steps p.tables e below (T38.setTop (mkF m 43 #[.val (.int x0), .val (.int x1), .val (.int x2), .val (.int v1), .val (.ref aF), .unset] [(.int ((x2 &&& (7 : Int32)) - (3 : Int32)))])) _
        refine XS.istore X38.here hx rfl (hb hby at_43) rfl (l' := #[.val (.int x0), .val (.int x1), .val (.int x2), .val (.int v1), .val (.ref aF), .val (.int ((x2 &&& (7 : Int32)) - (3 : Int32)))]) rfl ?_
        show Steps p.tables e below (T38.setTop (mkF m 45 #[.val (.int x0), .val (.int x1), .val (.int x2), .val (.int v1), .val (.ref aF), .val (.int ((x2 &&& (7 : Int32)) - (3 : Int32)))] [])) _
        refine XS.aload X38.here hx rfl (hb hby at_45) rfl rfl ?_
        show Steps p.tables e below (T38.setTop (mkF m 47 #[.val (.int x0), .val (.int x1), .val (.int x2), .val (.int v1), .val (.ref aF), .val (.int ((x2 &&& (7 : Int32)) - (3 : Int32)))] [(.ref aF)])) _
        refine XS.iloadN X38.here hx rfl (hb hby at_47) rfl ?_
        show Steps p.tables e below (T38.setTop (mkF m 48 #[.val (.int x0), .val (.int x1), .val (.int x2), .val (.int v1), .val (.ref aF), .val (.int ((x2 &&& (7 : Int32)) - (3 : Int32)))] [(.int x1), (.ref aF)])) _
        exact Steps.refl _
      have pre40 := pre38.trans st40
      obtain ⟨cq41, kq41, q41a, q41b, q41c⟩ := isOf hZ e38 B2
      obtain ⟨_, _, ⟨T41, L41, k41, n41⟩, -, X41, ⟨Lc41, hQ41, l41, y41, z41⟩, st41⟩ := X38.virtualBack hx (y := (⟨"com/example/portia/portia/expression/Normalizer", "takes", "(I)Z"⟩ : MethodName)) (z := (⟨"com/example/portia/portia/expression/Normalizer", "takes", "(I)Z"⟩ : MethodName)) hown (mvT hZ (hw _ (List.mem_of_getElem? (i := 4) rfl))) (mvT hZ (hw _ (List.mem_of_getElem? (i := 5) rfl))) (notFace_of_selects (args := #[]) (mvT hZ (hw _ (List.mem_of_getElem? (i := 7) rfl)))) (mvT hZ (hw _ (List.mem_of_getElem? (i := 7) rfl))) (mvT hZ (hw _ (List.mem_of_getElem? (i := 6) rfl))) (by decide) (backOf (W := 0) (rm1 l Z a0 hw [] aF x1 (2 : Int32) (2147483647 : Int32) h0 n0 Z0 B7 B8) hZ (hw _ (List.mem_of_getElem? (i := 8) rfl)) (hw _ (List.mem_of_getElem? (i := 2) rfl)) (by decide) (by decide)) q41a q41c (g := (mkF m 48 #[.val (.int x0), .val (.int x1), .val (.int x2), .val (.int v1), .val (.ref aF), .val (.int v39)] [(.int x1), (.ref aF)])) rfl (by rw [hml]; rfl) (Steps.refl _) (argsL := [(.int x1)]) (rest := []) (lenOf pd0_0 rfl) rfl (by show 2 * 0 + _ ≤ _; exact Nat.le_of_eq rfl) (hb hby at_48) (fun _ _ => ⟨rfl, e38, (by decide : 0 + 0 ≤ _), (by decide : 0 + 0 ≤ _)⟩)
      dsimp only [Pt.U, Pt.locs, Pt.cells, Pt.slots] at X41 l41 y41 z41 st41 hQ41
      subst l41 y41 z41
      obtain ⟨rfl, Nq41, e41⟩ := hQ41
      have N41 := Fr.app N0 Nq41
      have pre41 : Steps p.tables e below (s₁.setTop (entryFrame m #[(.int x0), (.int x1), (.int x2)] maxLocals)) (T41.setTop (mkF m 51 #[.val (.int x0), .val (.int x1), .val (.int x2), .val (.int v1), .val (.ref aF), .val (.int v39)] [(.int (own_F1 aF x1 (2 : Int32) (2147483647 : Int32)))])) := pre40.trans st41
      obtain ⟨v42, hv42⟩ : ∃ z : Int32, z = (own_F1 aF x1 (2 : Int32) (2147483647 : Int32)) := ⟨_, rfl⟩
      have st43 : Steps p.tables e below (T41.setTop (mkF m 51 #[.val (.int x0), .val (.int x1), .val (.int x2), .val (.int v1), .val (.ref aF), .val (.int v39)] [(.int (own_F1 aF x1 (2 : Int32) (2147483647 : Int32)))])) (T41.setTop (mkF m 53 #[.val (.int x0), .val (.int x1), .val (.int x2), .val (.int v1), .val (.ref aF), .val (.int v39)] [(.int x1), (.int v1), (.int v42)])) := by
        subst v42
        refine XS.iloadN X41.here hx rfl (hb hby at_51) rfl ?_
        show Steps p.tables e below (T41.setTop (mkF m 52 #[.val (.int x0), .val (.int x1), .val (.int x2), .val (.int v1), .val (.ref aF), .val (.int v39)] [(.int v1), (.int (own_F1 aF x1 (2 : Int32) (2147483647 : Int32)))])) _
        refine XS.iloadN X41.here hx rfl (hb hby at_52) rfl ?_
        show Steps p.tables e below (T41.setTop (mkF m 53 #[.val (.int x0), .val (.int x1), .val (.int x2), .val (.int v1), .val (.ref aF), .val (.int v39)] [(.int x1), (.int v1), (.int (own_F1 aF x1 (2 : Int32) (2147483647 : Int32)))])) _
        exact Steps.refl _
      have pre43 := pre41.trans st43
      obtain ⟨_, _, ⟨T44, L44, k44, n44⟩, -, X44, ⟨Lc44, hQ44, l44, y44, z44⟩, st44⟩ := Jvm.LawKit.callS X41 hx (y := (⟨"com/example/portia/portia/expression/NormalizerTakesPinLaw", "expected", "(II)Z"⟩ : MethodName)) hown (mvT hZ (hw _ (List.mem_of_getElem? (i := 13) rfl))) (mvT hZ (hw _ (List.mem_of_getElem? (i := 14) rfl))) (mvT hZ (hw _ (List.mem_of_getElem? (i := 15) rfl))) (mvT hZ (hw _ (List.mem_of_getElem? (i := 16) rfl))) (by decide) (backOf (W := 1) (rm2 l Z a0 hw [] v1 x1 h0 n0 Z0) hZ (hw _ (List.mem_of_getElem? (i := 16) rfl)) (hw _ (List.mem_of_getElem? (i := 15) rfl)) (by decide) (by decide)) (g := (mkF m 53 #[.val (.int x0), .val (.int x1), .val (.int x2), .val (.int v1), .val (.ref aF), .val (.int v39)] [(.int x1), (.int v1), (.int v42)])) rfl (by rw [hml]; rfl) (argsL := [(.int v1), (.int x1)]) (rest := [(.int v42)]) (lenOf pd0_1 rfl) rfl (by show 2 * 0 + _ ≤ _; exact Nat.le_of_eq rfl) (hb hby at_53) (fun _ _ => ⟨rfl, e41, (by decide : 0 + 0 ≤ _), (by decide : 0 + 0 ≤ _)⟩)
      dsimp only [Pt.U, Pt.locs, Pt.cells, Pt.slots] at X44 l44 y44 z44 st44 hQ44
      subst l44 y44 z44
      obtain ⟨rfl, Nq44, e44⟩ := hQ44
      have N44 := Fr.app N41 Nq44
      have pre44 : Steps p.tables e below (s₁.setTop (entryFrame m #[(.int x0), (.int x1), (.int x2)] maxLocals)) (T44.setTop (mkF m 56 #[.val (.int x0), .val (.int x1), .val (.int x2), .val (.int v1), .val (.ref aF), .val (.int v39)] [(.int (own_F2 v1 x1)), (.int v42)])) := pre43.trans (st44 _ (Steps.refl _))
      have hc56 : v42 = (own_F2 v1 x1) := by
        rw [hv42]
        first | exact own_k01 _ _ _ (Or.inl hc8) | exact own_k01 _ _ _ (Or.inr hc21) | exact own_k2 _ _ _ (own_k hv1 hc8 hc21)
      have st45 : Steps p.tables e below (T44.setTop (mkF m 56 #[.val (.int x0), .val (.int x1), .val (.int x2), .val (.int v1), .val (.ref aF), .val (.int v39)] [(.int (own_F2 v1 x1)), (.int v42)])) (T44.setTop (mkF m 59 #[.val (.int x0), .val (.int x1), .val (.int x2), .val (.int v1), .val (.ref aF), .val (.int v39)] [])) := by
        refine XS.icmpNo X44.here hx rfl (hb hby at_56) rfl (teq hc56).2 ?_
        exact Steps.refl _
      have pre45 := pre44.trans st45
      have st46 : Steps p.tables e below (T44.setTop (mkF m 59 #[.val (.int x0), .val (.int x1), .val (.int x2), .val (.int v1), .val (.ref aF), .val (.int v39)] [])) (T44.setTop (mkF m 63 #[.val (.int x0), .val (.int x1), .val (.int x2), .val (.int v1), .val (.ref aF), .val (.int v39)] [(.int v39), (.ref aF)])) := by
        refine XS.aload X44.here hx rfl (hb hby at_59) rfl rfl ?_
        show Steps p.tables e below (T44.setTop (mkF m 61 #[.val (.int x0), .val (.int x1), .val (.int x2), .val (.int v1), .val (.ref aF), .val (.int v39)] [(.ref aF)])) _
        refine XS.iload X44.here hx rfl (hb hby at_61) rfl ?_
        show Steps p.tables e below (T44.setTop (mkF m 63 #[.val (.int x0), .val (.int x1), .val (.int x2), .val (.int v1), .val (.ref aF), .val (.int v39)] [(.int v39), (.ref aF)])) _
        exact Steps.refl _
      have pre46 := pre45.trans st46
      obtain ⟨cq47, kq47, q47a, q47b, q47c⟩ := isOf hZ e44 B2
      obtain ⟨_, _, ⟨T47, L47, k47, n47⟩, -, X47, ⟨Lc47, hQ47, l47, y47, z47⟩, st47⟩ := X44.virtualBack hx (y := (⟨"com/example/portia/portia/expression/Normalizer", "takes", "(I)Z"⟩ : MethodName)) (z := (⟨"com/example/portia/portia/expression/Normalizer", "takes", "(I)Z"⟩ : MethodName)) hown (mvT hZ (hw _ (List.mem_of_getElem? (i := 4) rfl))) (mvT hZ (hw _ (List.mem_of_getElem? (i := 5) rfl))) (notFace_of_selects (args := #[]) (mvT hZ (hw _ (List.mem_of_getElem? (i := 7) rfl)))) (mvT hZ (hw _ (List.mem_of_getElem? (i := 7) rfl))) (mvT hZ (hw _ (List.mem_of_getElem? (i := 6) rfl))) (by decide) (backOf (W := 0) (rm1 l Z a0 hw [] aF v39 (2 : Int32) (2147483647 : Int32) h0 n0 Z0 B7 B8) hZ (hw _ (List.mem_of_getElem? (i := 8) rfl)) (hw _ (List.mem_of_getElem? (i := 2) rfl)) (by decide) (by decide)) q47a q47c (g := (mkF m 63 #[.val (.int x0), .val (.int x1), .val (.int x2), .val (.int v1), .val (.ref aF), .val (.int v39)] [(.int v39), (.ref aF)])) rfl (by rw [hml]; rfl) (Steps.refl _) (argsL := [(.int v39)]) (rest := []) (lenOf pd0_0 rfl) rfl (by show 2 * 0 + _ ≤ _; exact Nat.le_of_eq rfl) (hb hby at_63) (fun _ _ => ⟨rfl, e44, (by decide : 0 + 0 ≤ _), (by decide : 0 + 0 ≤ _)⟩)
      dsimp only [Pt.U, Pt.locs, Pt.cells, Pt.slots] at X47 l47 y47 z47 st47 hQ47
      subst l47 y47 z47
      obtain ⟨rfl, Nq47, e47⟩ := hQ47
      have N47 := Fr.app N44 Nq47
      have pre47 : Steps p.tables e below (s₁.setTop (entryFrame m #[(.int x0), (.int x1), (.int x2)] maxLocals)) (T47.setTop (mkF m 66 #[.val (.int x0), .val (.int x1), .val (.int x2), .val (.int v1), .val (.ref aF), .val (.int v39)] [(.int (own_F1 aF v39 (2 : Int32) (2147483647 : Int32)))])) := pre46.trans st47
      obtain ⟨v48, hv48⟩ : ∃ z : Int32, z = (own_F1 aF v39 (2 : Int32) (2147483647 : Int32)) := ⟨_, rfl⟩
      have st49 : Steps p.tables e below (T47.setTop (mkF m 66 #[.val (.int x0), .val (.int x1), .val (.int x2), .val (.int v1), .val (.ref aF), .val (.int v39)] [(.int (own_F1 aF v39 (2 : Int32) (2147483647 : Int32)))])) (T47.setTop (mkF m 69 #[.val (.int x0), .val (.int x1), .val (.int x2), .val (.int v1), .val (.ref aF), .val (.int v39)] [(.int v39), (.int v1), (.int v48)])) := by
        subst v48
        refine XS.iloadN X47.here hx rfl (hb hby at_66) rfl ?_
        show Steps p.tables e below (T47.setTop (mkF m 67 #[.val (.int x0), .val (.int x1), .val (.int x2), .val (.int v1), .val (.ref aF), .val (.int v39)] [(.int v1), (.int (own_F1 aF v39 (2 : Int32) (2147483647 : Int32)))])) _
        refine XS.iload X47.here hx rfl (hb hby at_67) rfl ?_
        show Steps p.tables e below (T47.setTop (mkF m 69 #[.val (.int x0), .val (.int x1), .val (.int x2), .val (.int v1), .val (.ref aF), .val (.int v39)] [(.int v39), (.int v1), (.int (own_F1 aF v39 (2 : Int32) (2147483647 : Int32)))])) _
        exact Steps.refl _
      have pre49 := pre47.trans st49
      obtain ⟨_, _, ⟨T50, L50, k50, n50⟩, -, X50, ⟨Lc50, hQ50, l50, y50, z50⟩, st50⟩ := Jvm.LawKit.callS X47 hx (y := (⟨"com/example/portia/portia/expression/NormalizerTakesPinLaw", "expected", "(II)Z"⟩ : MethodName)) hown (mvT hZ (hw _ (List.mem_of_getElem? (i := 13) rfl))) (mvT hZ (hw _ (List.mem_of_getElem? (i := 14) rfl))) (mvT hZ (hw _ (List.mem_of_getElem? (i := 15) rfl))) (mvT hZ (hw _ (List.mem_of_getElem? (i := 16) rfl))) (by decide) (backOf (W := 1) (rm2 l Z a0 hw [] v1 v39 h0 n0 Z0) hZ (hw _ (List.mem_of_getElem? (i := 16) rfl)) (hw _ (List.mem_of_getElem? (i := 15) rfl)) (by decide) (by decide)) (g := (mkF m 69 #[.val (.int x0), .val (.int x1), .val (.int x2), .val (.int v1), .val (.ref aF), .val (.int v39)] [(.int v39), (.int v1), (.int v48)])) rfl (by rw [hml]; rfl) (argsL := [(.int v1), (.int v39)]) (rest := [(.int v48)]) (lenOf pd0_1 rfl) rfl (by show 2 * 0 + _ ≤ _; exact Nat.le_of_eq rfl) (hb hby at_69) (fun _ _ => ⟨rfl, e47, (by decide : 0 + 0 ≤ _), (by decide : 0 + 0 ≤ _)⟩)
      dsimp only [Pt.U, Pt.locs, Pt.cells, Pt.slots] at X50 l50 y50 z50 st50 hQ50
      subst l50 y50 z50
      obtain ⟨rfl, Nq50, e50⟩ := hQ50
      have N50 := Fr.app N47 Nq50
      have pre50 : Steps p.tables e below (s₁.setTop (entryFrame m #[(.int x0), (.int x1), (.int x2)] maxLocals)) (T50.setTop (mkF m 72 #[.val (.int x0), .val (.int x1), .val (.int x2), .val (.int v1), .val (.ref aF), .val (.int v39)] [(.int (own_F2 v1 v39)), (.int v48)])) := pre49.trans (st50 _ (Steps.refl _))
      have hc72 : v48 = (own_F2 v1 v39) := by
        rw [hv48]
        first | exact own_k01 _ _ _ (Or.inl hc8) | exact own_k01 _ _ _ (Or.inr hc21) | exact own_k2 _ _ _ (own_k hv1 hc8 hc21)
      have st51 : Steps p.tables e below (T50.setTop (mkF m 72 #[.val (.int x0), .val (.int x1), .val (.int x2), .val (.int v1), .val (.ref aF), .val (.int v39)] [(.int (own_F2 v1 v39)), (.int v48)])) (T50.setTop (mkF m 75 #[.val (.int x0), .val (.int x1), .val (.int x2), .val (.int v1), .val (.ref aF), .val (.int v39)] [])) := by
        refine XS.icmpNo X50.here hx rfl (hb hby at_72) rfl (teq hc72).2 ?_
        exact Steps.refl _
      have pre51 := pre50.trans st51
      have st52 : Steps p.tables e below (T50.setTop (mkF m 75 #[.val (.int x0), .val (.int x1), .val (.int x2), .val (.int v1), .val (.ref aF), .val (.int v39)] [])) (T50.setTop (mkF m 80 #[.val (.int x0), .val (.int x1), .val (.int x2), .val (.int v1), .val (.ref aF), .val (.int v39)] [(.int (1 : Int32))])) := by
        refine XS.iconst X50.here hx rfl (hb hby at_75) ?_
        show Steps p.tables e below (T50.setTop (mkF m 76 #[.val (.int x0), .val (.int x1), .val (.int x2), .val (.int v1), .val (.ref aF), .val (.int v39)] [(.int (1 : Int32))])) _
        refine XS.goto X50.here hx rfl (pc0 := 76) (pc' := 80) rfl (hb hby at_76) (by decide) (by decide) ?_
        show Steps p.tables e below (T50.setTop (mkF m 80 #[.val (.int x0), .val (.int x1), .val (.int x2), .val (.int v1), .val (.ref aF), .val (.int v39)] [(.int (1 : Int32))])) _
        exact Steps.refl _
      have pre52 := pre51.trans st52
      obtain ⟨fs, hr, hrun, hended, hW, hsame⟩ := X50.leave (v := some (.int (1 : Int32))) (fun h => by rw [Bd.returns] at h; cases h)
      refine ⟨_, _, pre52.trans ?_, hrun, hended, _, _, rfl, ?_, ⟨_, rfl⟩, hW, hsame.mono (by decide) (by decide)⟩
      · show Steps p.tables e below (T50.setTop (mkF m 80 #[.val (.int x0), .val (.int x1), .val (.int x2), .val (.int v1), .val (.ref aF), .val (.int v39)] [(.int (1 : Int32))])) _
        exact retN X50 hx (t := .boolean) Bd.returns (by simp) (hb hby at_80) hr
      · show Q0 Z x0 x1 x2 aL aR aF h0 n0 _ T50.heap _
        rw [e50]
        exact ⟨rfl, N50⟩
set_option maxRecDepth 65536 in
set_option maxHeartbeats 40000000 in
theorem comes_1 {Post : Tables → Env → Array Value → State → Outcome → State → Prop} (hpost : ∀ tb e args s v u, (limb_1_1.after args s (.returned v) u = true ∧ limb_1_2.after args s (.returned v) u = true ∧ True) → FrameEnd s (.returned v) u (Jvm.fieldLocs frame_1_writes args s ++ Jvm.arrayLocs frame_1_arrays args s ++ Jvm.staticLocs frame_1_statics s) 0 0 → Post tb e args s (.returned v) u) :
    ArmFor flags0 classFile x code maxLocals ret World_1 tables_1 room_1 Calls_1 rest_1 Pre_1 Post := by
  intro l hfl _ _ p e ha hc hk s m args below hf hA hF happ hP
  obtain ⟨hcalls, hrest, hpre⟩ := hP
  obtain ⟨-, -, -, hnamed, -, -, -, hat⟩ := (Spec.applies_iff hf).mp happ
  obtain ⟨hg, hn⟩ := and_e (Cond.before_iff.mp (show (Jvm.Cond.and given_1 narrow_1).before args s = true from hpre))
  obtain ⟨g1, g2⟩ := and_e hg
  obtain ⟨g3, g4⟩ := and_e g2
  obtain ⟨g5, g6⟩ := and_e g4
  obtain ⟨w0, w1, w2, rfl⟩ : ∃ w0 w1 w2 : Value, args = #[w0, w1, w2] := by
    have hs : args.size = 3 := by simpa [Cond.value, given_1] using g1
    obtain ⟨L⟩ := args
    match L, hs with
    | [w0, w1, w2], _ => exact ⟨w0, w1, w2, rfl⟩
  have hw := fun d (hd : d ∈ tables_1) => atoms_spec (ws := Jvm.Cond.code x code maxLocals ret :: tables_1) hat d (List.mem_cons_of_mem _ hd)
  obtain ⟨i0, ei0⟩ := is_v g3
  obtain rfl : w0 = (.int i0) := Option.some.inj ei0
  obtain ⟨i1, ei1⟩ := is_v g5
  obtain rfl : w1 = (.int i1) := Option.some.inj ei1
  obtain ⟨i2, ei2⟩ := is_v g6
  obtain rfl : w2 = (.int i2) := Option.some.inj ei2
  obtain ⟨nn0, nn1⟩ := and_e hn
  obtain ⟨nn2, nn3⟩ := and_e nn1
  obtain ⟨nn4, nn5⟩ := and_e nn3
  obtain ⟨nn6, nn7⟩ := and_e nn5
  obtain ⟨nn8, nn9⟩ := and_e nn7
  obtain ⟨nn10, nn11⟩ := and_e nn9
  obtain ⟨nn12, nn13⟩ := and_e nn11
  obtain ⟨nn14, nn15⟩ := and_e nn13
  obtain ⟨aL, evL⟩ := exa_v nn0
  have ExL : Exa s s.heap aL "com/example/portia/portia/expression/Normalizer" := Exa.start evL nn0
  have StL : Sta s s.heap "com/example/portia/portia/expression/Normalizer" "NORMALIZE_LINEAR" "Lcom/example/portia/portia/expression/Normalizer;" (.ref aL) := Sta.start evL (Or.inr ⟨(hw _ (List.mem_of_getElem? (i := 2) rfl)), (hw _ (List.mem_of_getElem? (i := 3) rfl))⟩)
  obtain ⟨aR, evR⟩ := exa_v nn6
  have ExR : Exa s s.heap aR "com/example/portia/portia/expression/Normalizer" := Exa.start evR nn6
  have StR : Sta s s.heap "com/example/portia/portia/expression/Normalizer" "RECIPROCAL_RANK" "Lcom/example/portia/portia/expression/Normalizer;" (.ref aR) := Sta.start evR (Or.inr ⟨(hw _ (List.mem_of_getElem? (i := 2) rfl)), (hw _ (List.mem_of_getElem? (i := 18) rfl))⟩)
  obtain ⟨aF, evF⟩ := exa_v nn12
  have ExF : Exa s s.heap aF "com/example/portia/portia/expression/Normalizer" := Exa.start evF nn12
  have StF : Sta s s.heap "com/example/portia/portia/expression/Normalizer" "RECIPROCAL_RANK_FUSION" "Lcom/example/portia/portia/expression/Normalizer;" (.ref aF) := Sta.start evF (Or.inr ⟨(hw _ (List.mem_of_getElem? (i := 2) rfl)), (hw _ (List.mem_of_getElem? (i := 20) rfl))⟩)
  have FsL_fewest : Fld s s.heap aL "com/example/portia/portia/expression/Normalizer" "fewest" "I" (.int (1 : Int32)) := Fld.start ((fld_at evL).symm.trans (own_eqI nn2))
  have FsL_most : Fld s s.heap aL "com/example/portia/portia/expression/Normalizer" "most" "I" (.int (1 : Int32)) := Fld.start ((fld_at evL).symm.trans (own_eqI nn4))
  have FsR_fewest : Fld s s.heap aR "com/example/portia/portia/expression/Normalizer" "fewest" "I" (.int (1 : Int32)) := Fld.start ((fld_at evR).symm.trans (own_eqI nn8))
  have FsR_most : Fld s s.heap aR "com/example/portia/portia/expression/Normalizer" "most" "I" (.int (1 : Int32)) := Fld.start ((fld_at evR).symm.trans (own_eqI nn10))
  have FsF_fewest : Fld s s.heap aF "com/example/portia/portia/expression/Normalizer" "fewest" "I" (.int (2 : Int32)) := Fld.start ((fld_at evF).symm.trans (own_eqI nn14))
  have FsF_most : Fld s s.heap aF "com/example/portia/portia/expression/Normalizer" "most" "I" (.int (2147483647 : Int32)) := Fld.start ((fld_at evF).symm.trans (own_eqI nn15))
  obtain ⟨n, o, h1, h2, h3, _, L, rfl, ⟨rfl, N⟩, hq⟩ := rm0 l s _ hw tables_1 i0 i1 i2 aL aR aF s.heap s.heap.size (Nat.le_refl _) (Old.start s) ExL ExR ExF FsL_fewest FsL_most FsR_fewest FsR_most FsF_fewest FsF_most StL StR StF p e ha hc hk s m _ below hf ((Spec.applies_iff_loose hf).mp happ).1 ⟨rfl, State.Warmed39.refl s, rfl⟩ trivial
  refine ⟨n, _, h1, h2, h3, hpost _ _ _ _ _ _ ⟨Cond.after_iff.mpr rfl, Cond.after_iff.mpr (eq_i res_at (Term.int_eval (1)) rfl), trivial⟩ ⟨hq.1, hq.2.1, (hq.2.2.sift fun y hy => Or.inr (N y hy)).mono (by decide) (by decide)⟩⟩
theorem main_1_1 : Claimed_1_1 := comes_1 fun _ _ _ _ _ _ h hF => ⟨h.1, hF⟩
theorem main_1_2 : Claimed_1_2 := comes_1 fun _ _ _ _ _ _ h hF => ⟨h.2.1, hF⟩
end Jvm.Pilot.@@N@@
namespace Jvm.Pilot.@@N@@
open Jvm Jvm.ClassFile Sem Op Lib Jvm.Free Jvm.Stand Jvm.Pilot.@@N@@.Jvm.D
/-! MADE BY PROGRAM (witnessworld.py) out of the Statement's table words and the real class files: 12 classes; the members and pool entries that the words name. The judged class is class 1, her method 1. -/
namespace start1
open Jvm.ClassFile
def u (s : String) : CpInfo := .utf8 (stringToUtf16 s)
/-- a pool by its gaps: so many unusable entries, then the entry; so many at the end -/
def gap : Nat → List CpInfo → List CpInfo
  | 0, r => r
  | n + 1, r => .unusable :: gap n r
def poolList (es : List (Nat × CpInfo)) (last : Nat) : List CpInfo := es.foldr (fun e r => gap e.1 (e.2 :: r)) (gap last [])
def pool (es : List (Nat × CpInfo)) (last : Nat) : Array CpInfo := ⟨poolList es last⟩
def fileOf (pool : Array CpInfo) (this : Nat) (attrs : Array Attribute := #[]) (ms : Array MethodInfo := #[]) (fl : Nat := 33) (sup : Nat := 0) (ifs : Array Nat := #[]) (fds : Array FieldInfo := #[]) : ClassFile where
  minorVersion := 0
  majorVersion := 65
  constantPool := pool
  accessFlags := fl
  thisClass := this
  superClass := sup
  interfaces := ifs
  fields := fds
  methods := ms
  attributes := attrs
def plain (name : String) (sup : Option ClassId) : Class where
  name := name
  kind := .ordinary
  loader := none
  accessFlags := 33
  super := sup
  interfaces := #[]
  cf := none
  fields := #[]
  methods := #[]
  instanceTypes := #[]
  staticTypes := #[]
  resolved := #[]
  callSites := []
  init := .initialized
  statics := none
  mirror := none

def pool0 : Array CpInfo := pool [(5, u "<init>"), (0, u "()V"), (1, .class_ 10), (1, u "java/lang/Object")] 113

def k0m0 : Method := { name := "<init>", desc := "()V", sig := { parameters := [], returnType := none }, accessFlags := 1, code := none }
/-- java/lang/Object -/
def k0 : Class := { plain "java/lang/Object" none with
  accessFlags := 33
  interfaces := #[]
  cf := some (fileOf pool0 8 #[] #[{ accessFlags := 1, nameIndex := 5, descriptorIndex := 6, attributes := #[] }] 33 0 #[] #[])
  fields := #[]
  methods := #[k0m0]
  instanceTypes := #[]
  staticTypes := #[]
  resolved := Array.replicate 124 none
  statics := none }

def pool1 : Array CpInfo := pool [(2, .class_ 4), (1, u "java/lang/Object"), (0, u "<init>"), (0, u "()V"), (0, .integer 2147483647), (0, .fieldref 9 10), (0, .class_ 11), (0, .nameAndType 12 13), (0, u "com/example/portia/portia/expression/Normalizer"), (0, u "NORMALIZE_LINEAR"), (0, u "Lcom/example/portia/portia/expression/Normalizer;"), (0, .fieldref 9 15), (0, .nameAndType 16 13), (0, u "RECIPROCAL_RANK"), (0, .fieldref 9 18), (0, .nameAndType 19 13), (0, u "RECIPROCAL_RANK_FUSION"), (0, .methodref 9 21), (0, .nameAndType 22 23), (0, u "takes"), (0, u "(I)Z"), (0, .methodref 25 26), (0, .class_ 27), (0, .nameAndType 28 29), (0, u "com/example/portia/portia/expression/NormalizerTakesPinLaw"), (0, u "expected"), (0, u "(II)Z"), (2, u "law"), (0, u "(III)Z")] 3

def k1m0 : Method := { name := "<init>", desc := "()V", sig := { parameters := [], returnType := none }, accessFlags := 1, code := none }
def k1c1 : Code := { maxStack := 3, maxLocals := 6, code := code, exceptionTable := #[], attributes := #[] }
def k1m1 : Method := { name := "law", desc := "(III)Z", sig := { parameters := [.int, .int, .int], returnType := some .boolean }, accessFlags := 9, code := some k1c1 }
def k1c2 : Code := { maxStack := 2, maxLocals := 2, code := method_3_code, exceptionTable := #[], attributes := #[] }
def k1m2 : Method := { name := "expected", desc := "(II)Z", sig := { parameters := [.int, .int], returnType := some .boolean }, accessFlags := 10, code := some k1c2 }
/-- com/example/portia/portia/expression/NormalizerTakesPinLaw -/
def k1 : Class := { plain "com/example/portia/portia/expression/NormalizerTakesPinLaw" (some 0) with
  accessFlags := 49
  interfaces := #[]
  cf := some (fileOf pool1 25 #[] #[{ accessFlags := 1, nameIndex := 5, descriptorIndex := 6, attributes := #[] }, { accessFlags := 9, nameIndex := 32, descriptorIndex := 33, attributes := #[] }, { accessFlags := 10, nameIndex := 28, descriptorIndex := 29, attributes := #[] }] 49 2 #[] #[])
  fields := #[]
  methods := #[k1m0, k1m1, k1m2]
  instanceTypes := #[]
  staticTypes := #[]
  resolved := Array.replicate 37 none
  statics := none }

def pool2 : Array CpInfo := pool [(1, .class_ 2), (0, u "java/lang/constant/Constable"), (0, .class_ 4), (0, u "java/lang/Object")] 6

/-- java/lang/constant/Constable -/
def k2 : Class := { plain "java/lang/constant/Constable" (some 0) with
  accessFlags := 1537
  interfaces := #[]
  cf := some (fileOf pool2 1 #[] #[] 1537 3 #[] #[])
  fields := #[]
  methods := #[]
  instanceTypes := #[]
  staticTypes := #[]
  resolved := Array.replicate 11 none
  statics := none }

def pool3 : Array CpInfo := pool [(1, .class_ 2), (0, u "java/lang/Comparable"), (0, .class_ 4), (0, u "java/lang/Object")] 7

/-- java/lang/Comparable -/
def k3 : Class := { plain "java/lang/Comparable" (some 0) with
  accessFlags := 1537
  interfaces := #[]
  cf := some (fileOf pool3 1 #[] #[] 1537 3 #[] #[])
  fields := #[]
  methods := #[]
  instanceTypes := #[]
  staticTypes := #[]
  resolved := Array.replicate 12 none
  statics := none }

def pool4 : Array CpInfo := pool [(1, .class_ 2), (0, u "java/io/Serializable"), (0, .class_ 4), (0, u "java/lang/Object")] 2

/-- java/io/Serializable -/
def k4 : Class := { plain "java/io/Serializable" (some 0) with
  accessFlags := 1537
  interfaces := #[]
  cf := some (fileOf pool4 1 #[] #[] 1537 3 #[] #[])
  fields := #[]
  methods := #[]
  instanceTypes := #[]
  staticTypes := #[]
  resolved := Array.replicate 7 none
  statics := none }

def pool5 : Array CpInfo := pool [(2, .class_ 4), (1, u "java/lang/Enum"), (0, u "name"), (0, u "Ljava/lang/String;"), (2, u "ordinal"), (0, u "I"), (1, .class_ 14), (1, u "java/lang/Object"), (4, u "hash"), (86, .class_ 108), (1, u "java/lang/Enum$EnumDesc"), (2, .class_ 112), (0, u "java/lang/constant/Constable"), (0, .class_ 114), (0, u "java/lang/Comparable"), (0, .class_ 116), (0, u "java/io/Serializable")] 87

/-- java/lang/Enum -/
def k5 : Class := { plain "java/lang/Enum" (some 0) with
  accessFlags := 1057
  interfaces := #[2, 3, 4]
  cf := some (fileOf pool5 2 #[.nestMembers #[106]] #[] 1057 12 #[111, 113, 115] #[{ accessFlags := 18, nameIndex := 5, descriptorIndex := 6, attributes := #[] }, { accessFlags := 18, nameIndex := 9, descriptorIndex := 10, attributes := #[] }, { accessFlags := 2, nameIndex := 19, descriptorIndex := 10, attributes := #[] }])
  fields := #[{ name := "name", type := (.object "java/lang/String"), accessFlags := 18, slot := 0, constantValue := 0 }, { name := "ordinal", type := .int, accessFlags := 18, slot := 1, constantValue := 0 }, { name := "hash", type := .int, accessFlags := 2, slot := 2, constantValue := 0 }]
  methods := #[]
  instanceTypes := #[(.object "java/lang/String"), .int, .int]
  staticTypes := #[]
  resolved := Array.replicate 204 none
  statics := none }

def pool6 : Array CpInfo := pool [(1, .class_ 2), (0, u "com/example/portia/portia/expression/Normalizer"), (2, u "NORMALIZE_LINEAR"), (0, u "Lcom/example/portia/portia/expression/Normalizer;"), (2, u "RECIPROCAL_RANK"), (2, u "RECIPROCAL_RANK_FUSION"), (2, u "$VALUES"), (0, u "[Lcom/example/portia/portia/expression/Normalizer;"), (6, .class_ 25), (1, u "java/lang/Enum"), (8, u "functionName"), (0, u "Ljava/lang/String;"), (0, .fieldref 1 37), (0, .nameAndType 38 39), (0, u "fewest"), (0, u "I"), (0, .fieldref 1 41), (0, .nameAndType 42 39), (0, u "most"), (2, u "takesK"), (0, u "Z"), (2, u "takes"), (148, u "DEFAULT_K"), (0, u "D"), (11, u "(I)Z")] 34

def k6c0 : Code := { maxStack := 2, maxLocals := 2, code := prog_14_method_5_code, exceptionTable := #[], attributes := #[] }
def k6m0 : Method := { name := "takes", desc := "(I)Z", sig := { parameters := [.int], returnType := some .boolean }, accessFlags := 1, code := some k6c0 }
/-- com/example/portia/portia/expression/Normalizer -/
def k6 : Class := { plain "com/example/portia/portia/expression/Normalizer" (some 5) with
  accessFlags := 16433
  interfaces := #[]
  cf := some (fileOf pool6 1 #[] #[{ accessFlags := 1, nameIndex := 49, descriptorIndex := 211, attributes := #[] }] 16433 23 #[] #[{ accessFlags := 16409, nameIndex := 5, descriptorIndex := 6, attributes := #[] }, { accessFlags := 16409, nameIndex := 9, descriptorIndex := 6, attributes := #[] }, { accessFlags := 16409, nameIndex := 12, descriptorIndex := 6, attributes := #[] }, { accessFlags := 25, nameIndex := 198, descriptorIndex := 199, attributes := #[] }, { accessFlags := 18, nameIndex := 34, descriptorIndex := 35, attributes := #[] }, { accessFlags := 18, nameIndex := 38, descriptorIndex := 39, attributes := #[] }, { accessFlags := 18, nameIndex := 42, descriptorIndex := 39, attributes := #[] }, { accessFlags := 18, nameIndex := 45, descriptorIndex := 46, attributes := #[] }, { accessFlags := 18, nameIndex := 49, descriptorIndex := 35, attributes := #[] }, { accessFlags := 4122, nameIndex := 15, descriptorIndex := 16, attributes := #[] }])
  fields := #[{ name := "NORMALIZE_LINEAR", type := (.object "com/example/portia/portia/expression/Normalizer"), accessFlags := 16409, slot := 0, constantValue := 0 }, { name := "RECIPROCAL_RANK", type := (.object "com/example/portia/portia/expression/Normalizer"), accessFlags := 16409, slot := 1, constantValue := 0 }, { name := "RECIPROCAL_RANK_FUSION", type := (.object "com/example/portia/portia/expression/Normalizer"), accessFlags := 16409, slot := 2, constantValue := 0 }, { name := "DEFAULT_K", type := .double, accessFlags := 25, slot := 3, constantValue := 0 }, { name := "functionName", type := (.object "java/lang/String"), accessFlags := 18, slot := 3, constantValue := 0 }, { name := "fewest", type := .int, accessFlags := 18, slot := 4, constantValue := 0 }, { name := "most", type := .int, accessFlags := 18, slot := 5, constantValue := 0 }, { name := "takesK", type := .boolean, accessFlags := 18, slot := 6, constantValue := 0 }, { name := "takes", type := (.object "java/lang/String"), accessFlags := 18, slot := 7, constantValue := 0 }, { name := "$VALUES", type := (.array (.object "com/example/portia/portia/expression/Normalizer")), accessFlags := 4122, slot := 4, constantValue := 0 }]
  methods := #[k6m0]
  instanceTypes := #[(.object "java/lang/String"), .int, .int, (.object "java/lang/String"), .int, .int, .boolean, (.object "java/lang/String")]
  staticTypes := #[(.object "com/example/portia/portia/expression/Normalizer"), (.object "com/example/portia/portia/expression/Normalizer"), (.object "com/example/portia/portia/expression/Normalizer"), .double, (.array (.object "com/example/portia/portia/expression/Normalizer"))]
  resolved := Array.replicate 246 none
  statics := some 0 }

def pool7 : Array CpInfo := pool [(1, u "java/lang/Cloneable"), (0, .class_ 1), (0, u "java/lang/Object"), (0, .class_ 3)] 3

/-- java/lang/Cloneable -/
def k7 : Class := { plain "java/lang/Cloneable" (some 0) with
  accessFlags := 1537
  interfaces := #[]
  cf := some (fileOf pool7 2 #[] #[] 1537 4 #[] #[])
  fields := #[]
  methods := #[]
  instanceTypes := #[]
  staticTypes := #[]
  resolved := Array.replicate 8 none
  statics := none }

/-- the primitive byte -/
def k8 : Class := { plain "byte" none with kind := .primitive 'B', accessFlags := 0x411 }
/-- [B -/
def k9 : Class := { plain "[B" (some 0) with kind := .array 8 .byte, interfaces := #[7, 4], accessFlags := 1041 }

/-- the primitive int -/
def k10 : Class := { plain "int" none with kind := .primitive 'I', accessFlags := 0x411 }
/-- [I -/
def k11 : Class := { plain "[I" (some 0) with kind := .array 10 .int, interfaces := #[7, 4], accessFlags := 1041 }

def heap : Heap := #[{ cls := 6, slots := #[.ref 1, .ref 2, .ref 3, .double 0, .null], vm := .statics 6 },
  { cls := 6, slots := #[.null, .int 0, .int 0, .null, .int 1, .int 1, .int 0, .null], vm := .none },
  { cls := 6, slots := #[.null, .int 1, .int 0, .null, .int 1, .int 1, .int 0, .null], vm := .none },
  { cls := 6, slots := #[.null, .int 2, .int 0, .null, .int 2, .int 2147483647, .int 0, .null], vm := .none }]
def classes : Array Class := #[k0, k1, k2, k3, k4, k5, k6, k7, k8, k9, k10, k11]
def interned : List (Array UInt16 × Addr) := []
def slotsUsed : Nat := 29
def theMethod : MethodId := ⟨1, 1⟩
def args0 : Array Value := #[.int 5, .int 77, .int 2]
def aboutOver (below : List Frame) : State where
  vm := { classes := classes, interned := interned.toArray }
  heap := heap
  slotsUsed := slotsUsed
  threads := #[{ frames := .invoking theMethod args0 :: below }]
def below0 : List Frame := [.native { method := ⟨0, 0⟩, args := #[] }]
def about1 : State := aboutOver below0
def p0 : Program := .bare "" "" ""
def e0 : Env := launch0.env 0 0 0
theorem w_frames : about1.frames = Frame.invoking theMethod args0 :: below0 := rfl
set_option maxRecDepth 65536 in
theorem w_args : argsFit about1.vm theMethod args0 = true := by decide +kernel
set_option maxRecDepth 65536 in
theorem w_heap : heapFits about1 = true := by decide +kernel
set_option maxRecDepth 65536 in
theorem w_runnable : about1.curStatus? = some .runnable := by decide +kernel
set_option maxRecDepth 65536 in
theorem w_alone : about1.alone = true := by decide +kernel
set_option maxRecDepth 65536 in
theorem w_named : about1.methodNamed? x = some theMethod := by decide +kernel
set_option maxRecDepth 65536 in
theorem w_hears : about1.hears theMethod below0 = true := by decide +kernel
set_option maxRecDepth 65536 in
theorem w_ripe : about1.ripe theMethod args0 below0 = true := by decide +kernel
theorem w_running : about1.status = .running := rfl
set_option maxRecDepth 65536 in
theorem w_room : about1.hasRoom e0.platform room_1 = true :=
  launch0.hasRoom_least _ room_1 (by decide +kernel) (by decide +kernel) (by decide +kernel) (by decide +kernel) (by decide +kernel) (by decide +kernel)
theorem allAtoms_all (ts : List Jvm.Cond) (a : Array Jvm.Value) (st : Jvm.State) : (allAtoms ts).before a st = ts.all (fun c => c.before a st) := by
  induction ts with
  | nil => rfl
  | cons c t ih =>
    show (Jvm.Cond.and c (allAtoms t)).before a st = _
    rw [Jvm.Cond.before_and, ih, List.all_cons]
def words1 : List Jvm.Cond := Jvm.Cond.code x code maxLocals ret :: tables_1
/-- a 'code' word, met by the world's own term for the bytes: nothing is compared byte by byte -/
theorem code_word {y : MethodName} {bytes : ByteArray} {mx : Nat} {rt : Option FieldType} {a : Array Value} {s : State} {m : MethodId} {meth : Method} {c : Code} (h1 : s.methodNamed? y = some m) (h2 : s.vm.method? m = some meth) (h3 : meth.code = some c) (h4 : c.code = bytes)
    (h5 : (c.maxLocals == mx && c.exceptionTable.isEmpty && decide (c.maxStack ≤ mostOperands) && decide (meth.sig.returnType = rt) && !meth.locks && decide (parseMethodDescriptor y.desc = some meth.sig)) = true) : (Jvm.Cond.code y bytes mx rt).before a s = true := by
  simp only [Bool.and_eq_true, beq_iff_eq, Bool.not_eq_true', decide_eq_true_eq] at h5
  obtain ⟨⟨⟨⟨⟨g1, g2⟩, g3⟩, g4⟩, g5⟩, g6⟩ := h5
  simp [Cond.before, Cond.holds, Cond.value, h1, h2, h3, h4, g1, g2, g3, g4, g5, g6]
def isCode : Jvm.Cond → Bool
  | .code _ _ _ _ => true
  | _ => false
theorem all_split {L : List Jvm.Cond} {P : Jvm.Cond → Bool} (h1 : L.all (fun c => isCode c || P c) = true) (h2 : ∀ c ∈ L.filter isCode, P c = true) : L.all P = true := by
  refine List.all_eq_true.mpr fun c hc => ?_
  have h := List.all_eq_true.mp h1 c hc
  rcases Bool.eq_false_or_eq_true (isCode c) with hi | hi
  · exact h2 c (List.mem_filter.mpr ⟨hc, hi⟩)
  · simpa [hi] using h
set_option maxRecDepth 65536 in
theorem w_c0 : (Jvm.Cond.code x code maxLocals ret).before args0 about1 = true := code_word (m := ⟨1, 1⟩) (meth := k1m1) (c := k1c1) (by decide +kernel) rfl rfl rfl (by decide +kernel)
set_option maxRecDepth 65536 in
theorem w_c1 : (Jvm.Cond.code ({ cls := "com/example/portia/portia/expression/Normalizer", name := "takes", desc := "(I)Z" } : Jvm.MethodName) prog_14_method_5_code (2 : Nat) (Option.some Jvm.ClassFile.FieldType.boolean)).before args0 about1 = true := code_word (m := ⟨6, 0⟩) (meth := k6m0) (c := k6c0) (by decide +kernel) rfl rfl rfl (by decide +kernel)
set_option maxRecDepth 65536 in
theorem w_c2 : (Jvm.Cond.code ({ cls := "com/example/portia/portia/expression/NormalizerTakesPinLaw", name := "expected", desc := "(II)Z" } : Jvm.MethodName) method_3_code (2 : Nat) (Option.some Jvm.ClassFile.FieldType.boolean)).before args0 about1 = true := code_word (m := ⟨1, 2⟩) (meth := k1m2) (c := k1c2) (by decide +kernel) rfl rfl rfl (by decide +kernel)
def codes1 : List Jvm.Cond := [Jvm.Cond.code x code maxLocals ret, Jvm.Cond.code ({ cls := "com/example/portia/portia/expression/Normalizer", name := "takes", desc := "(I)Z" } : Jvm.MethodName) prog_14_method_5_code (2 : Nat) (Option.some Jvm.ClassFile.FieldType.boolean), Jvm.Cond.code ({ cls := "com/example/portia/portia/expression/NormalizerTakesPinLaw", name := "expected", desc := "(II)Z" } : Jvm.MethodName) method_3_code (2 : Nat) (Option.some Jvm.ClassFile.FieldType.boolean)]
set_option maxRecDepth 65536 in
theorem codes_eq : words1.filter isCode = codes1 := rfl
theorem w_codes : ∀ c ∈ words1.filter isCode, c.before args0 about1 = true := by
  rw [codes_eq]
  intro c hc
  simp only [codes1, List.mem_cons, List.not_mem_nil, or_false] at hc
  rcases hc with rfl | rfl | rfl
  · exact w_c0
  · exact w_c1
  · exact w_c2
set_option maxRecDepth 65536 in
theorem w_t1 : words1.all (fun c => isCode c || c.before args0 about1) = true := by decide +kernel
theorem w_tables : (allAtoms (Jvm.Cond.code x code maxLocals ret :: tables_1)).before args0 about1 = true := by
  rw [allAtoms_all]
  show words1.all (fun c => c.before args0 about1) = true
  refine all_split ?_ w_codes
  rw [w_t1]
set_option maxRecDepth 65536 in
theorem w_case : (Jvm.Cond.and given_1 narrow_1).before args0 about1 = true := by decide +kernel
theorem w_applies : (headSpec (Jvm.Cond.code x code maxLocals ret :: tables_1) room_1).applies x e0.platform about1 = true :=
  (Spec.applies_iff w_frames).mpr ⟨w_running, w_runnable, w_alone, w_named, w_hears, w_ripe, w_room, w_tables⟩
theorem atStart : AtStart classFile x code maxLocals ret World_1 tables_1 room_1 Calls_1 rest_1 Pre_1 launch0 p0 e0 about1 theMethod args0 below0 :=
  ⟨lists_1, trivial, launch0.admits_env _ _ _, launch0.least_env, fairChoices_fair.cas, fairChoices_fair.clock, w_frames, w_args, w_heap, w_applies, trivial, trivial, w_case⟩
end start1
theorem witness_1 : WitnessClaimed_1 := ⟨start1.p0, start1.e0, start1.about1, start1.theMethod, start1.args0, start1.below0, start1.atStart⟩
end Jvm.Pilot.@@N@@
