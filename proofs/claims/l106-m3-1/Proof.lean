import JvmDerived
import JvmDerived.Pilot.@@N@@Statement
import JvmDerived.Pilot.@@N@@Code
set_option linter.unusedVariables false
set_option linter.unusedSimpArgs false
namespace Jvm.RoadKit
open Sem ClassFile Op Lib Jvm.Stand Jvm.Free Jvm.LawKit
section New
variable {p : Program} {l : Launch} {e : Env} {R : Room} {s : State} {m : MethodId} {args : Array Value} {below : List Frame} {meth : Method} {c : Code} {T : State} {locs : List Loc} {cells slots : Nat}
theorem retI (X : Stand p l e R s m args below meth c T locs cells slots) (hx : p.tables.exec = Jvm.exec) {pc : Nat} {Ls : Array Slot} {z : Int32} {rest : List Value} (hret : meth.sig.returnType = some .int) (hd : decode c.code pc = .ok (.ireturn, 1)) {fs : List Frame}
    (hl : ∀ (f : JFrame) (acts : List Action), f.method = m → f.locked = none → f.entered = [] → (doReturn e (T.setTop f) acts (some (.int z))).1 = T.setFrames fs) : Steps p.tables e below (T.setTop (mkF m pc Ls (.int z :: rest))) (T.setFrames fs) := by
  have hm' : T.vm.method? m = some meth := X.method'
  have hn : narrow .int (.int z) = .int z := rfl
  show Steps p.tables e below (T.setTop { method := m, pc := pc, locals := Ls, stack := _ :: rest, locked := none }) _
  jvm_step X.here [X.here.top, hx, hd, hm', hret, hn]
  first | (intro acts; rw [hl _ acts rfl rfl rfl]) | rw [hl _ _ rfl rfl rfl]
  exact Steps.refl _
end New
end Jvm.RoadKit
namespace Jvm.Pilot.@@N@@
open Jvm Jvm.ClassFile Sem Op Lib Jvm.Free Jvm.Stand Jvm.LawKit Jvm.RoadKit Bundle Jvm.Pilot.@@N@@.Jvm.D

theorem own_eqI {a : Term} {n : Int32} {args : Array Value} {first s : State} {o : Option Outcome} {idx : List Nat} (h : (Jvm.Cond.eq a (Jvm.Term.int n)).value args first o s idx = some true) : a.eval args first o idx s = some (.int n) := by
  obtain ⟨x, y, hx, hy, k1, -⟩ := cmp_v (Or.inl h)
  have hb : (Jvm.Term.int n).eval args first o idx s = some (.int n) := Term.int_eval n
  rw [hb] at hy
  cases hy
  cases x with
  | int z => rw [hx]; have := gotT (P := z = n) (by simp [Cond.value, hx, hb]) h; rw [this]
  | _ => simp [Kin, Value.isRef] at k1
theorem own_eqL {a : Term} {n : Int64} {args : Array Value} {first s : State} {o : Option Outcome} {idx : List Nat} (h : (Jvm.Cond.eq a (Jvm.Term.long n)).value args first o s idx = some true) : a.eval args first o idx s = some (.long n) := by
  obtain ⟨x, y, hx, hy, k1, -⟩ := cmp_v (Or.inl h)
  have hb : (Jvm.Term.long n).eval args first o idx s = some (.long n) := rfl
  rw [hb] at hy
  cases hy
  cases x with
  | long z => rw [hx]; have := gotT (P := z = n) (by simp [Cond.value, hx, hb]) h; rw [this]
  | _ => simp [Kin, Value.isRef] at k1
theorem own_mask (x : Int32) : 0 ≤ (x &&& (2147483647 : Int32)).toInt ∧ (x &&& (2147483647 : Int32)).toInt ≤ 2147483647 := by
  have q := c_and x (2147483647 : Int32) (by decide)
  have e : (2147483647 : Int32).toInt = 2147483647 := by decide
  omega
theorem d1_0 : decode jdk_29_method_66_code 0 = .ok (.lload_n 0, 1) := by decide +kernel
theorem d1_1 : decode jdk_29_method_66_code 1 = .ok (.lload_n 2, 1) := by decide +kernel
theorem d1_2 : decode jdk_29_method_66_code 2 = .ok (.lcmp, 1) := by decide +kernel
theorem d1_3 : decode jdk_29_method_66_code 3 = .ok (.ifCond .lt 7, 3) := by decide +kernel
theorem d1_6 : decode jdk_29_method_66_code 6 = .ok (.lload_n 0, 1) := by decide +kernel
theorem d1_7 : decode jdk_29_method_66_code 7 = .ok (.goto 4, 3) := by decide +kernel
theorem d1_10 : decode jdk_29_method_66_code 10 = .ok (.lload_n 2, 1) := by decide +kernel
theorem d1_11 : decode jdk_29_method_66_code 11 = .ok (.lreturn, 1) := by decide +kernel
theorem ef1 (m : MethodId) (x0 : Int64) (x1 : Int64) : entryFrame m #[(.long x0), (.long x1)] 4 = mkF m 0 #[.val (.long x0), .second, .val (.long x1), .second] [] := by first | (simp [entryFrame, mkF, argsToLocals, Value.category]; done) | rfl
def own_F1 (x0 : Int64) (x1 : Int64) : Int64 := (if x0 < x1 then x1 else x0)
def Q1 (Z : State) (x0 : Int64) (x1 : Int64) (h0 : Heap) (n0 : Nat) (v : Option Value) (h : Heap) (L : List Loc) : Prop := v = some (.long (own_F1 x0 x1)) ∧ Fr n0 L ∧ h = h0
set_option maxRecDepth 65536 in
set_option maxHeartbeats 40000000 in
theorem rm1 (l : Launch) (Z : State) (a0 : Array Value) (hw : ∀ d ∈ tables_1, d.before a0 Z = true) (ws : List Jvm.Cond) (x0 : Int64) (x1 : Int64) (h0 : Heap) (n0 : Nat) (Z0 : n0 ≤ h0.size) :
    MetFree l (⟨"java/lang/Math", "max", "(JJ)J"⟩ : MethodName) (head1 (Jvm.Cond.code (⟨"java/lang/Math", "max", "(JJ)J"⟩ : MethodName) jdk_29_method_66_code 4 (some .long) :: ws) ({ frames := 0, cells := 0, slots := 0, locals := 0 } : Room)) (fun a U => a = #[(.long x0), (.long x1)] ∧ Z.Warmed39 U.vm ∧ U.heap = h0) (fun _ _ _ _ _ => True) (fun _ U o U' => ∃ v L, o = .returned v ∧ Q1 Z x0 x1 h0 n0 v U'.heap L ∧ FrameEnd U o U' L ({ frames := 0, cells := 0, slots := 0, locals := 0 } : Room).cells ({ frames := 0, cells := 0, slots := 0, locals := 0 } : Room).slots) := by
  refine MetFree.of_bodySF (Jvm.Free.JP.mathPlain rfl (by decide +kernel)) hisR ?_
  intro p e s m args below meth c s₁ Bd hml0 hP hK
  obtain ⟨rfl, hZ, hh⟩ := hP
  have hx := Bd.exec
  have hby := Bd.bytes
  have hml : c.maxLocals = 4 := hml0
  have hown : s.vm.findClass "java/lang/Math" = some m.cls := findClass_of_methodNamed Bd.named
  have hnm := (name_of_methodNamed Bd.named Bd.method).1
  have X0 : Stand p l e ({ frames := 0, cells := 0, slots := 0, locals := 0 } : Room) s m #[(.long x0), (.long x1)] below meth c s₁ [] 0 0 := Stand.of_body Bd
  have e0 : s₁.heap = h0 := by rw [← hh, Bd.state]; rfl
  have N0 := Fr.nil n0
  have pre0 : Steps p.tables e below (s₁.setTop (entryFrame m #[(.long x0), (.long x1)] 4)) (s₁.setTop (mkF m 0 #[.val (.long x0), .second, .val (.long x1), .second] [])) := castTop (ef1 m x0 x1) (Steps.refl _)
  obtain ⟨v1, hv1⟩ : ∃ z : Int64, z = (if x0 < x1 then x1 else x0) := ⟨_, rfl⟩
  have st2 : Steps p.tables e below (s₁.setTop (mkF m 0 #[.val (.long x0), .second, .val (.long x1), .second] [])) (s₁.setTop (mkF m 11 #[.val (.long x0), .second, .val (.long x1), .second] [(.long v1)])) := by
    subst v1
    refine XS.lloadN X0.here hx rfl (hb hby d1_0) rfl ?_
    show Steps p.tables e below (s₁.setTop (mkF m 1 #[.val (.long x0), .second, .val (.long x1), .second] [(.long x0)])) _
    refine XS.lloadN X0.here hx rfl (hb hby d1_1) rfl ?_
    show Steps p.tables e below (s₁.setTop (mkF m 2 #[.val (.long x0), .second, .val (.long x1), .second] [(.long x1), (.long x0)])) _
    refine XS.lcmp X0.here hx rfl (hb hby d1_2) rfl ?_
    show Steps p.tables e below (s₁.setTop (mkF m 3 #[.val (.long x0), .second, .val (.long x1), .second] [(.int (lcmpW x0 x1))])) _
    refine Steps.trans (s₂ := s₁.setTop (mkF m 11 #[.val (.long x0), .second, .val (.long x1), .second] [(.long (if x0 < x1 then x1 else x0))])) ?_ ?_
    · by_cases hc3 : x0 < x1
      · refine XS.ifYes X0.here hx rfl (pc0 := 3) (pc' := 10) rfl (hb hby d1_3) rfl ((if0 _ _).trans (tlt ((lw_lt x0 x1).mpr hc3)).1) (by decide) (by decide) ?_
        show Steps p.tables e below (s₁.setTop (mkF m 10 #[.val (.long x0), .second, .val (.long x1), .second] [])) _
        refine XS.lloadN X0.here hx rfl (hb hby d1_10) rfl ?_
        show Steps p.tables e below (s₁.setTop (mkF m 11 #[.val (.long x0), .second, .val (.long x1), .second] [(.long x1)])) _
        try simp only [if_pos hc3]
        exact Steps.refl _
      · refine XS.ifNo X0.here hx rfl (hb hby d1_3) rfl ((if0 _ _).trans (flt (fun q => hc3 ((lw_lt x0 x1).mp q))).1) ?_
        show Steps p.tables e below (s₁.setTop (mkF m 6 #[.val (.long x0), .second, .val (.long x1), .second] [])) _
        refine XS.lloadN X0.here hx rfl (hb hby d1_6) rfl ?_
        show Steps p.tables e below (s₁.setTop (mkF m 7 #[.val (.long x0), .second, .val (.long x1), .second] [(.long x0)])) _
        refine XS.goto X0.here hx rfl (pc0 := 7) (pc' := 11) rfl (hb hby d1_7) (by decide) (by decide) ?_
        show Steps p.tables e below (s₁.setTop (mkF m 11 #[.val (.long x0), .second, .val (.long x1), .second] [(.long x0)])) _
        try simp only [if_neg hc3]
        exact Steps.refl _
    show Steps p.tables e below (s₁.setTop (mkF m 11 #[.val (.long x0), .second, .val (.long x1), .second] [(.long (if x0 < x1 then x1 else x0))])) _
    exact Steps.refl _
  have pre2 := pre0.trans st2
  obtain ⟨fs, hr, hrun, hended, hW, hsame⟩ := X0.leave (v := some (.long v1)) (fun h => by rw [Bd.returns] at h; cases h)
  refine ⟨_, _, pre2.trans ?_, hrun, hended, _, _, rfl, ?_, ⟨_, rfl⟩, hW, hsame.mono (by decide) (by decide)⟩
  · show Steps p.tables e below (s₁.setTop (mkF m 11 #[.val (.long x0), .second, .val (.long x1), .second] [(.long v1)])) _
    jvm_step X0.here [X0.here.top, hx, (hb hby d1_11), X0.method', Bd.returns, narrow]
    first | (intro acts; rw [hr _ acts rfl rfl rfl]) | rw [hr _ _ rfl rfl rfl]
    exact Steps.refl _
  · show Q1 Z x0 x1 h0 n0 _ s₁.heap _
    rw [e0]
    have hF : own_F1 x0 x1 = v1 := by
      subst v1
      simp only [own_F1]
    exact ⟨by rw [hF], N0, rfl⟩
theorem d2_0 : decode prog_9_method_3_code 0 = .ok (.iload_n 0, 1) := by decide +kernel
theorem d2_1 : decode prog_9_method_3_code 1 = .ok (.ifCond .ge 17, 3) := by decide +kernel
theorem d2_18 : decode prog_9_method_3_code 18 = .ok (.iload_n 0, 1) := by decide +kernel
theorem d2_19 : decode prog_9_method_3_code 19 = .ok (.ireturn, 1) := by decide +kernel
theorem pn2 : plainName "com/example/find_leader/findleader/election/Group" = true := by first | (simp [plainName, overriddenIn]; done) | decide +kernel
theorem ef2 (m : MethodId) (x0 : Int32) : entryFrame m #[(.int x0)] 1 = mkF m 0 #[.val (.int x0)] [] := by first | (simp [entryFrame, mkF, argsToLocals, Value.category]; done) | rfl
def own_F2 (x0 : Int32) : Int32 := x0
def Q2 (Z : State) (x0 : Int32) (h0 : Heap) (n0 : Nat) (v : Option Value) (h : Heap) (L : List Loc) : Prop := v = some (.int (own_F2 x0)) ∧ Fr n0 L ∧ h = h0
set_option maxRecDepth 65536 in
set_option maxHeartbeats 40000000 in
theorem rm2 (l : Launch) (Z : State) (a0 : Array Value) (hw : ∀ d ∈ tables_1, d.before a0 Z = true) (ws : List Jvm.Cond) (x0 : Int32) (h0 : Heap) (n0 : Nat) (Z0 : n0 ≤ h0.size) (hp0 : ¬ (x0 < (0 : Int32))) :
    MetFree l (⟨"com/example/find_leader/findleader/election/Group", "checkId", "(I)I"⟩ : MethodName) (head1 (Jvm.Cond.code (⟨"com/example/find_leader/findleader/election/Group", "checkId", "(I)I"⟩ : MethodName) prog_9_method_3_code 1 (some .int) :: ws) ({ frames := 0, cells := 0, slots := 0, locals := 0 } : Room)) (fun a U => a = #[(.int x0)] ∧ Z.Warmed39 U.vm ∧ U.heap = h0) (fun _ _ _ _ _ => True) (fun _ U o U' => ∃ v L, o = .returned v ∧ Q2 Z x0 h0 n0 v U'.heap L ∧ FrameEnd U o U' L ({ frames := 0, cells := 0, slots := 0, locals := 0 } : Room).cells ({ frames := 0, cells := 0, slots := 0, locals := 0 } : Room).slots) := by
  refine MetFree.of_bodySF (plainFor_of_name pn2) hisR ?_
  intro p e s m args below meth c s₁ Bd hml0 hP hK
  obtain ⟨rfl, hZ, hh⟩ := hP
  have hx := Bd.exec
  have hby := Bd.bytes
  have hml : c.maxLocals = 1 := hml0
  have hown : s.vm.findClass "com/example/find_leader/findleader/election/Group" = some m.cls := findClass_of_methodNamed Bd.named
  have hnm := (name_of_methodNamed Bd.named Bd.method).1
  have X0 : Stand p l e ({ frames := 0, cells := 0, slots := 0, locals := 0 } : Room) s m #[(.int x0)] below meth c s₁ [] 0 0 := Stand.of_body Bd
  have e0 : s₁.heap = h0 := by rw [← hh, Bd.state]; rfl
  have N0 := Fr.nil n0
  have pre0 : Steps p.tables e below (s₁.setTop (entryFrame m #[(.int x0)] 1)) (s₁.setTop (mkF m 0 #[.val (.int x0)] [])) := castTop (ef2 m x0) (Steps.refl _)
  have st1 : Steps p.tables e below (s₁.setTop (mkF m 0 #[.val (.int x0)] [])) (s₁.setTop (mkF m 1 #[.val (.int x0)] [(.int x0)])) := by
    refine XS.iloadN X0.here hx rfl (hb hby d2_0) rfl ?_
    show Steps p.tables e below (s₁.setTop (mkF m 1 #[.val (.int x0)] [(.int x0)])) _
    exact Steps.refl _
  have pre1 := pre0.trans st1
  have hc1 : ¬ (x0 < (0 : Int32)) := by
    exact hp0
  have st2 : Steps p.tables e below (s₁.setTop (mkF m 1 #[.val (.int x0)] [(.int x0)])) (s₁.setTop (mkF m 18 #[.val (.int x0)] [])) := by
    refine XS.ifYes X0.here hx rfl (pc0 := 1) (pc' := 18) rfl (hb hby d2_1) rfl ((if0 _ _).trans (flt hc1).2.1) (by decide) (by decide) ?_
    exact Steps.refl _
  have pre2 := pre1.trans st2
  have st3 : Steps p.tables e below (s₁.setTop (mkF m 18 #[.val (.int x0)] [])) (s₁.setTop (mkF m 19 #[.val (.int x0)] [(.int x0)])) := by
    refine XS.iloadN X0.here hx rfl (hb hby d2_18) rfl ?_
    show Steps p.tables e below (s₁.setTop (mkF m 19 #[.val (.int x0)] [(.int x0)])) _
    exact Steps.refl _
  have pre3 := pre2.trans st3
  obtain ⟨fs, hr, hrun, hended, hW, hsame⟩ := X0.leave (v := some (.int x0)) (fun h => by rw [Bd.returns] at h; cases h)
  refine ⟨_, _, pre3.trans ?_, hrun, hended, _, _, rfl, ?_, ⟨_, rfl⟩, hW, hsame.mono (by decide) (by decide)⟩
  · show Steps p.tables e below (s₁.setTop (mkF m 19 #[.val (.int x0)] [(.int x0)])) _
    exact retI X0 hx Bd.returns (hb hby d2_19) hr
  · show Q2 Z x0 h0 n0 _ s₁.heap _
    rw [e0]
    have hF : own_F2 x0 = x0 := by
      simp only [own_F2]
    exact ⟨by rw [hF], N0, rfl⟩
theorem d3_0 : decode prog_5_method_1_code 0 = .ok (.aload_n 0, 1) := by decide +kernel
theorem d3_1 : decode prog_5_method_1_code 1 = .ok (.invokespecial 1, 3) := by decide +kernel
theorem d3_4 : decode prog_5_method_1_code 4 = .ok (.aload_n 0, 1) := by decide +kernel
theorem d3_5 : decode prog_5_method_1_code 5 = .ok (.lload_n 1, 1) := by decide +kernel
theorem d3_6 : decode prog_5_method_1_code 6 = .ok (.putfield 7, 3) := by decide +kernel
theorem d3_9 : decode prog_5_method_1_code 9 = .ok (.aload_n 0, 1) := by decide +kernel
theorem d3_10 : decode prog_5_method_1_code 10 = .ok (.iload_n 3, 1) := by decide +kernel
theorem d3_11 : decode prog_5_method_1_code 11 = .ok (.putfield 13, 3) := by decide +kernel
theorem d3_14 : decode prog_5_method_1_code 14 = .ok (.return_, 1) := by decide +kernel
theorem pn3 : plainName "com/example/find_leader/findleader/election/Claim" = true := by first | (simp [plainName, overriddenIn]; done) | decide +kernel
theorem ef3 (m : MethodId) (x0 : Addr) (x1 : Int64) (x2 : Int32) : entryFrame m #[(.ref x0), (.long x1), (.int x2)] 4 = mkF m 0 #[.val (.ref x0), .val (.long x1), .second, .val (.int x2)] [] := by first | (simp [entryFrame, mkF, argsToLocals, Value.category]; done) | rfl
def Q3 (Z : State) (x0 : Addr) (x1 : Int64) (x2 : Int32) (u0 : Value) (u1 : Value) (h0 : Heap) (n0 : Nat) (v : Option Value) (h : Heap) (L : List Loc) : Prop := v = none ∧ Fr n0 L ∧ Keep h0 h [x0] ∧ Exa Z h x0 "com/example/find_leader/findleader/election/Claim" ∧ Fld Z h x0 "com/example/find_leader/findleader/election/Claim" "term" "J" (.long x1) ∧ Fld Z h x0 "com/example/find_leader/findleader/election/Claim" "id" "I" (.int x2)
set_option maxRecDepth 65536 in
set_option maxHeartbeats 40000000 in
theorem rm3 (l : Launch) (Z : State) (a0 : Array Value) (hw : ∀ d ∈ tables_1, d.before a0 Z = true) (ws : List Jvm.Cond) (x0 : Addr) (x1 : Int64) (x2 : Int32) (u0 : Value) (u1 : Value) (h0 : Heap) (n0 : Nat) (Z0 : n0 ≤ h0.size) (B0 : Exa Z h0 x0 "com/example/find_leader/findleader/election/Claim") (B1 : Fld Z h0 x0 "com/example/find_leader/findleader/election/Claim" "term" "J" u0) (B2 : Fld Z h0 x0 "com/example/find_leader/findleader/election/Claim" "id" "I" u1) (g_x0 : n0 ≤ x0) :
    MetFree l (⟨"com/example/find_leader/findleader/election/Claim", "<init>", "(JI)V"⟩ : MethodName) (head1 (Jvm.Cond.code (⟨"com/example/find_leader/findleader/election/Claim", "<init>", "(JI)V"⟩ : MethodName) prog_5_method_1_code 4 none :: ws) ({ frames := 1, cells := 0, slots := 0, locals := 12 } : Room)) (fun a U => a = #[(.ref x0), (.long x1), (.int x2)] ∧ Z.Warmed39 U.vm ∧ U.heap = h0) (fun _ _ _ _ _ => True) (fun _ U o U' => ∃ v L, o = .returned v ∧ Q3 Z x0 x1 x2 u0 u1 h0 n0 v U'.heap L ∧ FrameEnd U o U' L ({ frames := 1, cells := 0, slots := 0, locals := 12 } : Room).cells ({ frames := 1, cells := 0, slots := 0, locals := 12 } : Room).slots) := by
  refine MetFree.of_bodySF (plainFor_of_name pn3) hisR ?_
  intro p e s m args below meth c s₁ Bd hml0 hP hK
  obtain ⟨rfl, hZ, hh⟩ := hP
  have hx := Bd.exec
  have hby := Bd.bytes
  have hml : c.maxLocals = 4 := hml0
  have hown : s.vm.findClass "com/example/find_leader/findleader/election/Claim" = some m.cls := findClass_of_methodNamed Bd.named
  have hnm := (name_of_methodNamed Bd.named Bd.method).1
  have X0 : Stand p l e ({ frames := 1, cells := 0, slots := 0, locals := 12 } : Room) s m #[(.ref x0), (.long x1), (.int x2)] below meth c s₁ [] 0 0 := Stand.of_body Bd
  have e0 : s₁.heap = h0 := by rw [← hh, Bd.state]; rfl
  have N0 := Fr.nil n0
  have pre0 : Steps p.tables e below (s₁.setTop (entryFrame m #[(.ref x0), (.long x1), (.int x2)] 4)) (s₁.setTop (mkF m 0 #[.val (.ref x0), .val (.long x1), .second, .val (.int x2)] [])) := castTop (ef3 m x0 x1 x2) (Steps.refl _)
  have K0 := Keep.refl h0 [x0]
  have st1 : Steps p.tables e below (s₁.setTop (mkF m 0 #[.val (.ref x0), .val (.long x1), .second, .val (.int x2)] [])) (s₁.setTop (mkF m 1 #[.val (.ref x0), .val (.long x1), .second, .val (.int x2)] [(.ref x0)])) := by
    refine XS.aloadN X0.here hx rfl (hb hby d3_0) rfl rfl ?_
    show Steps p.tables e below (s₁.setTop (mkF m 1 #[.val (.ref x0), .val (.long x1), .second, .val (.int x2)] [(.ref x0)])) _
    exact Steps.refl _
  have pre1 := pre0.trans st1
  obtain ⟨T2, X2, e2, st2⟩ := initO X0 hx hZ hown (hw _ (List.mem_of_getElem? (i := 19) rfl)) (hw _ (List.mem_of_getElem? (i := 20) rfl)) (hw _ (List.mem_of_getElem? (i := 21) rfl)) e0 (g := (mkF m 1 #[.val (.ref x0), .val (.long x1), .second, .val (.int x2)] [(.ref x0)])) rfl (by rw [hml]; rfl) rfl (hb hby d3_1) (by decide) (W := 0) (by show 2 * 0 + _ ≤ _; exact Nat.le_of_eq rfl) (by decide)
  have pre2 : Steps p.tables e below (s₁.setTop (entryFrame m #[(.ref x0), (.long x1), (.int x2)] 4)) (T2.setTop (mkF m 4 #[.val (.ref x0), .val (.long x1), .second, .val (.int x2)] [])) := pre1.trans (st2 _ (Steps.refl _))
  have st3 : Steps p.tables e below (T2.setTop (mkF m 4 #[.val (.ref x0), .val (.long x1), .second, .val (.int x2)] [])) (T2.setTop (mkF m 6 #[.val (.ref x0), .val (.long x1), .second, .val (.int x2)] [(.long x1), (.ref x0)])) := by
    refine XS.aloadN X2.here hx rfl (hb hby d3_4) rfl rfl ?_
    show Steps p.tables e below (T2.setTop (mkF m 5 #[.val (.ref x0), .val (.long x1), .second, .val (.int x2)] [(.ref x0)])) _
    refine XS.lloadN X2.here hx rfl (hb hby d3_5) rfl ?_
    show Steps p.tables e below (T2.setTop (mkF m 6 #[.val (.ref x0), .val (.long x1), .second, .val (.int x2)] [(.long x1), (.ref x0)])) _
    exact Steps.refl _
  have pre3 := pre2.trans st3
  obtain ⟨T4, h4, X4, e4, W4, st4⟩ := putF X2 hx hZ hown (host := "") (Or.inl (hw _ (List.mem_of_getElem? (i := 22) rfl))) Via.refl e2 B1 B0 (Or.inr ⟨(hw _ (List.mem_of_getElem? (i := 23) rfl)), rfl, hnm⟩) (hw _ (List.mem_of_getElem? (i := 11) rfl)) (ty := .long) (by decide) rfl rfl (g := (mkF m 6 #[.val (.ref x0), .val (.long x1), .second, .val (.int x2)] [(.long x1), (.ref x0)])) rfl rfl (hb hby d3_6)
  have pre4 : Steps p.tables e below (s₁.setTop (entryFrame m #[(.ref x0), (.long x1), (.int x2)] 4)) (T4.setTop (mkF m 9 #[.val (.ref x0), .val (.long x1), .second, .val (.int x2)] [])) := pre3.trans (st4 _ (Steps.refl _))
  have F5 : Exa Z h4 x0 "com/example/find_leader/findleader/election/Claim" := B0.wr W4
  have F7 : Fld Z h4 x0 "com/example/find_leader/findleader/election/Claim" "id" "I" u1 := B2.other W4 (Or.inr (slot_ne (Or.inr (hw _ (List.mem_of_getElem? (i := 25) rfl))) (Or.inr (hw _ (List.mem_of_getElem? (i := 23) rfl))) (by decide) (t := .int) (t' := .long) (by decide) (by decide)))
  have K4 := K0.wr W4 (Or.inl (List.mem_of_getElem? (i := 0) rfl))
  have Z4 : n0 ≤ h4.size := Nat.le_trans Z0 (Keep.of_wr W4).1
  have Fw4 : Fld Z h4 x0 "com/example/find_leader/findleader/election/Claim" "term" "J" (.long x1) := B1.same W4
  have N4 := Fr.snoc X4 N0 g_x0
  have st8 : Steps p.tables e below (T4.setTop (mkF m 9 #[.val (.ref x0), .val (.long x1), .second, .val (.int x2)] [])) (T4.setTop (mkF m 11 #[.val (.ref x0), .val (.long x1), .second, .val (.int x2)] [(.int x2), (.ref x0)])) := by
    refine XS.aloadN X4.here hx rfl (hb hby d3_9) rfl rfl ?_
    show Steps p.tables e below (T4.setTop (mkF m 10 #[.val (.ref x0), .val (.long x1), .second, .val (.int x2)] [(.ref x0)])) _
    refine XS.iloadN X4.here hx rfl (hb hby d3_10) rfl ?_
    show Steps p.tables e below (T4.setTop (mkF m 11 #[.val (.ref x0), .val (.long x1), .second, .val (.int x2)] [(.int x2), (.ref x0)])) _
    exact Steps.refl _
  have pre8 := pre4.trans st8
  obtain ⟨T9, h9, X9, e9, W9, st9⟩ := putF X4 hx hZ hown (host := "") (Or.inl (hw _ (List.mem_of_getElem? (i := 24) rfl))) Via.refl e4 F7 F5 (Or.inr ⟨(hw _ (List.mem_of_getElem? (i := 25) rfl)), rfl, hnm⟩) (hw _ (List.mem_of_getElem? (i := 11) rfl)) (ty := .int) (by decide) rfl rfl (g := (mkF m 11 #[.val (.ref x0), .val (.long x1), .second, .val (.int x2)] [(.int x2), (.ref x0)])) rfl rfl (hb hby d3_11)
  have pre9 : Steps p.tables e below (s₁.setTop (entryFrame m #[(.ref x0), (.long x1), (.int x2)] 4)) (T9.setTop (mkF m 14 #[.val (.ref x0), .val (.long x1), .second, .val (.int x2)] [])) := pre8.trans (st9 _ (Steps.refl _))
  have F10 : Exa Z h9 x0 "com/example/find_leader/findleader/election/Claim" := F5.wr W9
  have F12 : Fld Z h9 x0 "com/example/find_leader/findleader/election/Claim" "term" "J" (.long x1) := Fw4.other W9 (Or.inr (slot_ne (Or.inr (hw _ (List.mem_of_getElem? (i := 23) rfl))) (Or.inr (hw _ (List.mem_of_getElem? (i := 25) rfl))) (by decide) (t := .long) (t' := .int) (by decide) (by decide)))
  have K9 := K4.wr W9 (Or.inl (List.mem_of_getElem? (i := 0) rfl))
  have Z9 : n0 ≤ h9.size := Nat.le_trans Z4 (Keep.of_wr W9).1
  have Fw9 : Fld Z h9 x0 "com/example/find_leader/findleader/election/Claim" "id" "I" (.int x2) := F7.same W9
  have N9 := Fr.snoc X9 N4 g_x0
  obtain ⟨fs, hr, hrun, hended, hW, hsame⟩ := X9.leave (v := none) (fun _ => rfl)
  refine ⟨_, _, pre9.trans ?_, hrun, hended, _, _, rfl, ?_, ⟨_, rfl⟩, hW, hsame.mono (by decide) (by decide)⟩
  · show Steps p.tables e below (T9.setTop (mkF m 14 #[.val (.ref x0), .val (.long x1), .second, .val (.int x2)] [])) _
    exact X9.returnOut hx Bd.returns (hb hby d3_14) hr
  · show Q3 Z x0 x1 x2 u0 u1 h0 n0 _ T9.heap _
    rw [e9]
    exact ⟨rfl, N9, K9, F10, F12, Fw9⟩
theorem d4_0 : decode prog_5_method_2_code 0 = .ok (.lload_n 0, 1) := by decide +kernel
theorem d4_1 : decode prog_5_method_2_code 1 = .ok (.lconst 1, 1) := by decide +kernel
theorem d4_2 : decode prog_5_method_2_code 2 = .ok (.lcmp, 1) := by decide +kernel
theorem d4_3 : decode prog_5_method_2_code 3 = .ok (.ifCond .ge 17, 3) := by decide +kernel
theorem d4_20 : decode prog_5_method_2_code 20 = .ok (.new 8, 3) := by decide +kernel
theorem d4_23 : decode prog_5_method_2_code 23 = .ok (.dup, 1) := by decide +kernel
theorem d4_24 : decode prog_5_method_2_code 24 = .ok (.lload_n 0, 1) := by decide +kernel
theorem d4_25 : decode prog_5_method_2_code 25 = .ok (.iload_n 2, 1) := by decide +kernel
theorem d4_26 : decode prog_5_method_2_code 26 = .ok (.invokestatic 26, 3) := by decide +kernel
theorem d4_29 : decode prog_5_method_2_code 29 = .ok (.invokespecial 32, 3) := by decide +kernel
theorem d4_32 : decode prog_5_method_2_code 32 = .ok (.areturn, 1) := by decide +kernel
theorem pn4 : plainName "com/example/find_leader/findleader/election/Claim" = true := by first | (simp [plainName, overriddenIn]; done) | decide +kernel
theorem pd4_0 : parseMethodDescriptor "(I)I" = some ⟨[.int], some .int⟩ := by decide +kernel
theorem pd4_1 : parseMethodDescriptor "(JI)V" = some ⟨[.long, .int], none⟩ := by decide +kernel
theorem ef4 (m : MethodId) (x0 : Int64) (x1 : Int32) : entryFrame m #[(.long x0), (.int x1)] 3 = mkF m 0 #[.val (.long x0), .second, .val (.int x1)] [] := by first | (simp [entryFrame, mkF, argsToLocals, Value.category]; done) | rfl
def Q4 (Z : State) (x0 : Int64) (x1 : Int32) (h0 : Heap) (n0 : Nat) (v : Option Value) (h : Heap) (L : List Loc) : Prop := ∃ res : Addr, v = some (.ref res) ∧ Fr n0 L ∧ Keep h0 h [] ∧ h0.size ≤ res ∧ Exa Z h res "com/example/find_leader/findleader/election/Claim" ∧ Fld Z h res "com/example/find_leader/findleader/election/Claim" "term" "J" (.long x0) ∧ Fld Z h res "com/example/find_leader/findleader/election/Claim" "id" "I" (.int (own_F2 x1))
set_option maxRecDepth 65536 in
set_option maxHeartbeats 40000000 in
theorem rm4 (l : Launch) (Z : State) (a0 : Array Value) (hw : ∀ d ∈ tables_1, d.before a0 Z = true) (ws : List Jvm.Cond) (x0 : Int64) (x1 : Int32) (h0 : Heap) (n0 : Nat) (Z0 : n0 ≤ h0.size) (hp0 : ¬ (x0 < (1 : Int64))) (hp1 : ¬ (x1 < (0 : Int32))) :
    MetFree l (⟨"com/example/find_leader/findleader/election/Claim", "of", "(JI)Lcom/example/find_leader/findleader/election/Claim;"⟩ : MethodName) (head1 (Jvm.Cond.code (⟨"com/example/find_leader/findleader/election/Claim", "of", "(JI)Lcom/example/find_leader/findleader/election/Claim;"⟩ : MethodName) prog_5_method_2_code 3 (some (.object "com/example/find_leader/findleader/election/Claim")) :: ws) ({ frames := 2, cells := 1, slots := 2, locals := 28 } : Room)) (fun a U => a = #[(.long x0), (.int x1)] ∧ Z.Warmed39 U.vm ∧ U.heap = h0) (fun _ _ _ _ _ => True) (fun _ U o U' => ∃ v L, o = .returned v ∧ Q4 Z x0 x1 h0 n0 v U'.heap L ∧ FrameEnd U o U' L ({ frames := 2, cells := 1, slots := 2, locals := 28 } : Room).cells ({ frames := 2, cells := 1, slots := 2, locals := 28 } : Room).slots) := by
  refine MetFree.of_bodySF (plainFor_of_name pn4) hisR ?_
  intro p e s m args below meth c s₁ Bd hml0 hP hK
  obtain ⟨rfl, hZ, hh⟩ := hP
  have hx := Bd.exec
  have hby := Bd.bytes
  have hml : c.maxLocals = 3 := hml0
  have hown : s.vm.findClass "com/example/find_leader/findleader/election/Claim" = some m.cls := findClass_of_methodNamed Bd.named
  have hnm := (name_of_methodNamed Bd.named Bd.method).1
  have X0 : Stand p l e ({ frames := 2, cells := 1, slots := 2, locals := 28 } : Room) s m #[(.long x0), (.int x1)] below meth c s₁ [] 0 0 := Stand.of_body Bd
  have e0 : s₁.heap = h0 := by rw [← hh, Bd.state]; rfl
  have N0 := Fr.nil n0
  have pre0 : Steps p.tables e below (s₁.setTop (entryFrame m #[(.long x0), (.int x1)] 3)) (s₁.setTop (mkF m 0 #[.val (.long x0), .second, .val (.int x1)] [])) := castTop (ef4 m x0 x1) (Steps.refl _)
  have K0 := Keep.refl h0 []
  have st1 : Steps p.tables e below (s₁.setTop (mkF m 0 #[.val (.long x0), .second, .val (.int x1)] [])) (s₁.setTop (mkF m 3 #[.val (.long x0), .second, .val (.int x1)] [(.int (lcmpW x0 (1 : Int64)))])) := by
    refine XS.lloadN X0.here hx rfl (hb hby d4_0) rfl ?_
    show Steps p.tables e below (s₁.setTop (mkF m 1 #[.val (.long x0), .second, .val (.int x1)] [(.long x0)])) _
    refine XS.lconst X0.here hx rfl (hb hby d4_1) ?_
    show Steps p.tables e below (s₁.setTop (mkF m 2 #[.val (.long x0), .second, .val (.int x1)] [(.long (1 : Int64)), (.long x0)])) _
    refine XS.lcmp X0.here hx rfl (hb hby d4_2) rfl ?_
    show Steps p.tables e below (s₁.setTop (mkF m 3 #[.val (.long x0), .second, .val (.int x1)] [(.int (lcmpW x0 (1 : Int64)))])) _
    exact Steps.refl _
  have pre1 := pre0.trans st1
  have hc3 : ¬ (x0 < (1 : Int64)) := by
    exact hp0
  have st2 : Steps p.tables e below (s₁.setTop (mkF m 3 #[.val (.long x0), .second, .val (.int x1)] [(.int (lcmpW x0 (1 : Int64)))])) (s₁.setTop (mkF m 20 #[.val (.long x0), .second, .val (.int x1)] [])) := by
    refine XS.ifYes X0.here hx rfl (pc0 := 3) (pc' := 20) rfl (hb hby d4_3) rfl ((if0 _ _).trans (flt (fun q => hc3 ((lw_lt x0 (1 : Int64)).mp q))).2.1) (by decide) (by decide) ?_
    exact Steps.refl _
  have pre2 := pre1.trans st2
  obtain ⟨T3, h3, X3, e3, E3, A3, D3, -, st3⟩ := newO X0 hx hZ hown (hw _ (List.mem_of_getElem? (i := 10) rfl)) (hw _ (List.mem_of_getElem? (i := 11) rfl)) (hw _ (List.mem_of_getElem? (i := 8) rfl)) e0 (g := (mkF m 20 #[.val (.long x0), .second, .val (.int x1)] [])) rfl (hb hby d4_20) (by decide) (by decide)
  obtain ⟨b3, g3⟩ : ∃ z, z = h0.size := ⟨_, rfl⟩
  rw [← g3] at A3 D3 st3
  have pre3 : Steps p.tables e below (s₁.setTop (entryFrame m #[(.long x0), (.int x1)] 3)) (T3.setTop (mkF m 23 #[.val (.long x0), .second, .val (.int x1)] [(.ref b3)])) := pre2.trans (st3 _ (Steps.refl _))
  have gn3 : n0 ≤ b3 := Nat.le_trans Z0 (Nat.le_of_eq g3.symm)
  have sz3 : h0.size ≤ b3 := Nat.le_trans K0.1 (Nat.le_of_eq g3.symm)
  have K3 := K0.ext E3
  have Z3 : n0 ≤ h3.size := Nat.le_trans Z0 E3.1
  have F4 : Fld Z h3 b3 "com/example/find_leader/findleader/election/Claim" "term" "J" (.long (0 : Int64)) := D3 (Or.inr (hw _ (List.mem_of_getElem? (i := 23) rfl))) (ty := .long) (by decide)
  have F5 : Fld Z h3 b3 "com/example/find_leader/findleader/election/Claim" "id" "I" (.int (0 : Int32)) := D3 (Or.inr (hw _ (List.mem_of_getElem? (i := 25) rfl))) (ty := .int) (by decide)
  have st6 : Steps p.tables e below (T3.setTop (mkF m 23 #[.val (.long x0), .second, .val (.int x1)] [(.ref b3)])) (T3.setTop (mkF m 26 #[.val (.long x0), .second, .val (.int x1)] [(.int x1), (.long x0), (.ref b3), (.ref b3)])) := by
    refine XS.dup X3.here hx rfl (hb hby d4_23) rfl rfl ?_
    show Steps p.tables e below (T3.setTop (mkF m 24 #[.val (.long x0), .second, .val (.int x1)] [(.ref b3), (.ref b3)])) _
    refine XS.lloadN X3.here hx rfl (hb hby d4_24) rfl ?_
    show Steps p.tables e below (T3.setTop (mkF m 25 #[.val (.long x0), .second, .val (.int x1)] [(.long x0), (.ref b3), (.ref b3)])) _
    refine XS.iloadN X3.here hx rfl (hb hby d4_25) rfl ?_
    show Steps p.tables e below (T3.setTop (mkF m 26 #[.val (.long x0), .second, .val (.int x1)] [(.int x1), (.long x0), (.ref b3), (.ref b3)])) _
    exact Steps.refl _
  have pre6 := pre3.trans st6
  obtain ⟨_, _, ⟨T7, L7, k7, n7⟩, -, X7, ⟨Lc7, hQ7, l7, y7, z7⟩, st7⟩ := Jvm.LawKit.callS X3 hx (y := (⟨"com/example/find_leader/findleader/election/Group", "checkId", "(I)I"⟩ : MethodName)) hown (mvT hZ (hw _ (List.mem_of_getElem? (i := 12) rfl))) (mvT hZ (hw _ (List.mem_of_getElem? (i := 13) rfl))) (mvT hZ (hw _ (List.mem_of_getElem? (i := 14) rfl))) (mvT hZ (hw _ (List.mem_of_getElem? (i := 15) rfl))) (by decide) (backOf (W := 4) (rm2 l Z a0 hw [] x1 h3 n0 Z3 hp1) hZ (hw _ (List.mem_of_getElem? (i := 15) rfl)) (hw _ (List.mem_of_getElem? (i := 14) rfl)) (by decide) (by decide)) (g := (mkF m 26 #[.val (.long x0), .second, .val (.int x1)] [(.int x1), (.long x0), (.ref b3), (.ref b3)])) rfl (by rw [hml]; rfl) (argsL := [(.int x1)]) (rest := [(.long x0), (.ref b3), (.ref b3)]) (lenOf pd4_0 rfl) rfl (by show 2 * 0 + _ ≤ _; exact Nat.le_of_eq rfl) (hb hby d4_26) (fun _ _ => ⟨rfl, e3, (by decide : 1 + 0 ≤ _), (by decide : 2 + 0 ≤ _)⟩)
  dsimp only [Pt.U, Pt.locs, Pt.cells, Pt.slots] at X7 l7 y7 z7 st7 hQ7
  subst l7 y7 z7
  obtain ⟨rfl, Nq7, e7⟩ := hQ7
  have N7 := Fr.app N0 Nq7
  have pre7 : Steps p.tables e below (s₁.setTop (entryFrame m #[(.long x0), (.int x1)] 3)) (T7.setTop (mkF m 29 #[.val (.long x0), .second, .val (.int x1)] [(.int (own_F2 x1)), (.long x0), (.ref b3), (.ref b3)])) := pre6.trans (st7 _ (Steps.refl _))
  obtain ⟨_, _, ⟨T8, L8, k8, n8⟩, -, X8, ⟨Lc8, hQ8, l8, y8, z8⟩, st8⟩ := X7.specialBack hx (y := (⟨"com/example/find_leader/findleader/election/Claim", "<init>", "(JI)V"⟩ : MethodName)) rfl hown (mvT hZ (hw _ (List.mem_of_getElem? (i := 16) rfl))) (mvT hZ (hw _ (List.mem_of_getElem? (i := 17) rfl))) (mvT hZ (hw _ (List.mem_of_getElem? (i := 18) rfl))) (by decide) (backOf (W := 1) (rm3 l Z a0 hw [] b3 x0 (own_F2 x1) (.long (0 : Int64)) (.int (0 : Int32)) h3 n0 Z3 A3 F4 F5 gn3) hZ (hw _ (List.mem_of_getElem? (i := 18) rfl)) (hw _ (List.mem_of_getElem? (i := 8) rfl)) (by decide) (by decide)) (g := (mkF m 29 #[.val (.long x0), .second, .val (.int x1)] [(.int (own_F2 x1)), (.long x0), (.ref b3), (.ref b3)])) rfl (by rw [hml]; rfl) (Steps.refl _) (a := b3) (argsL := [(.long x0), (.int (own_F2 x1))]) (rest := [(.ref b3)]) (lenOf pd4_1 rfl) rfl (by show 2 * 0 + _ ≤ _; exact Nat.le_of_eq rfl) (hb hby d4_29) (fun _ _ => ⟨rfl, e7, (by decide : 1 + 0 ≤ _), (by decide : 2 + 0 ≤ _)⟩)
  dsimp only [Pt.U, Pt.locs, Pt.cells, Pt.slots] at X8 l8 y8 z8 st8 hQ8
  subst l8 y8 z8
  obtain ⟨rfl, Nq8, Kq8, P8_0, P8_1, P8_2⟩ := hQ8
  have F9 : Exa Z T8.heap b3 "com/example/find_leader/findleader/election/Claim" := A3.keep Kq8
  have KK8 := K3.trans Kq8 (allS (Or.inr sz3) all0)
  have Z8 : n0 ≤ T8.heap.size := Nat.le_trans Z3 Kq8.1
  have N8 := Fr.app N7 Nq8
  have pre8 : Steps p.tables e below (s₁.setTop (entryFrame m #[(.long x0), (.int x1)] 3)) (T8.setTop (mkF m 32 #[.val (.long x0), .second, .val (.int x1)] [(.ref b3)])) := pre7.trans st8
  obtain ⟨fs, hr, hrun, hended, hW, hsame⟩ := X8.leave (v := some (.ref b3)) (fun h => by rw [Bd.returns] at h; cases h)
  refine ⟨_, _, pre8.trans ?_, hrun, hended, _, _, rfl, ?_, ⟨_, rfl⟩, hW, hsame.mono (by decide) (by decide)⟩
  · show Steps p.tables e below (T8.setTop (mkF m 32 #[.val (.long x0), .second, .val (.int x1)] [(.ref b3)])) _
    jvm_step X8.here [X8.here.top, hx, (hb hby d4_32), X8.method', Bd.returns, Value.isRef, FieldType.isReference]
    first | (intro acts; rw [hr _ acts rfl rfl rfl]) | rw [hr _ _ rfl rfl rfl]
    exact Steps.refl _
  · show Q4 Z x0 x1 h0 n0 _ T8.heap _
    exact ⟨b3, rfl, N8, KK8, sz3, F9, P8_1, P8_2⟩
theorem d5_0 : decode prog_5_method_5_code 0 = .ok (.aload_n 0, 1) := by decide +kernel
theorem d5_1 : decode prog_5_method_5_code 1 = .ok (.getfield 13, 3) := by decide +kernel
theorem d5_4 : decode prog_5_method_5_code 4 = .ok (.iconst (-1), 1) := by decide +kernel
theorem d5_5 : decode prog_5_method_5_code 5 = .ok (.if_icmp .ne 7, 3) := by decide +kernel
theorem d5_8 : decode prog_5_method_5_code 8 = .ok (.iconst 1, 1) := by decide +kernel
theorem d5_9 : decode prog_5_method_5_code 9 = .ok (.goto 4, 3) := by decide +kernel
theorem d5_12 : decode prog_5_method_5_code 12 = .ok (.iconst 0, 1) := by decide +kernel
theorem d5_13 : decode prog_5_method_5_code 13 = .ok (.ireturn, 1) := by decide +kernel
theorem pn5 : plainName "com/example/find_leader/findleader/election/Claim" = true := by first | (simp [plainName, overriddenIn]; done) | decide +kernel
theorem ef5 (m : MethodId) (x0 : Addr) : entryFrame m #[(.ref x0)] 1 = mkF m 0 #[.val (.ref x0)] [] := by first | (simp [entryFrame, mkF, argsToLocals, Value.category]; done) | rfl
def own_F5 (x0 : Addr) (w0 : Int32) : Int32 := (if w0 = (-1 : Int32) then (1 : Int32) else (0 : Int32))
def Q5 (Z : State) (x0 : Addr) (w0 : Int32) (h0 : Heap) (n0 : Nat) (v : Option Value) (h : Heap) (L : List Loc) : Prop := v = some (.int (own_F5 x0 w0)) ∧ Fr n0 L ∧ h = h0
set_option maxRecDepth 65536 in
set_option maxHeartbeats 40000000 in
theorem rm5 (l : Launch) (Z : State) (a0 : Array Value) (hw : ∀ d ∈ tables_1, d.before a0 Z = true) (ws : List Jvm.Cond) (x0 : Addr) (w0 : Int32) (h0 : Heap) (n0 : Nat) (Z0 : n0 ≤ h0.size) (B0 : Fld Z h0 x0 "com/example/find_leader/findleader/election/Claim" "id" "I" (.int w0)) :
    MetFree l (⟨"com/example/find_leader/findleader/election/Claim", "isNone", "()Z"⟩ : MethodName) (head1 (Jvm.Cond.code (⟨"com/example/find_leader/findleader/election/Claim", "isNone", "()Z"⟩ : MethodName) prog_5_method_5_code 1 (some .boolean) :: ws) ({ frames := 0, cells := 0, slots := 0, locals := 0 } : Room)) (fun a U => a = #[(.ref x0)] ∧ Z.Warmed39 U.vm ∧ U.heap = h0) (fun _ _ _ _ _ => True) (fun _ U o U' => ∃ v L, o = .returned v ∧ Q5 Z x0 w0 h0 n0 v U'.heap L ∧ FrameEnd U o U' L ({ frames := 0, cells := 0, slots := 0, locals := 0 } : Room).cells ({ frames := 0, cells := 0, slots := 0, locals := 0 } : Room).slots) := by
  refine MetFree.of_bodySF (plainFor_of_name pn5) hisR ?_
  intro p e s m args below meth c s₁ Bd hml0 hP hK
  obtain ⟨rfl, hZ, hh⟩ := hP
  have hx := Bd.exec
  have hby := Bd.bytes
  have hml : c.maxLocals = 1 := hml0
  have hown : s.vm.findClass "com/example/find_leader/findleader/election/Claim" = some m.cls := findClass_of_methodNamed Bd.named
  have hnm := (name_of_methodNamed Bd.named Bd.method).1
  have X0 : Stand p l e ({ frames := 0, cells := 0, slots := 0, locals := 0 } : Room) s m #[(.ref x0)] below meth c s₁ [] 0 0 := Stand.of_body Bd
  have e0 : s₁.heap = h0 := by rw [← hh, Bd.state]; rfl
  have N0 := Fr.nil n0
  have pre0 : Steps p.tables e below (s₁.setTop (entryFrame m #[(.ref x0)] 1)) (s₁.setTop (mkF m 0 #[.val (.ref x0)] [])) := castTop (ef5 m x0) (Steps.refl _)
  have st1 : Steps p.tables e below (s₁.setTop (mkF m 0 #[.val (.ref x0)] [])) (s₁.setTop (mkF m 1 #[.val (.ref x0)] [(.ref x0)])) := by
    refine XS.aloadN X0.here hx rfl (hb hby d5_0) rfl rfl ?_
    show Steps p.tables e below (s₁.setTop (mkF m 1 #[.val (.ref x0)] [(.ref x0)])) _
    exact Steps.refl _
  have pre1 := pre0.trans st1
  obtain ⟨T2, X2, e2, st2⟩ := getF X0 hx hZ hown (host := "") (Or.inl (hw _ (List.mem_of_getElem? (i := 24) rfl))) Via.refl e0 B0 (g := (mkF m 1 #[.val (.ref x0)] [(.ref x0)])) rfl rfl (hb hby d5_1)
  have pre2 : Steps p.tables e below (s₁.setTop (entryFrame m #[(.ref x0)] 1)) (T2.setTop (mkF m 4 #[.val (.ref x0)] [(.int w0)])) := pre1.trans (st2 _ (Steps.refl _))
  obtain ⟨v3, hv3⟩ : ∃ z : Int32, z = (if w0 = (-1 : Int32) then (1 : Int32) else (0 : Int32)) := ⟨_, rfl⟩
  have st4 : Steps p.tables e below (T2.setTop (mkF m 4 #[.val (.ref x0)] [(.int w0)])) (T2.setTop (mkF m 13 #[.val (.ref x0)] [(.int v3)])) := by
    subst v3
    refine XS.iconst X2.here hx rfl (hb hby d5_4) ?_
    show Steps p.tables e below (T2.setTop (mkF m 5 #[.val (.ref x0)] [(.int (-1 : Int32)), (.int w0)])) _
    refine Steps.trans (s₂ := T2.setTop (mkF m 13 #[.val (.ref x0)] [(.int (if w0 = (-1 : Int32) then (1 : Int32) else (0 : Int32)))])) ?_ ?_
    · by_cases hc5 : w0 = (-1 : Int32)
      · refine XS.icmpNo X2.here hx rfl (hb hby d5_5) rfl (teq hc5).2 ?_
        show Steps p.tables e below (T2.setTop (mkF m 8 #[.val (.ref x0)] [])) _
        refine XS.iconst X2.here hx rfl (hb hby d5_8) ?_
        show Steps p.tables e below (T2.setTop (mkF m 9 #[.val (.ref x0)] [(.int (1 : Int32))])) _
        refine XS.goto X2.here hx rfl (pc0 := 9) (pc' := 13) rfl (hb hby d5_9) (by decide) (by decide) ?_
        show Steps p.tables e below (T2.setTop (mkF m 13 #[.val (.ref x0)] [(.int (1 : Int32))])) _
        try simp only [if_pos hc5]
        exact Steps.refl _
      · refine XS.icmpYes X2.here hx rfl (pc0 := 5) (pc' := 12) rfl (hb hby d5_5) rfl (feq hc5).2 (by decide) (by decide) ?_
        show Steps p.tables e below (T2.setTop (mkF m 12 #[.val (.ref x0)] [])) _
        refine XS.iconst X2.here hx rfl (hb hby d5_12) ?_
        show Steps p.tables e below (T2.setTop (mkF m 13 #[.val (.ref x0)] [(.int (0 : Int32))])) _
        try simp only [if_neg hc5]
        exact Steps.refl _
    show Steps p.tables e below (T2.setTop (mkF m 13 #[.val (.ref x0)] [(.int (if w0 = (-1 : Int32) then (1 : Int32) else (0 : Int32)))])) _
    exact Steps.refl _
  have pre4 := pre2.trans st4
  obtain ⟨fs, hr, hrun, hended, hW, hsame⟩ := X2.leave (v := some (.int (nar .boolean v3))) (fun h => by rw [Bd.returns] at h; cases h)
  refine ⟨_, _, pre4.trans ?_, hrun, hended, _, _, rfl, ?_, ⟨_, rfl⟩, hW, hsame.mono (by decide) (by decide)⟩
  · show Steps p.tables e below (T2.setTop (mkF m 13 #[.val (.ref x0)] [(.int v3)])) _
    exact retN X2 hx (t := .boolean) Bd.returns (by simp) (hb hby d5_13) hr
  · show Q5 Z x0 w0 h0 n0 _ T2.heap _
    rw [e2]
    have hF : own_F5 x0 w0 = v3 := by
      subst v3
      simp only [own_F5]
    have hN : nar .boolean v3 = v3 := by
      subst v3
      repeat' split
      all_goals rfl
    exact ⟨by rw [hF, hN], N0, rfl⟩
theorem d6_0 : decode prog_5_method_4_code 0 = .ok (.aload_n 0, 1) := by decide +kernel
theorem d6_1 : decode prog_5_method_4_code 1 = .ok (.getfield 7, 3) := by decide +kernel
theorem d6_4 : decode prog_5_method_4_code 4 = .ok (.lreturn, 1) := by decide +kernel
theorem pn6 : plainName "com/example/find_leader/findleader/election/Claim" = true := by first | (simp [plainName, overriddenIn]; done) | decide +kernel
theorem ef6 (m : MethodId) (x0 : Addr) : entryFrame m #[(.ref x0)] 1 = mkF m 0 #[.val (.ref x0)] [] := by first | (simp [entryFrame, mkF, argsToLocals, Value.category]; done) | rfl
def own_F6 (x0 : Addr) (w0 : Int64) : Int64 := w0
def Q6 (Z : State) (x0 : Addr) (w0 : Int64) (h0 : Heap) (n0 : Nat) (v : Option Value) (h : Heap) (L : List Loc) : Prop := v = some (.long (own_F6 x0 w0)) ∧ Fr n0 L ∧ h = h0
set_option maxRecDepth 65536 in
set_option maxHeartbeats 40000000 in
theorem rm6 (l : Launch) (Z : State) (a0 : Array Value) (hw : ∀ d ∈ tables_1, d.before a0 Z = true) (ws : List Jvm.Cond) (x0 : Addr) (w0 : Int64) (h0 : Heap) (n0 : Nat) (Z0 : n0 ≤ h0.size) (B0 : Fld Z h0 x0 "com/example/find_leader/findleader/election/Claim" "term" "J" (.long w0)) :
    MetFree l (⟨"com/example/find_leader/findleader/election/Claim", "getTerm", "()J"⟩ : MethodName) (head1 (Jvm.Cond.code (⟨"com/example/find_leader/findleader/election/Claim", "getTerm", "()J"⟩ : MethodName) prog_5_method_4_code 1 (some .long) :: ws) ({ frames := 0, cells := 0, slots := 0, locals := 0 } : Room)) (fun a U => a = #[(.ref x0)] ∧ Z.Warmed39 U.vm ∧ U.heap = h0) (fun _ _ _ _ _ => True) (fun _ U o U' => ∃ v L, o = .returned v ∧ Q6 Z x0 w0 h0 n0 v U'.heap L ∧ FrameEnd U o U' L ({ frames := 0, cells := 0, slots := 0, locals := 0 } : Room).cells ({ frames := 0, cells := 0, slots := 0, locals := 0 } : Room).slots) := by
  refine MetFree.of_bodySF (plainFor_of_name pn6) hisR ?_
  intro p e s m args below meth c s₁ Bd hml0 hP hK
  obtain ⟨rfl, hZ, hh⟩ := hP
  have hx := Bd.exec
  have hby := Bd.bytes
  have hml : c.maxLocals = 1 := hml0
  have hown : s.vm.findClass "com/example/find_leader/findleader/election/Claim" = some m.cls := findClass_of_methodNamed Bd.named
  have hnm := (name_of_methodNamed Bd.named Bd.method).1
  have X0 : Stand p l e ({ frames := 0, cells := 0, slots := 0, locals := 0 } : Room) s m #[(.ref x0)] below meth c s₁ [] 0 0 := Stand.of_body Bd
  have e0 : s₁.heap = h0 := by rw [← hh, Bd.state]; rfl
  have N0 := Fr.nil n0
  have pre0 : Steps p.tables e below (s₁.setTop (entryFrame m #[(.ref x0)] 1)) (s₁.setTop (mkF m 0 #[.val (.ref x0)] [])) := castTop (ef6 m x0) (Steps.refl _)
  have st1 : Steps p.tables e below (s₁.setTop (mkF m 0 #[.val (.ref x0)] [])) (s₁.setTop (mkF m 1 #[.val (.ref x0)] [(.ref x0)])) := by
    refine XS.aloadN X0.here hx rfl (hb hby d6_0) rfl rfl ?_
    show Steps p.tables e below (s₁.setTop (mkF m 1 #[.val (.ref x0)] [(.ref x0)])) _
    exact Steps.refl _
  have pre1 := pre0.trans st1
  obtain ⟨T2, X2, e2, st2⟩ := getF X0 hx hZ hown (host := "") (Or.inl (hw _ (List.mem_of_getElem? (i := 22) rfl))) Via.refl e0 B0 (g := (mkF m 1 #[.val (.ref x0)] [(.ref x0)])) rfl rfl (hb hby d6_1)
  have pre2 : Steps p.tables e below (s₁.setTop (entryFrame m #[(.ref x0)] 1)) (T2.setTop (mkF m 4 #[.val (.ref x0)] [(.long w0)])) := pre1.trans (st2 _ (Steps.refl _))
  obtain ⟨fs, hr, hrun, hended, hW, hsame⟩ := X2.leave (v := some (.long w0)) (fun h => by rw [Bd.returns] at h; cases h)
  refine ⟨_, _, pre2.trans ?_, hrun, hended, _, _, rfl, ?_, ⟨_, rfl⟩, hW, hsame.mono (by decide) (by decide)⟩
  · show Steps p.tables e below (T2.setTop (mkF m 4 #[.val (.ref x0)] [(.long w0)])) _
    jvm_step X2.here [X2.here.top, hx, (hb hby d6_4), X2.method', Bd.returns, narrow]
    first | (intro acts; rw [hr _ acts rfl rfl rfl]) | rw [hr _ _ rfl rfl rfl]
    exact Steps.refl _
  · show Q6 Z x0 w0 h0 n0 _ T2.heap _
    rw [e2]
    have hF : own_F6 x0 w0 = w0 := by
      simp only [own_F6]
    exact ⟨by rw [hF], N0, rfl⟩
theorem own_none (x : Addr) (w : Int32) : (¬ w = (-1 : Int32) → own_F5 x w = (0 : Int32)) ∧ (w = (-1 : Int32) → own_F5 x w = (1 : Int32)) := by
  refine ⟨fun h => ?_, fun h => ?_⟩
  · simp only [own_F5, if_neg h]
  · simp only [own_F5, if_pos h]
theorem d7_0 : decode prog_5_method_7_code 0 = .ok (.aload_n 0, 1) := by decide +kernel
theorem d7_1 : decode prog_5_method_7_code 1 = .ok (.invokevirtual 45, 3) := by decide +kernel
theorem d7_4 : decode prog_5_method_7_code 4 = .ok (.ifCond .eq 13, 3) := by decide +kernel
theorem d7_17 : decode prog_5_method_7_code 17 = .ok (.aload_n 0, 1) := by decide +kernel
theorem d7_18 : decode prog_5_method_7_code 18 = .ok (.getfield 13, 3) := by decide +kernel
theorem d7_21 : decode prog_5_method_7_code 21 = .ok (.ireturn, 1) := by decide +kernel
theorem pn7 : plainName "com/example/find_leader/findleader/election/Claim" = true := by first | (simp [plainName, overriddenIn]; done) | decide +kernel
theorem pd7_0 : parseMethodDescriptor "()Z" = some ⟨[], some .boolean⟩ := by decide +kernel
theorem ef7 (m : MethodId) (x0 : Addr) : entryFrame m #[(.ref x0)] 1 = mkF m 0 #[.val (.ref x0)] [] := by first | (simp [entryFrame, mkF, argsToLocals, Value.category]; done) | rfl
def own_F7 (x0 : Addr) (w0 : Int32) : Int32 := w0
def Q7 (Z : State) (x0 : Addr) (w0 : Int32) (h0 : Heap) (n0 : Nat) (v : Option Value) (h : Heap) (L : List Loc) : Prop := v = some (.int (own_F7 x0 w0)) ∧ Fr n0 L ∧ h = h0
set_option maxRecDepth 65536 in
set_option maxHeartbeats 40000000 in
theorem rm7 (l : Launch) (Z : State) (a0 : Array Value) (hw : ∀ d ∈ tables_1, d.before a0 Z = true) (ws : List Jvm.Cond) (x0 : Addr) (w0 : Int32) (h0 : Heap) (n0 : Nat) (Z0 : n0 ≤ h0.size) (B0 : Exa Z h0 x0 "com/example/find_leader/findleader/election/Claim") (B1 : Fld Z h0 x0 "com/example/find_leader/findleader/election/Claim" "id" "I" (.int w0)) (hp0 : ¬ (w0 = (-1 : Int32))) :
    MetFree l (⟨"com/example/find_leader/findleader/election/Claim", "getId", "()I"⟩ : MethodName) (head1 (Jvm.Cond.code (⟨"com/example/find_leader/findleader/election/Claim", "getId", "()I"⟩ : MethodName) prog_5_method_7_code 1 (some .int) :: ws) ({ frames := 1, cells := 0, slots := 0, locals := 12 } : Room)) (fun a U => a = #[(.ref x0)] ∧ Z.Warmed39 U.vm ∧ U.heap = h0) (fun _ _ _ _ _ => True) (fun _ U o U' => ∃ v L, o = .returned v ∧ Q7 Z x0 w0 h0 n0 v U'.heap L ∧ FrameEnd U o U' L ({ frames := 1, cells := 0, slots := 0, locals := 12 } : Room).cells ({ frames := 1, cells := 0, slots := 0, locals := 12 } : Room).slots) := by
  refine MetFree.of_bodySF (plainFor_of_name pn7) hisR ?_
  intro p e s m args below meth c s₁ Bd hml0 hP hK
  obtain ⟨rfl, hZ, hh⟩ := hP
  have hx := Bd.exec
  have hby := Bd.bytes
  have hml : c.maxLocals = 1 := hml0
  have hown : s.vm.findClass "com/example/find_leader/findleader/election/Claim" = some m.cls := findClass_of_methodNamed Bd.named
  have hnm := (name_of_methodNamed Bd.named Bd.method).1
  have X0 : Stand p l e ({ frames := 1, cells := 0, slots := 0, locals := 12 } : Room) s m #[(.ref x0)] below meth c s₁ [] 0 0 := Stand.of_body Bd
  have e0 : s₁.heap = h0 := by rw [← hh, Bd.state]; rfl
  have N0 := Fr.nil n0
  have pre0 : Steps p.tables e below (s₁.setTop (entryFrame m #[(.ref x0)] 1)) (s₁.setTop (mkF m 0 #[.val (.ref x0)] [])) := castTop (ef7 m x0) (Steps.refl _)
  have st1 : Steps p.tables e below (s₁.setTop (mkF m 0 #[.val (.ref x0)] [])) (s₁.setTop (mkF m 1 #[.val (.ref x0)] [(.ref x0)])) := by
    refine XS.aloadN X0.here hx rfl (hb hby d7_0) rfl rfl ?_
    show Steps p.tables e below (s₁.setTop (mkF m 1 #[.val (.ref x0)] [(.ref x0)])) _
    exact Steps.refl _
  have pre1 := pre0.trans st1
  obtain ⟨cq2, kq2, q2a, q2b, q2c⟩ := isOf hZ e0 B0
  obtain ⟨_, _, ⟨T2, L2, k2, n2⟩, -, X2, ⟨Lc2, hQ2, l2, y2, z2⟩, st2⟩ := X0.virtualBack hx (y := (⟨"com/example/find_leader/findleader/election/Claim", "isNone", "()Z"⟩ : MethodName)) (z := (⟨"com/example/find_leader/findleader/election/Claim", "isNone", "()Z"⟩ : MethodName)) hown (mvT hZ (hw _ (List.mem_of_getElem? (i := 36) rfl))) (mvT hZ (hw _ (List.mem_of_getElem? (i := 37) rfl))) (notFace_of_selects (args := #[]) (mvT hZ (hw _ (List.mem_of_getElem? (i := 39) rfl)))) (mvT hZ (hw _ (List.mem_of_getElem? (i := 39) rfl))) (mvT hZ (hw _ (List.mem_of_getElem? (i := 38) rfl))) (by decide) (backOf (W := 0) (rm5 l Z a0 hw [] x0 w0 h0 n0 Z0 B1) hZ (hw _ (List.mem_of_getElem? (i := 40) rfl)) (hw _ (List.mem_of_getElem? (i := 8) rfl)) (by decide) (by decide)) q2a q2c (g := (mkF m 1 #[.val (.ref x0)] [(.ref x0)])) rfl (by rw [hml]; rfl) (Steps.refl _) (argsL := []) (rest := []) (lenOf pd7_0 rfl) rfl (by show 2 * 0 + _ ≤ _; exact Nat.le_of_eq rfl) (hb hby d7_1) (fun _ _ => ⟨rfl, e0, (by decide : 0 + 0 ≤ _), (by decide : 0 + 0 ≤ _)⟩)
  dsimp only [Pt.U, Pt.locs, Pt.cells, Pt.slots] at X2 l2 y2 z2 st2 hQ2
  subst l2 y2 z2
  obtain ⟨rfl, Nq2, e2⟩ := hQ2
  have N2 := Fr.app N0 Nq2
  have pre2 : Steps p.tables e below (s₁.setTop (entryFrame m #[(.ref x0)] 1)) (T2.setTop (mkF m 4 #[.val (.ref x0)] [(.int (own_F5 x0 w0))])) := pre1.trans st2
  have hc4 : (own_F5 x0 w0) = (0 : Int32) := by
    exact (own_none _ _).1 hp0
  have st3 : Steps p.tables e below (T2.setTop (mkF m 4 #[.val (.ref x0)] [(.int (own_F5 x0 w0))])) (T2.setTop (mkF m 17 #[.val (.ref x0)] [])) := by
    refine XS.ifYes X2.here hx rfl (pc0 := 4) (pc' := 17) rfl (hb hby d7_4) rfl ((if0 _ _).trans (teq hc4).1) (by decide) (by decide) ?_
    exact Steps.refl _
  have pre3 := pre2.trans st3
  have st4 : Steps p.tables e below (T2.setTop (mkF m 17 #[.val (.ref x0)] [])) (T2.setTop (mkF m 18 #[.val (.ref x0)] [(.ref x0)])) := by
    refine XS.aloadN X2.here hx rfl (hb hby d7_17) rfl rfl ?_
    show Steps p.tables e below (T2.setTop (mkF m 18 #[.val (.ref x0)] [(.ref x0)])) _
    exact Steps.refl _
  have pre4 := pre3.trans st4
  obtain ⟨T5, X5, e5, st5⟩ := getF X2 hx hZ hown (host := "") (Or.inl (hw _ (List.mem_of_getElem? (i := 24) rfl))) Via.refl e2 B1 (g := (mkF m 18 #[.val (.ref x0)] [(.ref x0)])) rfl rfl (hb hby d7_18)
  have pre5 : Steps p.tables e below (s₁.setTop (entryFrame m #[(.ref x0)] 1)) (T5.setTop (mkF m 21 #[.val (.ref x0)] [(.int w0)])) := pre4.trans (st5 _ (Steps.refl _))
  obtain ⟨fs, hr, hrun, hended, hW, hsame⟩ := X5.leave (v := some (.int w0)) (fun h => by rw [Bd.returns] at h; cases h)
  refine ⟨_, _, pre5.trans ?_, hrun, hended, _, _, rfl, ?_, ⟨_, rfl⟩, hW, hsame.mono (by decide) (by decide)⟩
  · show Steps p.tables e below (T5.setTop (mkF m 21 #[.val (.ref x0)] [(.int w0)])) _
    exact retI X5 hx Bd.returns (hb hby d7_21) hr
  · show Q7 Z x0 w0 h0 n0 _ T5.heap _
    rw [e5]
    have hF : own_F7 x0 w0 = w0 := by
      simp only [own_F7]
    exact ⟨by rw [hF], N2, rfl⟩
theorem d8_0 : decode prog_5_method_6_code 0 = .ok (.aload_n 0, 1) := by decide +kernel
theorem d8_1 : decode prog_5_method_6_code 1 = .ok (.invokevirtual 45, 3) := by decide +kernel
theorem d8_4 : decode prog_5_method_6_code 4 = .ok (.ifCond .ne 15, 3) := by decide +kernel
theorem d8_7 : decode prog_5_method_6_code 7 = .ok (.aload_n 0, 1) := by decide +kernel
theorem d8_8 : decode prog_5_method_6_code 8 = .ok (.getfield 13, 3) := by decide +kernel
theorem d8_11 : decode prog_5_method_6_code 11 = .ok (.iload_n 1, 1) := by decide +kernel
theorem d8_12 : decode prog_5_method_6_code 12 = .ok (.if_icmp .ne 7, 3) := by decide +kernel
theorem d8_15 : decode prog_5_method_6_code 15 = .ok (.iconst 1, 1) := by decide +kernel
theorem d8_16 : decode prog_5_method_6_code 16 = .ok (.goto 4, 3) := by decide +kernel
theorem d8_19 : decode prog_5_method_6_code 19 = .ok (.iconst 0, 1) := by decide +kernel
theorem d8_20 : decode prog_5_method_6_code 20 = .ok (.ireturn, 1) := by decide +kernel
theorem pn8 : plainName "com/example/find_leader/findleader/election/Claim" = true := by first | (simp [plainName, overriddenIn]; done) | decide +kernel
theorem pd8_0 : parseMethodDescriptor "()Z" = some ⟨[], some .boolean⟩ := by decide +kernel
theorem ef8 (m : MethodId) (x0 : Addr) (x1 : Int32) : entryFrame m #[(.ref x0), (.int x1)] 2 = mkF m 0 #[.val (.ref x0), .val (.int x1)] [] := by first | (simp [entryFrame, mkF, argsToLocals, Value.category]; done) | rfl
def own_F8 (x0 : Addr) (x1 : Int32) (w0 : Int32) : Int32 := (if (own_F5 x0 w0) = (0 : Int32) then (if w0 = x1 then (1 : Int32) else (0 : Int32)) else (0 : Int32))
def Q8 (Z : State) (x0 : Addr) (x1 : Int32) (w0 : Int32) (h0 : Heap) (n0 : Nat) (v : Option Value) (h : Heap) (L : List Loc) : Prop := v = some (.int (own_F8 x0 x1 w0)) ∧ Fr n0 L ∧ h = h0
set_option maxRecDepth 65536 in
set_option maxHeartbeats 40000000 in
theorem rm8 (l : Launch) (Z : State) (a0 : Array Value) (hw : ∀ d ∈ tables_1, d.before a0 Z = true) (ws : List Jvm.Cond) (x0 : Addr) (x1 : Int32) (w0 : Int32) (h0 : Heap) (n0 : Nat) (Z0 : n0 ≤ h0.size) (B0 : Exa Z h0 x0 "com/example/find_leader/findleader/election/Claim") (B1 : Fld Z h0 x0 "com/example/find_leader/findleader/election/Claim" "id" "I" (.int w0)) :
    MetFree l (⟨"com/example/find_leader/findleader/election/Claim", "names", "(I)Z"⟩ : MethodName) (head1 (Jvm.Cond.code (⟨"com/example/find_leader/findleader/election/Claim", "names", "(I)Z"⟩ : MethodName) prog_5_method_6_code 2 (some .boolean) :: ws) ({ frames := 1, cells := 0, slots := 0, locals := 12 } : Room)) (fun a U => a = #[(.ref x0), (.int x1)] ∧ Z.Warmed39 U.vm ∧ U.heap = h0) (fun _ _ _ _ _ => True) (fun _ U o U' => ∃ v L, o = .returned v ∧ Q8 Z x0 x1 w0 h0 n0 v U'.heap L ∧ FrameEnd U o U' L ({ frames := 1, cells := 0, slots := 0, locals := 12 } : Room).cells ({ frames := 1, cells := 0, slots := 0, locals := 12 } : Room).slots) := by
  refine MetFree.of_bodySF (plainFor_of_name pn8) hisR ?_
  intro p e s m args below meth c s₁ Bd hml0 hP hK
  obtain ⟨rfl, hZ, hh⟩ := hP
  have hx := Bd.exec
  have hby := Bd.bytes
  have hml : c.maxLocals = 2 := hml0
  have hown : s.vm.findClass "com/example/find_leader/findleader/election/Claim" = some m.cls := findClass_of_methodNamed Bd.named
  have hnm := (name_of_methodNamed Bd.named Bd.method).1
  have X0 : Stand p l e ({ frames := 1, cells := 0, slots := 0, locals := 12 } : Room) s m #[(.ref x0), (.int x1)] below meth c s₁ [] 0 0 := Stand.of_body Bd
  have e0 : s₁.heap = h0 := by rw [← hh, Bd.state]; rfl
  have N0 := Fr.nil n0
  have pre0 : Steps p.tables e below (s₁.setTop (entryFrame m #[(.ref x0), (.int x1)] 2)) (s₁.setTop (mkF m 0 #[.val (.ref x0), .val (.int x1)] [])) := castTop (ef8 m x0 x1) (Steps.refl _)
  have st1 : Steps p.tables e below (s₁.setTop (mkF m 0 #[.val (.ref x0), .val (.int x1)] [])) (s₁.setTop (mkF m 1 #[.val (.ref x0), .val (.int x1)] [(.ref x0)])) := by
    refine XS.aloadN X0.here hx rfl (hb hby d8_0) rfl rfl ?_
    show Steps p.tables e below (s₁.setTop (mkF m 1 #[.val (.ref x0), .val (.int x1)] [(.ref x0)])) _
    exact Steps.refl _
  have pre1 := pre0.trans st1
  obtain ⟨cq2, kq2, q2a, q2b, q2c⟩ := isOf hZ e0 B0
  obtain ⟨_, _, ⟨T2, L2, k2, n2⟩, -, X2, ⟨Lc2, hQ2, l2, y2, z2⟩, st2⟩ := X0.virtualBack hx (y := (⟨"com/example/find_leader/findleader/election/Claim", "isNone", "()Z"⟩ : MethodName)) (z := (⟨"com/example/find_leader/findleader/election/Claim", "isNone", "()Z"⟩ : MethodName)) hown (mvT hZ (hw _ (List.mem_of_getElem? (i := 36) rfl))) (mvT hZ (hw _ (List.mem_of_getElem? (i := 37) rfl))) (notFace_of_selects (args := #[]) (mvT hZ (hw _ (List.mem_of_getElem? (i := 39) rfl)))) (mvT hZ (hw _ (List.mem_of_getElem? (i := 39) rfl))) (mvT hZ (hw _ (List.mem_of_getElem? (i := 38) rfl))) (by decide) (backOf (W := 0) (rm5 l Z a0 hw [] x0 w0 h0 n0 Z0 B1) hZ (hw _ (List.mem_of_getElem? (i := 40) rfl)) (hw _ (List.mem_of_getElem? (i := 8) rfl)) (by decide) (by decide)) q2a q2c (g := (mkF m 1 #[.val (.ref x0), .val (.int x1)] [(.ref x0)])) rfl (by rw [hml]; rfl) (Steps.refl _) (argsL := []) (rest := []) (lenOf pd8_0 rfl) rfl (by show 2 * 0 + _ ≤ _; exact Nat.le_of_eq rfl) (hb hby d8_1) (fun _ _ => ⟨rfl, e0, (by decide : 0 + 0 ≤ _), (by decide : 0 + 0 ≤ _)⟩)
  dsimp only [Pt.U, Pt.locs, Pt.cells, Pt.slots] at X2 l2 y2 z2 st2 hQ2
  subst l2 y2 z2
  obtain ⟨rfl, Nq2, e2⟩ := hQ2
  have N2 := Fr.app N0 Nq2
  have pre2 : Steps p.tables e below (s₁.setTop (entryFrame m #[(.ref x0), (.int x1)] 2)) (T2.setTop (mkF m 4 #[.val (.ref x0), .val (.int x1)] [(.int (own_F5 x0 w0))])) := pre1.trans st2
  by_cases hc4 : (own_F5 x0 w0) = (0 : Int32)
  · have st3 : Steps p.tables e below (T2.setTop (mkF m 4 #[.val (.ref x0), .val (.int x1)] [(.int (own_F5 x0 w0))])) (T2.setTop (mkF m 7 #[.val (.ref x0), .val (.int x1)] [])) := by
      refine XS.ifNo X2.here hx rfl (hb hby d8_4) rfl ((if0 _ _).trans (teq hc4).2) ?_
      exact Steps.refl _
    have pre3 := pre2.trans st3
    have st4 : Steps p.tables e below (T2.setTop (mkF m 7 #[.val (.ref x0), .val (.int x1)] [])) (T2.setTop (mkF m 8 #[.val (.ref x0), .val (.int x1)] [(.ref x0)])) := by
      refine XS.aloadN X2.here hx rfl (hb hby d8_7) rfl rfl ?_
      show Steps p.tables e below (T2.setTop (mkF m 8 #[.val (.ref x0), .val (.int x1)] [(.ref x0)])) _
      exact Steps.refl _
    have pre4 := pre3.trans st4
    obtain ⟨T5, X5, e5, st5⟩ := getF X2 hx hZ hown (host := "") (Or.inl (hw _ (List.mem_of_getElem? (i := 24) rfl))) Via.refl e2 B1 (g := (mkF m 8 #[.val (.ref x0), .val (.int x1)] [(.ref x0)])) rfl rfl (hb hby d8_8)
    have pre5 : Steps p.tables e below (s₁.setTop (entryFrame m #[(.ref x0), (.int x1)] 2)) (T5.setTop (mkF m 11 #[.val (.ref x0), .val (.int x1)] [(.int w0)])) := pre4.trans (st5 _ (Steps.refl _))
    obtain ⟨v6, hv6⟩ : ∃ z : Int32, z = (if w0 = x1 then (1 : Int32) else (0 : Int32)) := ⟨_, rfl⟩
    have st7 : Steps p.tables e below (T5.setTop (mkF m 11 #[.val (.ref x0), .val (.int x1)] [(.int w0)])) (T5.setTop (mkF m 20 #[.val (.ref x0), .val (.int x1)] [(.int v6)])) := by
      subst v6
      refine XS.iloadN X5.here hx rfl (hb hby d8_11) rfl ?_
      show Steps p.tables e below (T5.setTop (mkF m 12 #[.val (.ref x0), .val (.int x1)] [(.int x1), (.int w0)])) _
      refine Steps.trans (s₂ := T5.setTop (mkF m 20 #[.val (.ref x0), .val (.int x1)] [(.int (if w0 = x1 then (1 : Int32) else (0 : Int32)))])) ?_ ?_
      · by_cases hc12 : w0 = x1
        · refine XS.icmpNo X5.here hx rfl (hb hby d8_12) rfl (teq hc12).2 ?_
          show Steps p.tables e below (T5.setTop (mkF m 15 #[.val (.ref x0), .val (.int x1)] [])) _
          refine XS.iconst X5.here hx rfl (hb hby d8_15) ?_
          show Steps p.tables e below (T5.setTop (mkF m 16 #[.val (.ref x0), .val (.int x1)] [(.int (1 : Int32))])) _
          refine XS.goto X5.here hx rfl (pc0 := 16) (pc' := 20) rfl (hb hby d8_16) (by decide) (by decide) ?_
          show Steps p.tables e below (T5.setTop (mkF m 20 #[.val (.ref x0), .val (.int x1)] [(.int (1 : Int32))])) _
          try simp only [if_pos hc12]
          exact Steps.refl _
        · refine XS.icmpYes X5.here hx rfl (pc0 := 12) (pc' := 19) rfl (hb hby d8_12) rfl (feq hc12).2 (by decide) (by decide) ?_
          show Steps p.tables e below (T5.setTop (mkF m 19 #[.val (.ref x0), .val (.int x1)] [])) _
          refine XS.iconst X5.here hx rfl (hb hby d8_19) ?_
          show Steps p.tables e below (T5.setTop (mkF m 20 #[.val (.ref x0), .val (.int x1)] [(.int (0 : Int32))])) _
          try simp only [if_neg hc12]
          exact Steps.refl _
      show Steps p.tables e below (T5.setTop (mkF m 20 #[.val (.ref x0), .val (.int x1)] [(.int (if w0 = x1 then (1 : Int32) else (0 : Int32)))])) _
      exact Steps.refl _
    have pre7 := pre5.trans st7
    obtain ⟨fs, hr, hrun, hended, hW, hsame⟩ := X5.leave (v := some (.int (nar .boolean v6))) (fun h => by rw [Bd.returns] at h; cases h)
    refine ⟨_, _, pre7.trans ?_, hrun, hended, _, _, rfl, ?_, ⟨_, rfl⟩, hW, hsame.mono (by decide) (by decide)⟩
    · show Steps p.tables e below (T5.setTop (mkF m 20 #[.val (.ref x0), .val (.int x1)] [(.int v6)])) _
      exact retN X5 hx (t := .boolean) Bd.returns (by simp) (hb hby d8_20) hr
    · show Q8 Z x0 x1 w0 h0 n0 _ T5.heap _
      rw [e5]
      have hF : own_F8 x0 x1 w0 = v6 := by
        subst v6
        simp only [own_F8, if_pos hc4]
      have hN : nar .boolean v6 = v6 := by
        subst v6
        repeat' split
        all_goals rfl
      exact ⟨by rw [hF, hN], N2, rfl⟩
  · have st8 : Steps p.tables e below (T2.setTop (mkF m 4 #[.val (.ref x0), .val (.int x1)] [(.int (own_F5 x0 w0))])) (T2.setTop (mkF m 19 #[.val (.ref x0), .val (.int x1)] [])) := by
      refine XS.ifYes X2.here hx rfl (pc0 := 4) (pc' := 19) rfl (hb hby d8_4) rfl ((if0 _ _).trans (feq hc4).2) (by decide) (by decide) ?_
      exact Steps.refl _
    have pre8 := pre2.trans st8
    have st9 : Steps p.tables e below (T2.setTop (mkF m 19 #[.val (.ref x0), .val (.int x1)] [])) (T2.setTop (mkF m 20 #[.val (.ref x0), .val (.int x1)] [(.int (0 : Int32))])) := by
      refine XS.iconst X2.here hx rfl (hb hby d8_19) ?_
      show Steps p.tables e below (T2.setTop (mkF m 20 #[.val (.ref x0), .val (.int x1)] [(.int (0 : Int32))])) _
      exact Steps.refl _
    have pre9 := pre8.trans st9
    obtain ⟨fs, hr, hrun, hended, hW, hsame⟩ := X2.leave (v := some (.int (0 : Int32))) (fun h => by rw [Bd.returns] at h; cases h)
    refine ⟨_, _, pre9.trans ?_, hrun, hended, _, _, rfl, ?_, ⟨_, rfl⟩, hW, hsame.mono (by decide) (by decide)⟩
    · show Steps p.tables e below (T2.setTop (mkF m 20 #[.val (.ref x0), .val (.int x1)] [(.int (0 : Int32))])) _
      exact retN X2 hx (t := .boolean) Bd.returns (by simp) (hb hby d8_20) hr
    · show Q8 Z x0 x1 w0 h0 n0 _ T2.heap _
      rw [e2]
      have hF : own_F8 x0 x1 w0 = (0 : Int32) := by
        simp only [own_F8, if_neg hc4]
      exact ⟨by rw [hF], N2, rfl⟩
theorem d9_0 : decode jdk_35_method_42_code 0 = .ok (.lload_n 0, 1) := by decide +kernel
theorem d9_1 : decode jdk_35_method_42_code 1 = .ok (.lload_n 2, 1) := by decide +kernel
theorem d9_2 : decode jdk_35_method_42_code 2 = .ok (.lcmp, 1) := by decide +kernel
theorem d9_3 : decode jdk_35_method_42_code 3 = .ok (.ifCond .ge 7, 3) := by decide +kernel
theorem d9_6 : decode jdk_35_method_42_code 6 = .ok (.iconst (-1), 1) := by decide +kernel
theorem d9_7 : decode jdk_35_method_42_code 7 = .ok (.goto 14, 3) := by decide +kernel
theorem d9_10 : decode jdk_35_method_42_code 10 = .ok (.lload_n 0, 1) := by decide +kernel
theorem d9_11 : decode jdk_35_method_42_code 11 = .ok (.lload_n 2, 1) := by decide +kernel
theorem d9_12 : decode jdk_35_method_42_code 12 = .ok (.lcmp, 1) := by decide +kernel
theorem d9_13 : decode jdk_35_method_42_code 13 = .ok (.ifCond .ne 7, 3) := by decide +kernel
theorem d9_16 : decode jdk_35_method_42_code 16 = .ok (.iconst 0, 1) := by decide +kernel
theorem d9_17 : decode jdk_35_method_42_code 17 = .ok (.goto 4, 3) := by decide +kernel
theorem d9_20 : decode jdk_35_method_42_code 20 = .ok (.iconst 1, 1) := by decide +kernel
theorem d9_21 : decode jdk_35_method_42_code 21 = .ok (.ireturn, 1) := by decide +kernel
theorem pn9 : plainName "java/lang/Long" = true := by first | (simp [plainName, overriddenIn]; done) | decide +kernel
theorem ef9 (m : MethodId) (x0 : Int64) (x1 : Int64) : entryFrame m #[(.long x0), (.long x1)] 4 = mkF m 0 #[.val (.long x0), .second, .val (.long x1), .second] [] := by first | (simp [entryFrame, mkF, argsToLocals, Value.category]; done) | rfl
def own_F9 (x0 : Int64) (x1 : Int64) : Int32 := (if x0 < x1 then (-1 : Int32) else (if x0 = x1 then (0 : Int32) else (1 : Int32)))
def Q9 (Z : State) (x0 : Int64) (x1 : Int64) (h0 : Heap) (n0 : Nat) (v : Option Value) (h : Heap) (L : List Loc) : Prop := v = some (.int (own_F9 x0 x1)) ∧ Fr n0 L ∧ h = h0
set_option maxRecDepth 65536 in
set_option maxHeartbeats 40000000 in
theorem rm9 (l : Launch) (Z : State) (a0 : Array Value) (hw : ∀ d ∈ tables_1, d.before a0 Z = true) (ws : List Jvm.Cond) (x0 : Int64) (x1 : Int64) (h0 : Heap) (n0 : Nat) (Z0 : n0 ≤ h0.size) :
    MetFree l (⟨"java/lang/Long", "compare", "(JJ)I"⟩ : MethodName) (head1 (Jvm.Cond.code (⟨"java/lang/Long", "compare", "(JJ)I"⟩ : MethodName) jdk_35_method_42_code 4 (some .int) :: ws) ({ frames := 0, cells := 0, slots := 0, locals := 0 } : Room)) (fun a U => a = #[(.long x0), (.long x1)] ∧ Z.Warmed39 U.vm ∧ U.heap = h0) (fun _ _ _ _ _ => True) (fun _ U o U' => ∃ v L, o = .returned v ∧ Q9 Z x0 x1 h0 n0 v U'.heap L ∧ FrameEnd U o U' L ({ frames := 0, cells := 0, slots := 0, locals := 0 } : Room).cells ({ frames := 0, cells := 0, slots := 0, locals := 0 } : Room).slots) := by
  refine MetFree.of_bodySF (plainFor_of_name pn9) hisR ?_
  intro p e s m args below meth c s₁ Bd hml0 hP hK
  obtain ⟨rfl, hZ, hh⟩ := hP
  have hx := Bd.exec
  have hby := Bd.bytes
  have hml : c.maxLocals = 4 := hml0
  have hown : s.vm.findClass "java/lang/Long" = some m.cls := findClass_of_methodNamed Bd.named
  have hnm := (name_of_methodNamed Bd.named Bd.method).1
  have X0 : Stand p l e ({ frames := 0, cells := 0, slots := 0, locals := 0 } : Room) s m #[(.long x0), (.long x1)] below meth c s₁ [] 0 0 := Stand.of_body Bd
  have e0 : s₁.heap = h0 := by rw [← hh, Bd.state]; rfl
  have N0 := Fr.nil n0
  have pre0 : Steps p.tables e below (s₁.setTop (entryFrame m #[(.long x0), (.long x1)] 4)) (s₁.setTop (mkF m 0 #[.val (.long x0), .second, .val (.long x1), .second] [])) := castTop (ef9 m x0 x1) (Steps.refl _)
  obtain ⟨v1, hv1⟩ : ∃ z : Int32, z = (if x0 < x1 then (-1 : Int32) else (if x0 = x1 then (0 : Int32) else (1 : Int32))) := ⟨_, rfl⟩
  have st2 : Steps p.tables e below (s₁.setTop (mkF m 0 #[.val (.long x0), .second, .val (.long x1), .second] [])) (s₁.setTop (mkF m 21 #[.val (.long x0), .second, .val (.long x1), .second] [(.int v1)])) := by
    subst v1
    refine XS.lloadN X0.here hx rfl (hb hby d9_0) rfl ?_
    show Steps p.tables e below (s₁.setTop (mkF m 1 #[.val (.long x0), .second, .val (.long x1), .second] [(.long x0)])) _
    refine XS.lloadN X0.here hx rfl (hb hby d9_1) rfl ?_
    show Steps p.tables e below (s₁.setTop (mkF m 2 #[.val (.long x0), .second, .val (.long x1), .second] [(.long x1), (.long x0)])) _
    refine XS.lcmp X0.here hx rfl (hb hby d9_2) rfl ?_
    show Steps p.tables e below (s₁.setTop (mkF m 3 #[.val (.long x0), .second, .val (.long x1), .second] [(.int (lcmpW x0 x1))])) _
    refine Steps.trans (s₂ := s₁.setTop (mkF m 21 #[.val (.long x0), .second, .val (.long x1), .second] [(.int (if x0 < x1 then (-1 : Int32) else (if x0 = x1 then (0 : Int32) else (1 : Int32))))])) ?_ ?_
    · by_cases hc3 : x0 < x1
      · refine XS.ifNo X0.here hx rfl (hb hby d9_3) rfl ((if0 _ _).trans (tlt ((lw_lt x0 x1).mpr hc3)).2.1) ?_
        show Steps p.tables e below (s₁.setTop (mkF m 6 #[.val (.long x0), .second, .val (.long x1), .second] [])) _
        refine XS.iconst X0.here hx rfl (hb hby d9_6) ?_
        show Steps p.tables e below (s₁.setTop (mkF m 7 #[.val (.long x0), .second, .val (.long x1), .second] [(.int (-1 : Int32))])) _
        refine XS.goto X0.here hx rfl (pc0 := 7) (pc' := 21) rfl (hb hby d9_7) (by decide) (by decide) ?_
        show Steps p.tables e below (s₁.setTop (mkF m 21 #[.val (.long x0), .second, .val (.long x1), .second] [(.int (-1 : Int32))])) _
        try simp only [if_pos hc3]
        exact Steps.refl _
      · refine XS.ifYes X0.here hx rfl (pc0 := 3) (pc' := 10) rfl (hb hby d9_3) rfl ((if0 _ _).trans (flt (fun q => hc3 ((lw_lt x0 x1).mp q))).2.1) (by decide) (by decide) ?_
        show Steps p.tables e below (s₁.setTop (mkF m 10 #[.val (.long x0), .second, .val (.long x1), .second] [])) _
        refine XS.lloadN X0.here hx rfl (hb hby d9_10) rfl ?_
        show Steps p.tables e below (s₁.setTop (mkF m 11 #[.val (.long x0), .second, .val (.long x1), .second] [(.long x0)])) _
        refine XS.lloadN X0.here hx rfl (hb hby d9_11) rfl ?_
        show Steps p.tables e below (s₁.setTop (mkF m 12 #[.val (.long x0), .second, .val (.long x1), .second] [(.long x1), (.long x0)])) _
        refine XS.lcmp X0.here hx rfl (hb hby d9_12) rfl ?_
        show Steps p.tables e below (s₁.setTop (mkF m 13 #[.val (.long x0), .second, .val (.long x1), .second] [(.int (lcmpW x0 x1))])) _
        refine Steps.trans (s₂ := s₁.setTop (mkF m 21 #[.val (.long x0), .second, .val (.long x1), .second] [(.int (if x0 = x1 then (0 : Int32) else (1 : Int32)))])) ?_ ?_
        · by_cases hc13 : x0 = x1
          · refine XS.ifNo X0.here hx rfl (hb hby d9_13) rfl ((if0 _ _).trans (teq ((lw_eq x0 x1).mpr hc13)).2) ?_
            show Steps p.tables e below (s₁.setTop (mkF m 16 #[.val (.long x0), .second, .val (.long x1), .second] [])) _
            refine XS.iconst X0.here hx rfl (hb hby d9_16) ?_
            show Steps p.tables e below (s₁.setTop (mkF m 17 #[.val (.long x0), .second, .val (.long x1), .second] [(.int (0 : Int32))])) _
            refine XS.goto X0.here hx rfl (pc0 := 17) (pc' := 21) rfl (hb hby d9_17) (by decide) (by decide) ?_
            show Steps p.tables e below (s₁.setTop (mkF m 21 #[.val (.long x0), .second, .val (.long x1), .second] [(.int (0 : Int32))])) _
            try simp only [if_pos hc13]
            exact Steps.refl _
          · refine XS.ifYes X0.here hx rfl (pc0 := 13) (pc' := 20) rfl (hb hby d9_13) rfl ((if0 _ _).trans (feq (fun q => hc13 ((lw_eq x0 x1).mp q))).2) (by decide) (by decide) ?_
            show Steps p.tables e below (s₁.setTop (mkF m 20 #[.val (.long x0), .second, .val (.long x1), .second] [])) _
            refine XS.iconst X0.here hx rfl (hb hby d9_20) ?_
            show Steps p.tables e below (s₁.setTop (mkF m 21 #[.val (.long x0), .second, .val (.long x1), .second] [(.int (1 : Int32))])) _
            try simp only [if_neg hc13]
            exact Steps.refl _
        show Steps p.tables e below (s₁.setTop (mkF m 21 #[.val (.long x0), .second, .val (.long x1), .second] [(.int (if x0 = x1 then (0 : Int32) else (1 : Int32)))])) _
        try simp only [if_neg hc3]
        exact Steps.refl _
    show Steps p.tables e below (s₁.setTop (mkF m 21 #[.val (.long x0), .second, .val (.long x1), .second] [(.int (if x0 < x1 then (-1 : Int32) else (if x0 = x1 then (0 : Int32) else (1 : Int32))))])) _
    exact Steps.refl _
  have pre2 := pre0.trans st2
  obtain ⟨fs, hr, hrun, hended, hW, hsame⟩ := X0.leave (v := some (.int v1)) (fun h => by rw [Bd.returns] at h; cases h)
  refine ⟨_, _, pre2.trans ?_, hrun, hended, _, _, rfl, ?_, ⟨_, rfl⟩, hW, hsame.mono (by decide) (by decide)⟩
  · show Steps p.tables e below (s₁.setTop (mkF m 21 #[.val (.long x0), .second, .val (.long x1), .second] [(.int v1)])) _
    exact retI X0 hx Bd.returns (hb hby d9_21) hr
  · show Q9 Z x0 x1 h0 n0 _ s₁.heap _
    rw [e0]
    have hF : own_F9 x0 x1 = v1 := by
      subst v1
      simp only [own_F9]
    exact ⟨by rw [hF], N0, rfl⟩
theorem d10_0 : decode jdk_33_method_40_code 0 = .ok (.iload_n 0, 1) := by decide +kernel
theorem d10_1 : decode jdk_33_method_40_code 1 = .ok (.iload_n 1, 1) := by decide +kernel
theorem d10_2 : decode jdk_33_method_40_code 2 = .ok (.if_icmp .ge 7, 3) := by decide +kernel
theorem d10_5 : decode jdk_33_method_40_code 5 = .ok (.iconst (-1), 1) := by decide +kernel
theorem d10_6 : decode jdk_33_method_40_code 6 = .ok (.goto 13, 3) := by decide +kernel
theorem d10_9 : decode jdk_33_method_40_code 9 = .ok (.iload_n 0, 1) := by decide +kernel
theorem d10_10 : decode jdk_33_method_40_code 10 = .ok (.iload_n 1, 1) := by decide +kernel
theorem d10_11 : decode jdk_33_method_40_code 11 = .ok (.if_icmp .ne 7, 3) := by decide +kernel
theorem d10_14 : decode jdk_33_method_40_code 14 = .ok (.iconst 0, 1) := by decide +kernel
theorem d10_15 : decode jdk_33_method_40_code 15 = .ok (.goto 4, 3) := by decide +kernel
theorem d10_18 : decode jdk_33_method_40_code 18 = .ok (.iconst 1, 1) := by decide +kernel
theorem d10_19 : decode jdk_33_method_40_code 19 = .ok (.ireturn, 1) := by decide +kernel
theorem pn10 : plainName "java/lang/Integer" = true := by first | (simp [plainName, overriddenIn]; done) | decide +kernel
theorem ef10 (m : MethodId) (x0 : Int32) (x1 : Int32) : entryFrame m #[(.int x0), (.int x1)] 2 = mkF m 0 #[.val (.int x0), .val (.int x1)] [] := by first | (simp [entryFrame, mkF, argsToLocals, Value.category]; done) | rfl
def own_F10 (x0 : Int32) (x1 : Int32) : Int32 := (if x0 < x1 then (-1 : Int32) else (if x0 = x1 then (0 : Int32) else (1 : Int32)))
def Q10 (Z : State) (x0 : Int32) (x1 : Int32) (h0 : Heap) (n0 : Nat) (v : Option Value) (h : Heap) (L : List Loc) : Prop := v = some (.int (own_F10 x0 x1)) ∧ Fr n0 L ∧ h = h0
set_option maxRecDepth 65536 in
set_option maxHeartbeats 40000000 in
theorem rm10 (l : Launch) (Z : State) (a0 : Array Value) (hw : ∀ d ∈ tables_1, d.before a0 Z = true) (ws : List Jvm.Cond) (x0 : Int32) (x1 : Int32) (h0 : Heap) (n0 : Nat) (Z0 : n0 ≤ h0.size) :
    MetFree l (⟨"java/lang/Integer", "compare", "(II)I"⟩ : MethodName) (head1 (Jvm.Cond.code (⟨"java/lang/Integer", "compare", "(II)I"⟩ : MethodName) jdk_33_method_40_code 2 (some .int) :: ws) ({ frames := 0, cells := 0, slots := 0, locals := 0 } : Room)) (fun a U => a = #[(.int x0), (.int x1)] ∧ Z.Warmed39 U.vm ∧ U.heap = h0) (fun _ _ _ _ _ => True) (fun _ U o U' => ∃ v L, o = .returned v ∧ Q10 Z x0 x1 h0 n0 v U'.heap L ∧ FrameEnd U o U' L ({ frames := 0, cells := 0, slots := 0, locals := 0 } : Room).cells ({ frames := 0, cells := 0, slots := 0, locals := 0 } : Room).slots) := by
  refine MetFree.of_bodySF (plainFor_of_name pn10) hisR ?_
  intro p e s m args below meth c s₁ Bd hml0 hP hK
  obtain ⟨rfl, hZ, hh⟩ := hP
  have hx := Bd.exec
  have hby := Bd.bytes
  have hml : c.maxLocals = 2 := hml0
  have hown : s.vm.findClass "java/lang/Integer" = some m.cls := findClass_of_methodNamed Bd.named
  have hnm := (name_of_methodNamed Bd.named Bd.method).1
  have X0 : Stand p l e ({ frames := 0, cells := 0, slots := 0, locals := 0 } : Room) s m #[(.int x0), (.int x1)] below meth c s₁ [] 0 0 := Stand.of_body Bd
  have e0 : s₁.heap = h0 := by rw [← hh, Bd.state]; rfl
  have N0 := Fr.nil n0
  have pre0 : Steps p.tables e below (s₁.setTop (entryFrame m #[(.int x0), (.int x1)] 2)) (s₁.setTop (mkF m 0 #[.val (.int x0), .val (.int x1)] [])) := castTop (ef10 m x0 x1) (Steps.refl _)
  obtain ⟨v1, hv1⟩ : ∃ z : Int32, z = (if x0 < x1 then (-1 : Int32) else (if x0 = x1 then (0 : Int32) else (1 : Int32))) := ⟨_, rfl⟩
  have st2 : Steps p.tables e below (s₁.setTop (mkF m 0 #[.val (.int x0), .val (.int x1)] [])) (s₁.setTop (mkF m 19 #[.val (.int x0), .val (.int x1)] [(.int v1)])) := by
    subst v1
    refine XS.iloadN X0.here hx rfl (hb hby d10_0) rfl ?_
    show Steps p.tables e below (s₁.setTop (mkF m 1 #[.val (.int x0), .val (.int x1)] [(.int x0)])) _
    refine XS.iloadN X0.here hx rfl (hb hby d10_1) rfl ?_
    show Steps p.tables e below (s₁.setTop (mkF m 2 #[.val (.int x0), .val (.int x1)] [(.int x1), (.int x0)])) _
    refine Steps.trans (s₂ := s₁.setTop (mkF m 19 #[.val (.int x0), .val (.int x1)] [(.int (if x0 < x1 then (-1 : Int32) else (if x0 = x1 then (0 : Int32) else (1 : Int32))))])) ?_ ?_
    · by_cases hc2 : x0 < x1
      · refine XS.icmpNo X0.here hx rfl (hb hby d10_2) rfl (tlt hc2).2.1 ?_
        show Steps p.tables e below (s₁.setTop (mkF m 5 #[.val (.int x0), .val (.int x1)] [])) _
        refine XS.iconst X0.here hx rfl (hb hby d10_5) ?_
        show Steps p.tables e below (s₁.setTop (mkF m 6 #[.val (.int x0), .val (.int x1)] [(.int (-1 : Int32))])) _
        refine XS.goto X0.here hx rfl (pc0 := 6) (pc' := 19) rfl (hb hby d10_6) (by decide) (by decide) ?_
        show Steps p.tables e below (s₁.setTop (mkF m 19 #[.val (.int x0), .val (.int x1)] [(.int (-1 : Int32))])) _
        try simp only [if_pos hc2]
        exact Steps.refl _
      · refine XS.icmpYes X0.here hx rfl (pc0 := 2) (pc' := 9) rfl (hb hby d10_2) rfl (flt hc2).2.1 (by decide) (by decide) ?_
        show Steps p.tables e below (s₁.setTop (mkF m 9 #[.val (.int x0), .val (.int x1)] [])) _
        refine XS.iloadN X0.here hx rfl (hb hby d10_9) rfl ?_
        show Steps p.tables e below (s₁.setTop (mkF m 10 #[.val (.int x0), .val (.int x1)] [(.int x0)])) _
        refine XS.iloadN X0.here hx rfl (hb hby d10_10) rfl ?_
        show Steps p.tables e below (s₁.setTop (mkF m 11 #[.val (.int x0), .val (.int x1)] [(.int x1), (.int x0)])) _
        refine Steps.trans (s₂ := s₁.setTop (mkF m 19 #[.val (.int x0), .val (.int x1)] [(.int (if x0 = x1 then (0 : Int32) else (1 : Int32)))])) ?_ ?_
        · by_cases hc11 : x0 = x1
          · refine XS.icmpNo X0.here hx rfl (hb hby d10_11) rfl (teq hc11).2 ?_
            show Steps p.tables e below (s₁.setTop (mkF m 14 #[.val (.int x0), .val (.int x1)] [])) _
            refine XS.iconst X0.here hx rfl (hb hby d10_14) ?_
            show Steps p.tables e below (s₁.setTop (mkF m 15 #[.val (.int x0), .val (.int x1)] [(.int (0 : Int32))])) _
            refine XS.goto X0.here hx rfl (pc0 := 15) (pc' := 19) rfl (hb hby d10_15) (by decide) (by decide) ?_
            show Steps p.tables e below (s₁.setTop (mkF m 19 #[.val (.int x0), .val (.int x1)] [(.int (0 : Int32))])) _
            try simp only [if_pos hc11]
            exact Steps.refl _
          · refine XS.icmpYes X0.here hx rfl (pc0 := 11) (pc' := 18) rfl (hb hby d10_11) rfl (feq hc11).2 (by decide) (by decide) ?_
            show Steps p.tables e below (s₁.setTop (mkF m 18 #[.val (.int x0), .val (.int x1)] [])) _
            refine XS.iconst X0.here hx rfl (hb hby d10_18) ?_
            show Steps p.tables e below (s₁.setTop (mkF m 19 #[.val (.int x0), .val (.int x1)] [(.int (1 : Int32))])) _
            try simp only [if_neg hc11]
            exact Steps.refl _
        show Steps p.tables e below (s₁.setTop (mkF m 19 #[.val (.int x0), .val (.int x1)] [(.int (if x0 = x1 then (0 : Int32) else (1 : Int32)))])) _
        try simp only [if_neg hc2]
        exact Steps.refl _
    show Steps p.tables e below (s₁.setTop (mkF m 19 #[.val (.int x0), .val (.int x1)] [(.int (if x0 < x1 then (-1 : Int32) else (if x0 = x1 then (0 : Int32) else (1 : Int32))))])) _
    exact Steps.refl _
  have pre2 := pre0.trans st2
  obtain ⟨fs, hr, hrun, hended, hW, hsame⟩ := X0.leave (v := some (.int v1)) (fun h => by rw [Bd.returns] at h; cases h)
  refine ⟨_, _, pre2.trans ?_, hrun, hended, _, _, rfl, ?_, ⟨_, rfl⟩, hW, hsame.mono (by decide) (by decide)⟩
  · show Steps p.tables e below (s₁.setTop (mkF m 19 #[.val (.int x0), .val (.int x1)] [(.int v1)])) _
    exact retI X0 hx Bd.returns (hb hby d10_19) hr
  · show Q10 Z x0 x1 h0 n0 _ s₁.heap _
    rw [e0]
    have hF : own_F10 x0 x1 = v1 := by
      subst v1
      simp only [own_F10]
    exact ⟨by rw [hF], N0, rfl⟩
theorem d11_0 : decode prog_5_method_8_code 0 = .ok (.aload_n 0, 1) := by decide +kernel
theorem d11_1 : decode prog_5_method_8_code 1 = .ok (.getfield 7, 3) := by decide +kernel
theorem d11_4 : decode prog_5_method_8_code 4 = .ok (.aload_n 1, 1) := by decide +kernel
theorem d11_5 : decode prog_5_method_8_code 5 = .ok (.getfield 7, 3) := by decide +kernel
theorem d11_8 : decode prog_5_method_8_code 8 = .ok (.invokestatic 54, 3) := by decide +kernel
theorem d11_11 : decode prog_5_method_8_code 11 = .ok (.istore_n 2, 1) := by decide +kernel
theorem d11_12 : decode prog_5_method_8_code 12 = .ok (.iload_n 2, 1) := by decide +kernel
theorem d11_13 : decode prog_5_method_8_code 13 = .ok (.ifCond .ne 15, 3) := by decide +kernel
theorem d11_16 : decode prog_5_method_8_code 16 = .ok (.aload_n 0, 1) := by decide +kernel
theorem d11_17 : decode prog_5_method_8_code 17 = .ok (.getfield 13, 3) := by decide +kernel
theorem d11_20 : decode prog_5_method_8_code 20 = .ok (.aload_n 1, 1) := by decide +kernel
theorem d11_21 : decode prog_5_method_8_code 21 = .ok (.getfield 13, 3) := by decide +kernel
theorem d11_24 : decode prog_5_method_8_code 24 = .ok (.invokestatic 60, 3) := by decide +kernel
theorem d11_27 : decode prog_5_method_8_code 27 = .ok (.istore_n 2, 1) := by decide +kernel
theorem d11_28 : decode prog_5_method_8_code 28 = .ok (.iload_n 2, 1) := by decide +kernel
theorem d11_29 : decode prog_5_method_8_code 29 = .ok (.ireturn, 1) := by decide +kernel
theorem pn11 : plainName "com/example/find_leader/findleader/election/Claim" = true := by first | (simp [plainName, overriddenIn]; done) | decide +kernel
theorem pd11_0 : parseMethodDescriptor "(JJ)I" = some ⟨[.long, .long], some .int⟩ := by decide +kernel
theorem pd11_1 : parseMethodDescriptor "(II)I" = some ⟨[.int, .int], some .int⟩ := by decide +kernel
theorem ef11 (m : MethodId) (x0 : Addr) (x1 : Addr) : entryFrame m #[(.ref x0), (.ref x1)] 3 = mkF m 0 #[.val (.ref x0), .val (.ref x1), .unset] [] := by first | (simp [entryFrame, mkF, argsToLocals, Value.category]; done) | rfl
def own_F11 (x0 : Addr) (x1 : Addr) (w0 : Int64) (w1 : Int64) (w2 : Int32) (w3 : Int32) : Int32 := (if (own_F9 w0 w1) = (0 : Int32) then (own_F10 w2 w3) else (own_F9 w0 w1))
def Q11 (Z : State) (x0 : Addr) (x1 : Addr) (w0 : Int64) (w1 : Int64) (w2 : Int32) (w3 : Int32) (h0 : Heap) (n0 : Nat) (v : Option Value) (h : Heap) (L : List Loc) : Prop := v = some (.int (own_F11 x0 x1 w0 w1 w2 w3)) ∧ Fr n0 L ∧ h = h0
set_option maxRecDepth 65536 in
set_option maxHeartbeats 40000000 in
theorem rm11 (l : Launch) (Z : State) (a0 : Array Value) (hw : ∀ d ∈ tables_1, d.before a0 Z = true) (ws : List Jvm.Cond) (x0 : Addr) (x1 : Addr) (w0 : Int64) (w1 : Int64) (w2 : Int32) (w3 : Int32) (h0 : Heap) (n0 : Nat) (Z0 : n0 ≤ h0.size) (B0 : Fld Z h0 x0 "com/example/find_leader/findleader/election/Claim" "term" "J" (.long w0)) (B1 : Fld Z h0 x1 "com/example/find_leader/findleader/election/Claim" "term" "J" (.long w1)) (B2 : Fld Z h0 x0 "com/example/find_leader/findleader/election/Claim" "id" "I" (.int w2)) (B3 : Fld Z h0 x1 "com/example/find_leader/findleader/election/Claim" "id" "I" (.int w3)) :
    MetFree l (⟨"com/example/find_leader/findleader/election/Claim", "compareTo", "(Lcom/example/find_leader/findleader/election/Claim;)I"⟩ : MethodName) (head1 (Jvm.Cond.code (⟨"com/example/find_leader/findleader/election/Claim", "compareTo", "(Lcom/example/find_leader/findleader/election/Claim;)I"⟩ : MethodName) prog_5_method_8_code 3 (some .int) :: ws) ({ frames := 1, cells := 0, slots := 0, locals := 15 } : Room)) (fun a U => a = #[(.ref x0), (.ref x1)] ∧ Z.Warmed39 U.vm ∧ U.heap = h0) (fun _ _ _ _ _ => True) (fun _ U o U' => ∃ v L, o = .returned v ∧ Q11 Z x0 x1 w0 w1 w2 w3 h0 n0 v U'.heap L ∧ FrameEnd U o U' L ({ frames := 1, cells := 0, slots := 0, locals := 15 } : Room).cells ({ frames := 1, cells := 0, slots := 0, locals := 15 } : Room).slots) := by
  refine MetFree.of_bodySF (plainFor_of_name pn11) hisR ?_
  intro p e s m args below meth c s₁ Bd hml0 hP hK
  obtain ⟨rfl, hZ, hh⟩ := hP
  have hx := Bd.exec
  have hby := Bd.bytes
  have hml : c.maxLocals = 3 := hml0
  have hown : s.vm.findClass "com/example/find_leader/findleader/election/Claim" = some m.cls := findClass_of_methodNamed Bd.named
  have hnm := (name_of_methodNamed Bd.named Bd.method).1
  have X0 : Stand p l e ({ frames := 1, cells := 0, slots := 0, locals := 15 } : Room) s m #[(.ref x0), (.ref x1)] below meth c s₁ [] 0 0 := Stand.of_body Bd
  have e0 : s₁.heap = h0 := by rw [← hh, Bd.state]; rfl
  have N0 := Fr.nil n0
  have pre0 : Steps p.tables e below (s₁.setTop (entryFrame m #[(.ref x0), (.ref x1)] 3)) (s₁.setTop (mkF m 0 #[.val (.ref x0), .val (.ref x1), .unset] [])) := castTop (ef11 m x0 x1) (Steps.refl _)
  have st1 : Steps p.tables e below (s₁.setTop (mkF m 0 #[.val (.ref x0), .val (.ref x1), .unset] [])) (s₁.setTop (mkF m 1 #[.val (.ref x0), .val (.ref x1), .unset] [(.ref x0)])) := by
    refine XS.aloadN X0.here hx rfl (hb hby d11_0) rfl rfl ?_
    show Steps p.tables e below (s₁.setTop (mkF m 1 #[.val (.ref x0), .val (.ref x1), .unset] [(.ref x0)])) _
    exact Steps.refl _
  have pre1 := pre0.trans st1
  obtain ⟨T2, X2, e2, st2⟩ := getF X0 hx hZ hown (host := "") (Or.inl (hw _ (List.mem_of_getElem? (i := 22) rfl))) Via.refl e0 B0 (g := (mkF m 1 #[.val (.ref x0), .val (.ref x1), .unset] [(.ref x0)])) rfl rfl (hb hby d11_1)
  have pre2 : Steps p.tables e below (s₁.setTop (entryFrame m #[(.ref x0), (.ref x1)] 3)) (T2.setTop (mkF m 4 #[.val (.ref x0), .val (.ref x1), .unset] [(.long w0)])) := pre1.trans (st2 _ (Steps.refl _))
  have st3 : Steps p.tables e below (T2.setTop (mkF m 4 #[.val (.ref x0), .val (.ref x1), .unset] [(.long w0)])) (T2.setTop (mkF m 5 #[.val (.ref x0), .val (.ref x1), .unset] [(.ref x1), (.long w0)])) := by
    refine XS.aloadN X2.here hx rfl (hb hby d11_4) rfl rfl ?_
    show Steps p.tables e below (T2.setTop (mkF m 5 #[.val (.ref x0), .val (.ref x1), .unset] [(.ref x1), (.long w0)])) _
    exact Steps.refl _
  have pre3 := pre2.trans st3
  obtain ⟨T4, X4, e4, st4⟩ := getF X2 hx hZ hown (host := "") (Or.inl (hw _ (List.mem_of_getElem? (i := 22) rfl))) Via.refl e2 B1 (g := (mkF m 5 #[.val (.ref x0), .val (.ref x1), .unset] [(.ref x1), (.long w0)])) rfl rfl (hb hby d11_5)
  have pre4 : Steps p.tables e below (s₁.setTop (entryFrame m #[(.ref x0), (.ref x1)] 3)) (T4.setTop (mkF m 8 #[.val (.ref x0), .val (.ref x1), .unset] [(.long w1), (.long w0)])) := pre3.trans (st4 _ (Steps.refl _))
  obtain ⟨_, _, ⟨T5, L5, k5, n5⟩, -, X5, ⟨Lc5, hQ5, l5, y5, z5⟩, st5⟩ := Jvm.LawKit.callS X4 hx (y := (⟨"java/lang/Long", "compare", "(JJ)I"⟩ : MethodName)) hown (mvT hZ (hw _ (List.mem_of_getElem? (i := 52) rfl))) (mvT hZ (hw _ (List.mem_of_getElem? (i := 53) rfl))) (mvT hZ (hw _ (List.mem_of_getElem? (i := 54) rfl))) (mvT hZ (hw _ (List.mem_of_getElem? (i := 55) rfl))) (by decide) (backOf (W := 0) (rm9 l Z a0 hw [] w0 w1 h0 n0 Z0) hZ (hw _ (List.mem_of_getElem? (i := 55) rfl)) (hw _ (List.mem_of_getElem? (i := 54) rfl)) (by decide) (by decide)) (g := (mkF m 8 #[.val (.ref x0), .val (.ref x1), .unset] [(.long w1), (.long w0)])) rfl (by rw [hml]; rfl) (argsL := [(.long w0), (.long w1)]) (rest := []) (lenOf pd11_0 rfl) rfl (by show 2 * 0 + _ ≤ _; exact Nat.le_of_eq rfl) (hb hby d11_8) (fun _ _ => ⟨rfl, e4, (by decide : 0 + 0 ≤ _), (by decide : 0 + 0 ≤ _)⟩)
  dsimp only [Pt.U, Pt.locs, Pt.cells, Pt.slots] at X5 l5 y5 z5 st5 hQ5
  subst l5 y5 z5
  obtain ⟨rfl, Nq5, e5⟩ := hQ5
  have N5 := Fr.app N0 Nq5
  have pre5 : Steps p.tables e below (s₁.setTop (entryFrame m #[(.ref x0), (.ref x1)] 3)) (T5.setTop (mkF m 11 #[.val (.ref x0), .val (.ref x1), .unset] [(.int (own_F9 w0 w1))])) := pre4.trans (st5 _ (Steps.refl _))
  obtain ⟨v6, hv6⟩ : ∃ z : Int32, z = (own_F9 w0 w1) := ⟨_, rfl⟩
  have st7 : Steps p.tables e below (T5.setTop (mkF m 11 #[.val (.ref x0), .val (.ref x1), .unset] [(.int (own_F9 w0 w1))])) (T5.setTop (mkF m 13 #[.val (.ref x0), .val (.ref x1), .val (.int v6)] [(.int v6)])) := by
    subst v6
    refine XS.istoreN X5.here hx rfl (hb hby d11_11) rfl (l' := #[.val (.ref x0), .val (.ref x1), .val (.int (own_F9 w0 w1))]) rfl ?_
    show Steps p.tables e below (T5.setTop (mkF m 12 #[.val (.ref x0), .val (.ref x1), .val (.int (own_F9 w0 w1))] [])) _
    refine XS.iloadN X5.here hx rfl (hb hby d11_12) rfl ?_
    show Steps p.tables e below (T5.setTop (mkF m 13 #[.val (.ref x0), .val (.ref x1), .val (.int (own_F9 w0 w1))] [(.int (own_F9 w0 w1))])) _
    exact Steps.refl _
  have pre7 := pre5.trans st7
  by_cases hc13 : v6 = (0 : Int32)
  · have st8 : Steps p.tables e below (T5.setTop (mkF m 13 #[.val (.ref x0), .val (.ref x1), .val (.int v6)] [(.int v6)])) (T5.setTop (mkF m 16 #[.val (.ref x0), .val (.ref x1), .val (.int v6)] [])) := by
      refine XS.ifNo X5.here hx rfl (hb hby d11_13) rfl ((if0 _ _).trans (teq hc13).2) ?_
      exact Steps.refl _
    have pre8 := pre7.trans st8
    have st9 : Steps p.tables e below (T5.setTop (mkF m 16 #[.val (.ref x0), .val (.ref x1), .val (.int v6)] [])) (T5.setTop (mkF m 17 #[.val (.ref x0), .val (.ref x1), .val (.int v6)] [(.ref x0)])) := by
      refine XS.aloadN X5.here hx rfl (hb hby d11_16) rfl rfl ?_
      show Steps p.tables e below (T5.setTop (mkF m 17 #[.val (.ref x0), .val (.ref x1), .val (.int v6)] [(.ref x0)])) _
      exact Steps.refl _
    have pre9 := pre8.trans st9
    obtain ⟨T10, X10, e10, st10⟩ := getF X5 hx hZ hown (host := "") (Or.inl (hw _ (List.mem_of_getElem? (i := 24) rfl))) Via.refl e5 B2 (g := (mkF m 17 #[.val (.ref x0), .val (.ref x1), .val (.int v6)] [(.ref x0)])) rfl rfl (hb hby d11_17)
    have pre10 : Steps p.tables e below (s₁.setTop (entryFrame m #[(.ref x0), (.ref x1)] 3)) (T10.setTop (mkF m 20 #[.val (.ref x0), .val (.ref x1), .val (.int v6)] [(.int w2)])) := pre9.trans (st10 _ (Steps.refl _))
    have st11 : Steps p.tables e below (T10.setTop (mkF m 20 #[.val (.ref x0), .val (.ref x1), .val (.int v6)] [(.int w2)])) (T10.setTop (mkF m 21 #[.val (.ref x0), .val (.ref x1), .val (.int v6)] [(.ref x1), (.int w2)])) := by
      refine XS.aloadN X10.here hx rfl (hb hby d11_20) rfl rfl ?_
      show Steps p.tables e below (T10.setTop (mkF m 21 #[.val (.ref x0), .val (.ref x1), .val (.int v6)] [(.ref x1), (.int w2)])) _
      exact Steps.refl _
    have pre11 := pre10.trans st11
    obtain ⟨T12, X12, e12, st12⟩ := getF X10 hx hZ hown (host := "") (Or.inl (hw _ (List.mem_of_getElem? (i := 24) rfl))) Via.refl e10 B3 (g := (mkF m 21 #[.val (.ref x0), .val (.ref x1), .val (.int v6)] [(.ref x1), (.int w2)])) rfl rfl (hb hby d11_21)
    have pre12 : Steps p.tables e below (s₁.setTop (entryFrame m #[(.ref x0), (.ref x1)] 3)) (T12.setTop (mkF m 24 #[.val (.ref x0), .val (.ref x1), .val (.int v6)] [(.int w3), (.int w2)])) := pre11.trans (st12 _ (Steps.refl _))
    obtain ⟨_, _, ⟨T13, L13, k13, n13⟩, -, X13, ⟨Lc13, hQ13, l13, y13, z13⟩, st13⟩ := Jvm.LawKit.callS X12 hx (y := (⟨"java/lang/Integer", "compare", "(II)I"⟩ : MethodName)) hown (mvT hZ (hw _ (List.mem_of_getElem? (i := 68) rfl))) (mvT hZ (hw _ (List.mem_of_getElem? (i := 69) rfl))) (mvT hZ (hw _ (List.mem_of_getElem? (i := 70) rfl))) (mvT hZ (hw _ (List.mem_of_getElem? (i := 71) rfl))) (by decide) (backOf (W := 0) (rm10 l Z a0 hw [] w2 w3 h0 n0 Z0) hZ (hw _ (List.mem_of_getElem? (i := 71) rfl)) (hw _ (List.mem_of_getElem? (i := 70) rfl)) (by decide) (by decide)) (g := (mkF m 24 #[.val (.ref x0), .val (.ref x1), .val (.int v6)] [(.int w3), (.int w2)])) rfl (by rw [hml]; rfl) (argsL := [(.int w2), (.int w3)]) (rest := []) (lenOf pd11_1 rfl) rfl (by show 2 * 0 + _ ≤ _; exact Nat.le_of_eq rfl) (hb hby d11_24) (fun _ _ => ⟨rfl, e12, (by decide : 0 + 0 ≤ _), (by decide : 0 + 0 ≤ _)⟩)
    dsimp only [Pt.U, Pt.locs, Pt.cells, Pt.slots] at X13 l13 y13 z13 st13 hQ13
    subst l13 y13 z13
    obtain ⟨rfl, Nq13, e13⟩ := hQ13
    have N13 := Fr.app N5 Nq13
    have pre13 : Steps p.tables e below (s₁.setTop (entryFrame m #[(.ref x0), (.ref x1)] 3)) (T13.setTop (mkF m 27 #[.val (.ref x0), .val (.ref x1), .val (.int v6)] [(.int (own_F10 w2 w3))])) := pre12.trans (st13 _ (Steps.refl _))
    obtain ⟨v14, hv14⟩ : ∃ z : Int32, z = (own_F10 w2 w3) := ⟨_, rfl⟩
    have st15 : Steps p.tables e below (T13.setTop (mkF m 27 #[.val (.ref x0), .val (.ref x1), .val (.int v6)] [(.int (own_F10 w2 w3))])) (T13.setTop (mkF m 29 #[.val (.ref x0), .val (.ref x1), .val (.int v14)] [(.int v14)])) := by
      subst v14
      refine XS.istoreN X13.here hx rfl (hb hby d11_27) rfl (l' := #[.val (.ref x0), .val (.ref x1), .val (.int (own_F10 w2 w3))]) rfl ?_
      show Steps p.tables e below (T13.setTop (mkF m 28 #[.val (.ref x0), .val (.ref x1), .val (.int (own_F10 w2 w3))] [])) _
      refine XS.iloadN X13.here hx rfl (hb hby d11_28) rfl ?_
      show Steps p.tables e below (T13.setTop (mkF m 29 #[.val (.ref x0), .val (.ref x1), .val (.int (own_F10 w2 w3))] [(.int (own_F10 w2 w3))])) _
      exact Steps.refl _
    have pre15 := pre13.trans st15
    obtain ⟨fs, hr, hrun, hended, hW, hsame⟩ := X13.leave (v := some (.int v14)) (fun h => by rw [Bd.returns] at h; cases h)
    refine ⟨_, _, pre15.trans ?_, hrun, hended, _, _, rfl, ?_, ⟨_, rfl⟩, hW, hsame.mono (by decide) (by decide)⟩
    · show Steps p.tables e below (T13.setTop (mkF m 29 #[.val (.ref x0), .val (.ref x1), .val (.int v14)] [(.int v14)])) _
      exact retI X13 hx Bd.returns (hb hby d11_29) hr
    · show Q11 Z x0 x1 w0 w1 w2 w3 h0 n0 _ T13.heap _
      rw [e13]
      have hF : own_F11 x0 x1 w0 w1 w2 w3 = v14 := by
        subst v14 v6
        simp only [own_F11, if_pos hc13]
      exact ⟨by rw [hF], N13, rfl⟩
  · have st16 : Steps p.tables e below (T5.setTop (mkF m 13 #[.val (.ref x0), .val (.ref x1), .val (.int v6)] [(.int v6)])) (T5.setTop (mkF m 28 #[.val (.ref x0), .val (.ref x1), .val (.int v6)] [])) := by
      refine XS.ifYes X5.here hx rfl (pc0 := 13) (pc' := 28) rfl (hb hby d11_13) rfl ((if0 _ _).trans (feq hc13).2) (by decide) (by decide) ?_
      exact Steps.refl _
    have pre16 := pre7.trans st16
    have st17 : Steps p.tables e below (T5.setTop (mkF m 28 #[.val (.ref x0), .val (.ref x1), .val (.int v6)] [])) (T5.setTop (mkF m 29 #[.val (.ref x0), .val (.ref x1), .val (.int v6)] [(.int v6)])) := by
      refine XS.iloadN X5.here hx rfl (hb hby d11_28) rfl ?_
      show Steps p.tables e below (T5.setTop (mkF m 29 #[.val (.ref x0), .val (.ref x1), .val (.int v6)] [(.int v6)])) _
      exact Steps.refl _
    have pre17 := pre16.trans st17
    obtain ⟨fs, hr, hrun, hended, hW, hsame⟩ := X5.leave (v := some (.int v6)) (fun h => by rw [Bd.returns] at h; cases h)
    refine ⟨_, _, pre17.trans ?_, hrun, hended, _, _, rfl, ?_, ⟨_, rfl⟩, hW, hsame.mono (by decide) (by decide)⟩
    · show Steps p.tables e below (T5.setTop (mkF m 29 #[.val (.ref x0), .val (.ref x1), .val (.int v6)] [(.int v6)])) _
      exact retI X5 hx Bd.returns (hb hby d11_29) hr
    · show Q11 Z x0 x1 w0 w1 w2 w3 h0 n0 _ T5.heap _
      rw [e5]
      have hF : own_F11 x0 x1 w0 w1 w2 w3 = v6 := by
        subst v6
        simp only [own_F11, if_neg hc13]
      exact ⟨by rw [hF], N5, rfl⟩
theorem d12_0 : decode prog_5_method_8_code 0 = .ok (.aload_n 0, 1) := by decide +kernel
theorem d12_1 : decode prog_5_method_8_code 1 = .ok (.getfield 7, 3) := by decide +kernel
theorem d12_4 : decode prog_5_method_8_code 4 = .ok (.aload_n 1, 1) := by decide +kernel
theorem d12_5 : decode prog_5_method_8_code 5 = .ok (.getfield 7, 3) := by decide +kernel
theorem d12_8 : decode prog_5_method_8_code 8 = .ok (.invokestatic 54, 3) := by decide +kernel
theorem d12_11 : decode prog_5_method_8_code 11 = .ok (.istore_n 2, 1) := by decide +kernel
theorem d12_12 : decode prog_5_method_8_code 12 = .ok (.iload_n 2, 1) := by decide +kernel
theorem d12_13 : decode prog_5_method_8_code 13 = .ok (.ifCond .ne 15, 3) := by decide +kernel
theorem d12_28 : decode prog_5_method_8_code 28 = .ok (.iload_n 2, 1) := by decide +kernel
theorem d12_29 : decode prog_5_method_8_code 29 = .ok (.ireturn, 1) := by decide +kernel
theorem pn12 : plainName "com/example/find_leader/findleader/election/Claim" = true := by first | (simp [plainName, overriddenIn]; done) | decide +kernel
theorem pd12_0 : parseMethodDescriptor "(JJ)I" = some ⟨[.long, .long], some .int⟩ := by decide +kernel
theorem ef12 (m : MethodId) (x0 : Addr) (x1 : Addr) : entryFrame m #[(.ref x0), (.ref x1)] 3 = mkF m 0 #[.val (.ref x0), .val (.ref x1), .unset] [] := by first | (simp [entryFrame, mkF, argsToLocals, Value.category]; done) | rfl
def own_F12 (x0 : Addr) (x1 : Addr) (w0 : Int64) (w1 : Int64) : Int32 := (own_F9 w0 w1)
def Q12 (Z : State) (x0 : Addr) (x1 : Addr) (w0 : Int64) (w1 : Int64) (h0 : Heap) (n0 : Nat) (v : Option Value) (h : Heap) (L : List Loc) : Prop := v = some (.int (own_F12 x0 x1 w0 w1)) ∧ Fr n0 L ∧ h = h0
set_option maxRecDepth 65536 in
set_option maxHeartbeats 40000000 in
theorem rm12 (l : Launch) (Z : State) (a0 : Array Value) (hw : ∀ d ∈ tables_1, d.before a0 Z = true) (ws : List Jvm.Cond) (x0 : Addr) (x1 : Addr) (w0 : Int64) (w1 : Int64) (h0 : Heap) (n0 : Nat) (Z0 : n0 ≤ h0.size) (B0 : Fld Z h0 x0 "com/example/find_leader/findleader/election/Claim" "term" "J" (.long w0)) (B1 : Fld Z h0 x1 "com/example/find_leader/findleader/election/Claim" "term" "J" (.long w1)) (hp0 : ¬ (own_F9 w0 w1 = (0 : Int32))) :
    MetFree l (⟨"com/example/find_leader/findleader/election/Claim", "compareTo", "(Lcom/example/find_leader/findleader/election/Claim;)I"⟩ : MethodName) (head1 (Jvm.Cond.code (⟨"com/example/find_leader/findleader/election/Claim", "compareTo", "(Lcom/example/find_leader/findleader/election/Claim;)I"⟩ : MethodName) prog_5_method_8_code 3 (some .int) :: ws) ({ frames := 1, cells := 0, slots := 0, locals := 15 } : Room)) (fun a U => a = #[(.ref x0), (.ref x1)] ∧ Z.Warmed39 U.vm ∧ U.heap = h0) (fun _ _ _ _ _ => True) (fun _ U o U' => ∃ v L, o = .returned v ∧ Q12 Z x0 x1 w0 w1 h0 n0 v U'.heap L ∧ FrameEnd U o U' L ({ frames := 1, cells := 0, slots := 0, locals := 15 } : Room).cells ({ frames := 1, cells := 0, slots := 0, locals := 15 } : Room).slots) := by
  refine MetFree.of_bodySF (plainFor_of_name pn12) hisR ?_
  intro p e s m args below meth c s₁ Bd hml0 hP hK
  obtain ⟨rfl, hZ, hh⟩ := hP
  have hx := Bd.exec
  have hby := Bd.bytes
  have hml : c.maxLocals = 3 := hml0
  have hown : s.vm.findClass "com/example/find_leader/findleader/election/Claim" = some m.cls := findClass_of_methodNamed Bd.named
  have hnm := (name_of_methodNamed Bd.named Bd.method).1
  have X0 : Stand p l e ({ frames := 1, cells := 0, slots := 0, locals := 15 } : Room) s m #[(.ref x0), (.ref x1)] below meth c s₁ [] 0 0 := Stand.of_body Bd
  have e0 : s₁.heap = h0 := by rw [← hh, Bd.state]; rfl
  have N0 := Fr.nil n0
  have pre0 : Steps p.tables e below (s₁.setTop (entryFrame m #[(.ref x0), (.ref x1)] 3)) (s₁.setTop (mkF m 0 #[.val (.ref x0), .val (.ref x1), .unset] [])) := castTop (ef12 m x0 x1) (Steps.refl _)
  have st1 : Steps p.tables e below (s₁.setTop (mkF m 0 #[.val (.ref x0), .val (.ref x1), .unset] [])) (s₁.setTop (mkF m 1 #[.val (.ref x0), .val (.ref x1), .unset] [(.ref x0)])) := by
    refine XS.aloadN X0.here hx rfl (hb hby d12_0) rfl rfl ?_
    show Steps p.tables e below (s₁.setTop (mkF m 1 #[.val (.ref x0), .val (.ref x1), .unset] [(.ref x0)])) _
    exact Steps.refl _
  have pre1 := pre0.trans st1
  obtain ⟨T2, X2, e2, st2⟩ := getF X0 hx hZ hown (host := "") (Or.inl (hw _ (List.mem_of_getElem? (i := 22) rfl))) Via.refl e0 B0 (g := (mkF m 1 #[.val (.ref x0), .val (.ref x1), .unset] [(.ref x0)])) rfl rfl (hb hby d12_1)
  have pre2 : Steps p.tables e below (s₁.setTop (entryFrame m #[(.ref x0), (.ref x1)] 3)) (T2.setTop (mkF m 4 #[.val (.ref x0), .val (.ref x1), .unset] [(.long w0)])) := pre1.trans (st2 _ (Steps.refl _))
  have st3 : Steps p.tables e below (T2.setTop (mkF m 4 #[.val (.ref x0), .val (.ref x1), .unset] [(.long w0)])) (T2.setTop (mkF m 5 #[.val (.ref x0), .val (.ref x1), .unset] [(.ref x1), (.long w0)])) := by
    refine XS.aloadN X2.here hx rfl (hb hby d12_4) rfl rfl ?_
    show Steps p.tables e below (T2.setTop (mkF m 5 #[.val (.ref x0), .val (.ref x1), .unset] [(.ref x1), (.long w0)])) _
    exact Steps.refl _
  have pre3 := pre2.trans st3
  obtain ⟨T4, X4, e4, st4⟩ := getF X2 hx hZ hown (host := "") (Or.inl (hw _ (List.mem_of_getElem? (i := 22) rfl))) Via.refl e2 B1 (g := (mkF m 5 #[.val (.ref x0), .val (.ref x1), .unset] [(.ref x1), (.long w0)])) rfl rfl (hb hby d12_5)
  have pre4 : Steps p.tables e below (s₁.setTop (entryFrame m #[(.ref x0), (.ref x1)] 3)) (T4.setTop (mkF m 8 #[.val (.ref x0), .val (.ref x1), .unset] [(.long w1), (.long w0)])) := pre3.trans (st4 _ (Steps.refl _))
  obtain ⟨_, _, ⟨T5, L5, k5, n5⟩, -, X5, ⟨Lc5, hQ5, l5, y5, z5⟩, st5⟩ := Jvm.LawKit.callS X4 hx (y := (⟨"java/lang/Long", "compare", "(JJ)I"⟩ : MethodName)) hown (mvT hZ (hw _ (List.mem_of_getElem? (i := 52) rfl))) (mvT hZ (hw _ (List.mem_of_getElem? (i := 53) rfl))) (mvT hZ (hw _ (List.mem_of_getElem? (i := 54) rfl))) (mvT hZ (hw _ (List.mem_of_getElem? (i := 55) rfl))) (by decide) (backOf (W := 0) (rm9 l Z a0 hw [] w0 w1 h0 n0 Z0) hZ (hw _ (List.mem_of_getElem? (i := 55) rfl)) (hw _ (List.mem_of_getElem? (i := 54) rfl)) (by decide) (by decide)) (g := (mkF m 8 #[.val (.ref x0), .val (.ref x1), .unset] [(.long w1), (.long w0)])) rfl (by rw [hml]; rfl) (argsL := [(.long w0), (.long w1)]) (rest := []) (lenOf pd12_0 rfl) rfl (by show 2 * 0 + _ ≤ _; exact Nat.le_of_eq rfl) (hb hby d12_8) (fun _ _ => ⟨rfl, e4, (by decide : 0 + 0 ≤ _), (by decide : 0 + 0 ≤ _)⟩)
  dsimp only [Pt.U, Pt.locs, Pt.cells, Pt.slots] at X5 l5 y5 z5 st5 hQ5
  subst l5 y5 z5
  obtain ⟨rfl, Nq5, e5⟩ := hQ5
  have N5 := Fr.app N0 Nq5
  have pre5 : Steps p.tables e below (s₁.setTop (entryFrame m #[(.ref x0), (.ref x1)] 3)) (T5.setTop (mkF m 11 #[.val (.ref x0), .val (.ref x1), .unset] [(.int (own_F9 w0 w1))])) := pre4.trans (st5 _ (Steps.refl _))
  obtain ⟨v6, hv6⟩ : ∃ z : Int32, z = (own_F9 w0 w1) := ⟨_, rfl⟩
  have st7 : Steps p.tables e below (T5.setTop (mkF m 11 #[.val (.ref x0), .val (.ref x1), .unset] [(.int (own_F9 w0 w1))])) (T5.setTop (mkF m 13 #[.val (.ref x0), .val (.ref x1), .val (.int v6)] [(.int v6)])) := by
    subst v6
    refine XS.istoreN X5.here hx rfl (hb hby d12_11) rfl (l' := #[.val (.ref x0), .val (.ref x1), .val (.int (own_F9 w0 w1))]) rfl ?_
    show Steps p.tables e below (T5.setTop (mkF m 12 #[.val (.ref x0), .val (.ref x1), .val (.int (own_F9 w0 w1))] [])) _
    refine XS.iloadN X5.here hx rfl (hb hby d12_12) rfl ?_
    show Steps p.tables e below (T5.setTop (mkF m 13 #[.val (.ref x0), .val (.ref x1), .val (.int (own_F9 w0 w1))] [(.int (own_F9 w0 w1))])) _
    exact Steps.refl _
  have pre7 := pre5.trans st7
  have hc13 : ¬ (v6 = (0 : Int32)) := by
    rw [hv6]
    exact hp0
  have st8 : Steps p.tables e below (T5.setTop (mkF m 13 #[.val (.ref x0), .val (.ref x1), .val (.int v6)] [(.int v6)])) (T5.setTop (mkF m 28 #[.val (.ref x0), .val (.ref x1), .val (.int v6)] [])) := by
    refine XS.ifYes X5.here hx rfl (pc0 := 13) (pc' := 28) rfl (hb hby d12_13) rfl ((if0 _ _).trans (feq hc13).2) (by decide) (by decide) ?_
    exact Steps.refl _
  have pre8 := pre7.trans st8
  have st9 : Steps p.tables e below (T5.setTop (mkF m 28 #[.val (.ref x0), .val (.ref x1), .val (.int v6)] [])) (T5.setTop (mkF m 29 #[.val (.ref x0), .val (.ref x1), .val (.int v6)] [(.int v6)])) := by
    refine XS.iloadN X5.here hx rfl (hb hby d12_28) rfl ?_
    show Steps p.tables e below (T5.setTop (mkF m 29 #[.val (.ref x0), .val (.ref x1), .val (.int v6)] [(.int v6)])) _
    exact Steps.refl _
  have pre9 := pre8.trans st9
  obtain ⟨fs, hr, hrun, hended, hW, hsame⟩ := X5.leave (v := some (.int v6)) (fun h => by rw [Bd.returns] at h; cases h)
  refine ⟨_, _, pre9.trans ?_, hrun, hended, _, _, rfl, ?_, ⟨_, rfl⟩, hW, hsame.mono (by decide) (by decide)⟩
  · show Steps p.tables e below (T5.setTop (mkF m 29 #[.val (.ref x0), .val (.ref x1), .val (.int v6)] [(.int v6)])) _
    exact retI X5 hx Bd.returns (hb hby d12_29) hr
  · show Q12 Z x0 x1 w0 w1 h0 n0 _ T5.heap _
    rw [e5]
    have hF : own_F12 x0 x1 w0 w1 = v6 := by
      subst v6
      simp only [own_F12]
    exact ⟨by rw [hF], N5, rfl⟩
theorem d13_0 : decode method_2_code 0 = .ok (.iload_n 0, 1) := by decide +kernel
theorem d13_1 : decode method_2_code 1 = .ok (.ifCond .ge 5, 3) := by decide +kernel
theorem d13_4 : decode method_2_code 4 = .ok (.iconst (-1), 1) := by decide +kernel
theorem d13_5 : decode method_2_code 5 = .ok (.ireturn, 1) := by decide +kernel
theorem d13_6 : decode method_2_code 6 = .ok (.iload_n 0, 1) := by decide +kernel
theorem d13_7 : decode method_2_code 7 = .ok (.ifCond .le 5, 3) := by decide +kernel
theorem d13_10 : decode method_2_code 10 = .ok (.iconst 1, 1) := by decide +kernel
theorem d13_11 : decode method_2_code 11 = .ok (.ireturn, 1) := by decide +kernel
theorem d13_12 : decode method_2_code 12 = .ok (.iconst 0, 1) := by decide +kernel
theorem d13_13 : decode method_2_code 13 = .ok (.ireturn, 1) := by decide +kernel
theorem pn13 : plainName "com/example/find_leader/findleader/election/ClaimOfPinLaw" = true := by first | (simp [plainName, overriddenIn]; done) | decide +kernel
theorem ef13 (m : MethodId) (x0 : Int32) : entryFrame m #[(.int x0)] 1 = mkF m 0 #[.val (.int x0)] [] := by first | (simp [entryFrame, mkF, argsToLocals, Value.category]; done) | rfl
def own_F13 (x0 : Int32) : Int32 := (if x0 < (0 : Int32) then (-1 : Int32) else (if (0 : Int32) < x0 then (1 : Int32) else (0 : Int32)))
def Q13 (Z : State) (x0 : Int32) (h0 : Heap) (n0 : Nat) (v : Option Value) (h : Heap) (L : List Loc) : Prop := v = some (.int (own_F13 x0)) ∧ Fr n0 L ∧ h = h0
set_option maxRecDepth 65536 in
set_option maxHeartbeats 40000000 in
theorem rm13 (l : Launch) (Z : State) (a0 : Array Value) (hw : ∀ d ∈ tables_1, d.before a0 Z = true) (ws : List Jvm.Cond) (x0 : Int32) (h0 : Heap) (n0 : Nat) (Z0 : n0 ≤ h0.size) :
    MetFree l (⟨"com/example/find_leader/findleader/election/ClaimOfPinLaw", "sign", "(I)I"⟩ : MethodName) (head1 (Jvm.Cond.code (⟨"com/example/find_leader/findleader/election/ClaimOfPinLaw", "sign", "(I)I"⟩ : MethodName) method_2_code 1 (some .int) :: ws) ({ frames := 0, cells := 0, slots := 0, locals := 0 } : Room)) (fun a U => a = #[(.int x0)] ∧ Z.Warmed39 U.vm ∧ U.heap = h0) (fun _ _ _ _ _ => True) (fun _ U o U' => ∃ v L, o = .returned v ∧ Q13 Z x0 h0 n0 v U'.heap L ∧ FrameEnd U o U' L ({ frames := 0, cells := 0, slots := 0, locals := 0 } : Room).cells ({ frames := 0, cells := 0, slots := 0, locals := 0 } : Room).slots) := by
  refine MetFree.of_bodySF (plainFor_of_name pn13) hisR ?_
  intro p e s m args below meth c s₁ Bd hml0 hP hK
  obtain ⟨rfl, hZ, hh⟩ := hP
  have hx := Bd.exec
  have hby := Bd.bytes
  have hml : c.maxLocals = 1 := hml0
  have hown : s.vm.findClass "com/example/find_leader/findleader/election/ClaimOfPinLaw" = some m.cls := findClass_of_methodNamed Bd.named
  have hnm := (name_of_methodNamed Bd.named Bd.method).1
  have X0 : Stand p l e ({ frames := 0, cells := 0, slots := 0, locals := 0 } : Room) s m #[(.int x0)] below meth c s₁ [] 0 0 := Stand.of_body Bd
  have e0 : s₁.heap = h0 := by rw [← hh, Bd.state]; rfl
  have N0 := Fr.nil n0
  have pre0 : Steps p.tables e below (s₁.setTop (entryFrame m #[(.int x0)] 1)) (s₁.setTop (mkF m 0 #[.val (.int x0)] [])) := castTop (ef13 m x0) (Steps.refl _)
  have st1 : Steps p.tables e below (s₁.setTop (mkF m 0 #[.val (.int x0)] [])) (s₁.setTop (mkF m 1 #[.val (.int x0)] [(.int x0)])) := by
    refine XS.iloadN X0.here hx rfl (hb hby d13_0) rfl ?_
    show Steps p.tables e below (s₁.setTop (mkF m 1 #[.val (.int x0)] [(.int x0)])) _
    exact Steps.refl _
  have pre1 := pre0.trans st1
  by_cases hc1 : x0 < (0 : Int32)
  · have st2 : Steps p.tables e below (s₁.setTop (mkF m 1 #[.val (.int x0)] [(.int x0)])) (s₁.setTop (mkF m 4 #[.val (.int x0)] [])) := by
      refine XS.ifNo X0.here hx rfl (hb hby d13_1) rfl ((if0 _ _).trans (tlt hc1).2.1) ?_
      exact Steps.refl _
    have pre2 := pre1.trans st2
    have st3 : Steps p.tables e below (s₁.setTop (mkF m 4 #[.val (.int x0)] [])) (s₁.setTop (mkF m 5 #[.val (.int x0)] [(.int (-1 : Int32))])) := by
      refine XS.iconst X0.here hx rfl (hb hby d13_4) ?_
      show Steps p.tables e below (s₁.setTop (mkF m 5 #[.val (.int x0)] [(.int (-1 : Int32))])) _
      exact Steps.refl _
    have pre3 := pre2.trans st3
    obtain ⟨fs, hr, hrun, hended, hW, hsame⟩ := X0.leave (v := some (.int (-1 : Int32))) (fun h => by rw [Bd.returns] at h; cases h)
    refine ⟨_, _, pre3.trans ?_, hrun, hended, _, _, rfl, ?_, ⟨_, rfl⟩, hW, hsame.mono (by decide) (by decide)⟩
    · show Steps p.tables e below (s₁.setTop (mkF m 5 #[.val (.int x0)] [(.int (-1 : Int32))])) _
      exact retI X0 hx Bd.returns (hb hby d13_5) hr
    · show Q13 Z x0 h0 n0 _ s₁.heap _
      rw [e0]
      have hF : own_F13 x0 = (-1 : Int32) := by
        simp only [own_F13, if_pos hc1]
      exact ⟨by rw [hF], N0, rfl⟩
  · have st4 : Steps p.tables e below (s₁.setTop (mkF m 1 #[.val (.int x0)] [(.int x0)])) (s₁.setTop (mkF m 6 #[.val (.int x0)] [])) := by
      refine XS.ifYes X0.here hx rfl (pc0 := 1) (pc' := 6) rfl (hb hby d13_1) rfl ((if0 _ _).trans (flt hc1).2.1) (by decide) (by decide) ?_
      exact Steps.refl _
    have pre4 := pre1.trans st4
    have st5 : Steps p.tables e below (s₁.setTop (mkF m 6 #[.val (.int x0)] [])) (s₁.setTop (mkF m 7 #[.val (.int x0)] [(.int x0)])) := by
      refine XS.iloadN X0.here hx rfl (hb hby d13_6) rfl ?_
      show Steps p.tables e below (s₁.setTop (mkF m 7 #[.val (.int x0)] [(.int x0)])) _
      exact Steps.refl _
    have pre5 := pre4.trans st5
    by_cases hc7 : (0 : Int32) < x0
    · have st6 : Steps p.tables e below (s₁.setTop (mkF m 7 #[.val (.int x0)] [(.int x0)])) (s₁.setTop (mkF m 10 #[.val (.int x0)] [])) := by
        refine XS.ifNo X0.here hx rfl (hb hby d13_7) rfl ((if0 _ _).trans (tlt hc7).2.2.2) ?_
        exact Steps.refl _
      have pre6 := pre5.trans st6
      have st7 : Steps p.tables e below (s₁.setTop (mkF m 10 #[.val (.int x0)] [])) (s₁.setTop (mkF m 11 #[.val (.int x0)] [(.int (1 : Int32))])) := by
        refine XS.iconst X0.here hx rfl (hb hby d13_10) ?_
        show Steps p.tables e below (s₁.setTop (mkF m 11 #[.val (.int x0)] [(.int (1 : Int32))])) _
        exact Steps.refl _
      have pre7 := pre6.trans st7
      obtain ⟨fs, hr, hrun, hended, hW, hsame⟩ := X0.leave (v := some (.int (1 : Int32))) (fun h => by rw [Bd.returns] at h; cases h)
      refine ⟨_, _, pre7.trans ?_, hrun, hended, _, _, rfl, ?_, ⟨_, rfl⟩, hW, hsame.mono (by decide) (by decide)⟩
      · show Steps p.tables e below (s₁.setTop (mkF m 11 #[.val (.int x0)] [(.int (1 : Int32))])) _
        exact retI X0 hx Bd.returns (hb hby d13_11) hr
      · show Q13 Z x0 h0 n0 _ s₁.heap _
        rw [e0]
        have hF : own_F13 x0 = (1 : Int32) := by
          simp only [own_F13, if_neg hc1, if_pos hc7]
        exact ⟨by rw [hF], N0, rfl⟩
    · have st8 : Steps p.tables e below (s₁.setTop (mkF m 7 #[.val (.int x0)] [(.int x0)])) (s₁.setTop (mkF m 12 #[.val (.int x0)] [])) := by
        refine XS.ifYes X0.here hx rfl (pc0 := 7) (pc' := 12) rfl (hb hby d13_7) rfl ((if0 _ _).trans (flt hc7).2.2.2) (by decide) (by decide) ?_
        exact Steps.refl _
      have pre8 := pre5.trans st8
      have st9 : Steps p.tables e below (s₁.setTop (mkF m 12 #[.val (.int x0)] [])) (s₁.setTop (mkF m 13 #[.val (.int x0)] [(.int (0 : Int32))])) := by
        refine XS.iconst X0.here hx rfl (hb hby d13_12) ?_
        show Steps p.tables e below (s₁.setTop (mkF m 13 #[.val (.int x0)] [(.int (0 : Int32))])) _
        exact Steps.refl _
      have pre9 := pre8.trans st9
      obtain ⟨fs, hr, hrun, hended, hW, hsame⟩ := X0.leave (v := some (.int (0 : Int32))) (fun h => by rw [Bd.returns] at h; cases h)
      refine ⟨_, _, pre9.trans ?_, hrun, hended, _, _, rfl, ?_, ⟨_, rfl⟩, hW, hsame.mono (by decide) (by decide)⟩
      · show Steps p.tables e below (s₁.setTop (mkF m 13 #[.val (.int x0)] [(.int (0 : Int32))])) _
        exact retI X0 hx Bd.returns (hb hby d13_13) hr
      · show Q13 Z x0 h0 n0 _ s₁.heap _
        rw [e0]
        have hF : own_F13 x0 = (0 : Int32) := by
          simp only [own_F13, if_neg hc1, if_neg hc7]
        exact ⟨by rw [hF], N0, rfl⟩
theorem d14_0 : decode prog_5_method_9_code 0 = .ok (.aload_n 1, 1) := by decide +kernel
theorem d14_1 : decode prog_5_method_9_code 1 = .ok (.instanceof 8, 3) := by decide +kernel
theorem d14_4 : decode prog_5_method_9_code 4 = .ok (.ifCond .eq 35, 3) := by decide +kernel
theorem d14_7 : decode prog_5_method_9_code 7 = .ok (.aload_n 1, 1) := by decide +kernel
theorem d14_8 : decode prog_5_method_9_code 8 = .ok (.checkcast 8, 3) := by decide +kernel
theorem d14_11 : decode prog_5_method_9_code 11 = .ok (.astore_n 2, 1) := by decide +kernel
theorem d14_12 : decode prog_5_method_9_code 12 = .ok (.aload_n 0, 1) := by decide +kernel
theorem d14_13 : decode prog_5_method_9_code 13 = .ok (.getfield 7, 3) := by decide +kernel
theorem d14_16 : decode prog_5_method_9_code 16 = .ok (.aload_n 2, 1) := by decide +kernel
theorem d14_17 : decode prog_5_method_9_code 17 = .ok (.getfield 7, 3) := by decide +kernel
theorem d14_20 : decode prog_5_method_9_code 20 = .ok (.lcmp, 1) := by decide +kernel
theorem d14_21 : decode prog_5_method_9_code 21 = .ok (.ifCond .ne 18, 3) := by decide +kernel
theorem d14_24 : decode prog_5_method_9_code 24 = .ok (.aload_n 0, 1) := by decide +kernel
theorem d14_25 : decode prog_5_method_9_code 25 = .ok (.getfield 13, 3) := by decide +kernel
theorem d14_28 : decode prog_5_method_9_code 28 = .ok (.aload_n 2, 1) := by decide +kernel
theorem d14_29 : decode prog_5_method_9_code 29 = .ok (.getfield 13, 3) := by decide +kernel
theorem d14_32 : decode prog_5_method_9_code 32 = .ok (.if_icmp .ne 7, 3) := by decide +kernel
theorem d14_35 : decode prog_5_method_9_code 35 = .ok (.iconst 1, 1) := by decide +kernel
theorem d14_36 : decode prog_5_method_9_code 36 = .ok (.goto 4, 3) := by decide +kernel
theorem d14_39 : decode prog_5_method_9_code 39 = .ok (.iconst 0, 1) := by decide +kernel
theorem d14_40 : decode prog_5_method_9_code 40 = .ok (.ireturn, 1) := by decide +kernel
theorem pn14 : plainName "com/example/find_leader/findleader/election/Claim" = true := by first | (simp [plainName, overriddenIn]; done) | decide +kernel
theorem ef14 (m : MethodId) (x0 : Addr) (x1 : Addr) : entryFrame m #[(.ref x0), (.ref x1)] 3 = mkF m 0 #[.val (.ref x0), .val (.ref x1), .unset] [] := by first | (simp [entryFrame, mkF, argsToLocals, Value.category]; done) | rfl
def own_F14 (x0 : Addr) (x1 : Addr) (w0 : Int64) (w1 : Int64) (w2 : Int32) (w3 : Int32) : Int32 := (if w0 = w1 then (if w2 = w3 then (1 : Int32) else (0 : Int32)) else (0 : Int32))
def Q14 (Z : State) (x0 : Addr) (x1 : Addr) (w0 : Int64) (w1 : Int64) (w2 : Int32) (w3 : Int32) (h0 : Heap) (n0 : Nat) (v : Option Value) (h : Heap) (L : List Loc) : Prop := v = some (.int (own_F14 x0 x1 w0 w1 w2 w3)) ∧ Fr n0 L ∧ h = h0
set_option maxRecDepth 65536 in
set_option maxHeartbeats 40000000 in
theorem rm14 (l : Launch) (Z : State) (a0 : Array Value) (hw : ∀ d ∈ tables_1, d.before a0 Z = true) (ws : List Jvm.Cond) (x0 : Addr) (x1 : Addr) (w0 : Int64) (w1 : Int64) (w2 : Int32) (w3 : Int32) (h0 : Heap) (n0 : Nat) (Z0 : n0 ≤ h0.size) (B0 : Exa Z h0 x1 "com/example/find_leader/findleader/election/Claim") (B1 : Fld Z h0 x0 "com/example/find_leader/findleader/election/Claim" "term" "J" (.long w0)) (B2 : Fld Z h0 x1 "com/example/find_leader/findleader/election/Claim" "term" "J" (.long w1)) (B3 : Fld Z h0 x0 "com/example/find_leader/findleader/election/Claim" "id" "I" (.int w2)) (B4 : Fld Z h0 x1 "com/example/find_leader/findleader/election/Claim" "id" "I" (.int w3)) :
    MetFree l (⟨"com/example/find_leader/findleader/election/Claim", "equals", "(Ljava/lang/Object;)Z"⟩ : MethodName) (head1 (Jvm.Cond.code (⟨"com/example/find_leader/findleader/election/Claim", "equals", "(Ljava/lang/Object;)Z"⟩ : MethodName) prog_5_method_9_code 3 (some .boolean) :: ws) ({ frames := 0, cells := 0, slots := 0, locals := 0 } : Room)) (fun a U => a = #[(.ref x0), (.ref x1)] ∧ Z.Warmed39 U.vm ∧ U.heap = h0) (fun _ _ _ _ _ => True) (fun _ U o U' => ∃ v L, o = .returned v ∧ Q14 Z x0 x1 w0 w1 w2 w3 h0 n0 v U'.heap L ∧ FrameEnd U o U' L ({ frames := 0, cells := 0, slots := 0, locals := 0 } : Room).cells ({ frames := 0, cells := 0, slots := 0, locals := 0 } : Room).slots) := by
  refine MetFree.of_bodySF (plainFor_of_name pn14) hisR ?_
  intro p e s m args below meth c s₁ Bd hml0 hP hK
  obtain ⟨rfl, hZ, hh⟩ := hP
  have hx := Bd.exec
  have hby := Bd.bytes
  have hml : c.maxLocals = 3 := hml0
  have hown : s.vm.findClass "com/example/find_leader/findleader/election/Claim" = some m.cls := findClass_of_methodNamed Bd.named
  have hnm := (name_of_methodNamed Bd.named Bd.method).1
  have X0 : Stand p l e ({ frames := 0, cells := 0, slots := 0, locals := 0 } : Room) s m #[(.ref x0), (.ref x1)] below meth c s₁ [] 0 0 := Stand.of_body Bd
  have e0 : s₁.heap = h0 := by rw [← hh, Bd.state]; rfl
  have N0 := Fr.nil n0
  have pre0 : Steps p.tables e below (s₁.setTop (entryFrame m #[(.ref x0), (.ref x1)] 3)) (s₁.setTop (mkF m 0 #[.val (.ref x0), .val (.ref x1), .unset] [])) := castTop (ef14 m x0 x1) (Steps.refl _)
  have st1 : Steps p.tables e below (s₁.setTop (mkF m 0 #[.val (.ref x0), .val (.ref x1), .unset] [])) (s₁.setTop (mkF m 1 #[.val (.ref x0), .val (.ref x1), .unset] [(.ref x1)])) := by
    refine XS.aloadN X0.here hx rfl (hb hby d14_0) rfl rfl ?_
    show Steps p.tables e below (s₁.setTop (mkF m 1 #[.val (.ref x0), .val (.ref x1), .unset] [(.ref x1)])) _
    exact Steps.refl _
  have pre1 := pre0.trans st1
  obtain ⟨T2, X2, e2, st2⟩ := instY X0 hx hZ hown (hw _ (List.mem_of_getElem? (i := 10) rfl)) e0 (Ins.self B0) (g := (mkF m 1 #[.val (.ref x0), .val (.ref x1), .unset] [(.ref x1)])) rfl rfl (hb hby d14_1)
  have pre2 : Steps p.tables e below (s₁.setTop (entryFrame m #[(.ref x0), (.ref x1)] 3)) (T2.setTop (mkF m 4 #[.val (.ref x0), .val (.ref x1), .unset] [(.int (1 : Int32))])) := pre1.trans (st2 _ (Steps.refl _))
  have st3 : Steps p.tables e below (T2.setTop (mkF m 4 #[.val (.ref x0), .val (.ref x1), .unset] [(.int (1 : Int32))])) (T2.setTop (mkF m 8 #[.val (.ref x0), .val (.ref x1), .unset] [(.ref x1)])) := by
    refine XS.ifNo X2.here hx rfl (hb hby d14_4) rfl ((if0 _ _).trans (feq (by decide : ¬ ((1 : Int32) = (0 : Int32)))).1) ?_
    show Steps p.tables e below (T2.setTop (mkF m 7 #[.val (.ref x0), .val (.ref x1), .unset] [])) _
    refine XS.aloadN X2.here hx rfl (hb hby d14_7) rfl rfl ?_
    show Steps p.tables e below (T2.setTop (mkF m 8 #[.val (.ref x0), .val (.ref x1), .unset] [(.ref x1)])) _
    exact Steps.refl _
  have pre3 := pre2.trans st3
  obtain ⟨T4, X4, e4, st4⟩ := castY X2 hx hZ hown (hw _ (List.mem_of_getElem? (i := 10) rfl)) e2 (Ins.self B0) (g := (mkF m 8 #[.val (.ref x0), .val (.ref x1), .unset] [(.ref x1)])) rfl rfl (hb hby d14_8)
  have pre4 : Steps p.tables e below (s₁.setTop (entryFrame m #[(.ref x0), (.ref x1)] 3)) (T4.setTop (mkF m 11 #[.val (.ref x0), .val (.ref x1), .unset] [(.ref x1)])) := pre3.trans (st4 _ (Steps.refl _))
  have st5 : Steps p.tables e below (T4.setTop (mkF m 11 #[.val (.ref x0), .val (.ref x1), .unset] [(.ref x1)])) (T4.setTop (mkF m 13 #[.val (.ref x0), .val (.ref x1), .val (.ref x1)] [(.ref x0)])) := by
    refine XS.astoreN X4.here hx rfl (hb hby d14_11) rfl rfl (l' := #[.val (.ref x0), .val (.ref x1), .val (.ref x1)]) rfl ?_
    show Steps p.tables e below (T4.setTop (mkF m 12 #[.val (.ref x0), .val (.ref x1), .val (.ref x1)] [])) _
    refine XS.aloadN X4.here hx rfl (hb hby d14_12) rfl rfl ?_
    show Steps p.tables e below (T4.setTop (mkF m 13 #[.val (.ref x0), .val (.ref x1), .val (.ref x1)] [(.ref x0)])) _
    exact Steps.refl _
  have pre5 := pre4.trans st5
  obtain ⟨T6, X6, e6, st6⟩ := getF X4 hx hZ hown (host := "") (Or.inl (hw _ (List.mem_of_getElem? (i := 22) rfl))) Via.refl e4 B1 (g := (mkF m 13 #[.val (.ref x0), .val (.ref x1), .val (.ref x1)] [(.ref x0)])) rfl rfl (hb hby d14_13)
  have pre6 : Steps p.tables e below (s₁.setTop (entryFrame m #[(.ref x0), (.ref x1)] 3)) (T6.setTop (mkF m 16 #[.val (.ref x0), .val (.ref x1), .val (.ref x1)] [(.long w0)])) := pre5.trans (st6 _ (Steps.refl _))
  have st7 : Steps p.tables e below (T6.setTop (mkF m 16 #[.val (.ref x0), .val (.ref x1), .val (.ref x1)] [(.long w0)])) (T6.setTop (mkF m 17 #[.val (.ref x0), .val (.ref x1), .val (.ref x1)] [(.ref x1), (.long w0)])) := by
    refine XS.aloadN X6.here hx rfl (hb hby d14_16) rfl rfl ?_
    show Steps p.tables e below (T6.setTop (mkF m 17 #[.val (.ref x0), .val (.ref x1), .val (.ref x1)] [(.ref x1), (.long w0)])) _
    exact Steps.refl _
  have pre7 := pre6.trans st7
  obtain ⟨T8, X8, e8, st8⟩ := getF X6 hx hZ hown (host := "") (Or.inl (hw _ (List.mem_of_getElem? (i := 22) rfl))) Via.refl e6 B2 (g := (mkF m 17 #[.val (.ref x0), .val (.ref x1), .val (.ref x1)] [(.ref x1), (.long w0)])) rfl rfl (hb hby d14_17)
  have pre8 : Steps p.tables e below (s₁.setTop (entryFrame m #[(.ref x0), (.ref x1)] 3)) (T8.setTop (mkF m 20 #[.val (.ref x0), .val (.ref x1), .val (.ref x1)] [(.long w1), (.long w0)])) := pre7.trans (st8 _ (Steps.refl _))
  have st9 : Steps p.tables e below (T8.setTop (mkF m 20 #[.val (.ref x0), .val (.ref x1), .val (.ref x1)] [(.long w1), (.long w0)])) (T8.setTop (mkF m 21 #[.val (.ref x0), .val (.ref x1), .val (.ref x1)] [(.int (lcmpW w0 w1))])) := by
    refine XS.lcmp X8.here hx rfl (hb hby d14_20) rfl ?_
    show Steps p.tables e below (T8.setTop (mkF m 21 #[.val (.ref x0), .val (.ref x1), .val (.ref x1)] [(.int (lcmpW w0 w1))])) _
    exact Steps.refl _
  have pre9 := pre8.trans st9
  by_cases hc21 : w0 = w1
  · have st10 : Steps p.tables e below (T8.setTop (mkF m 21 #[.val (.ref x0), .val (.ref x1), .val (.ref x1)] [(.int (lcmpW w0 w1))])) (T8.setTop (mkF m 24 #[.val (.ref x0), .val (.ref x1), .val (.ref x1)] [])) := by
      refine XS.ifNo X8.here hx rfl (hb hby d14_21) rfl ((if0 _ _).trans (teq ((lw_eq w0 w1).mpr hc21)).2) ?_
      exact Steps.refl _
    have pre10 := pre9.trans st10
    have st11 : Steps p.tables e below (T8.setTop (mkF m 24 #[.val (.ref x0), .val (.ref x1), .val (.ref x1)] [])) (T8.setTop (mkF m 25 #[.val (.ref x0), .val (.ref x1), .val (.ref x1)] [(.ref x0)])) := by
      refine XS.aloadN X8.here hx rfl (hb hby d14_24) rfl rfl ?_
      show Steps p.tables e below (T8.setTop (mkF m 25 #[.val (.ref x0), .val (.ref x1), .val (.ref x1)] [(.ref x0)])) _
      exact Steps.refl _
    have pre11 := pre10.trans st11
    obtain ⟨T12, X12, e12, st12⟩ := getF X8 hx hZ hown (host := "") (Or.inl (hw _ (List.mem_of_getElem? (i := 24) rfl))) Via.refl e8 B3 (g := (mkF m 25 #[.val (.ref x0), .val (.ref x1), .val (.ref x1)] [(.ref x0)])) rfl rfl (hb hby d14_25)
    have pre12 : Steps p.tables e below (s₁.setTop (entryFrame m #[(.ref x0), (.ref x1)] 3)) (T12.setTop (mkF m 28 #[.val (.ref x0), .val (.ref x1), .val (.ref x1)] [(.int w2)])) := pre11.trans (st12 _ (Steps.refl _))
    have st13 : Steps p.tables e below (T12.setTop (mkF m 28 #[.val (.ref x0), .val (.ref x1), .val (.ref x1)] [(.int w2)])) (T12.setTop (mkF m 29 #[.val (.ref x0), .val (.ref x1), .val (.ref x1)] [(.ref x1), (.int w2)])) := by
      refine XS.aloadN X12.here hx rfl (hb hby d14_28) rfl rfl ?_
      show Steps p.tables e below (T12.setTop (mkF m 29 #[.val (.ref x0), .val (.ref x1), .val (.ref x1)] [(.ref x1), (.int w2)])) _
      exact Steps.refl _
    have pre13 := pre12.trans st13
    obtain ⟨T14, X14, e14, st14⟩ := getF X12 hx hZ hown (host := "") (Or.inl (hw _ (List.mem_of_getElem? (i := 24) rfl))) Via.refl e12 B4 (g := (mkF m 29 #[.val (.ref x0), .val (.ref x1), .val (.ref x1)] [(.ref x1), (.int w2)])) rfl rfl (hb hby d14_29)
    have pre14 : Steps p.tables e below (s₁.setTop (entryFrame m #[(.ref x0), (.ref x1)] 3)) (T14.setTop (mkF m 32 #[.val (.ref x0), .val (.ref x1), .val (.ref x1)] [(.int w3), (.int w2)])) := pre13.trans (st14 _ (Steps.refl _))
    obtain ⟨v15, hv15⟩ : ∃ z : Int32, z = (if w2 = w3 then (1 : Int32) else (0 : Int32)) := ⟨_, rfl⟩
    have st16 : Steps p.tables e below (T14.setTop (mkF m 32 #[.val (.ref x0), .val (.ref x1), .val (.ref x1)] [(.int w3), (.int w2)])) (T14.setTop (mkF m 40 #[.val (.ref x0), .val (.ref x1), .val (.ref x1)] [(.int v15)])) := by
      subst v15
      refine Steps.trans (s₂ := T14.setTop (mkF m 40 #[.val (.ref x0), .val (.ref x1), .val (.ref x1)] [(.int (if w2 = w3 then (1 : Int32) else (0 : Int32)))])) ?_ ?_
      · by_cases hc32 : w2 = w3
        · refine XS.icmpNo X14.here hx rfl (hb hby d14_32) rfl (teq hc32).2 ?_
          show Steps p.tables e below (T14.setTop (mkF m 35 #[.val (.ref x0), .val (.ref x1), .val (.ref x1)] [])) _
          refine XS.iconst X14.here hx rfl (hb hby d14_35) ?_
          show Steps p.tables e below (T14.setTop (mkF m 36 #[.val (.ref x0), .val (.ref x1), .val (.ref x1)] [(.int (1 : Int32))])) _
          refine XS.goto X14.here hx rfl (pc0 := 36) (pc' := 40) rfl (hb hby d14_36) (by decide) (by decide) ?_
          show Steps p.tables e below (T14.setTop (mkF m 40 #[.val (.ref x0), .val (.ref x1), .val (.ref x1)] [(.int (1 : Int32))])) _
          try simp only [if_pos hc32]
          exact Steps.refl _
        · refine XS.icmpYes X14.here hx rfl (pc0 := 32) (pc' := 39) rfl (hb hby d14_32) rfl (feq hc32).2 (by decide) (by decide) ?_
          show Steps p.tables e below (T14.setTop (mkF m 39 #[.val (.ref x0), .val (.ref x1), .val (.ref x1)] [])) _
          refine XS.iconst X14.here hx rfl (hb hby d14_39) ?_
          show Steps p.tables e below (T14.setTop (mkF m 40 #[.val (.ref x0), .val (.ref x1), .val (.ref x1)] [(.int (0 : Int32))])) _
          try simp only [if_neg hc32]
          exact Steps.refl _
      show Steps p.tables e below (T14.setTop (mkF m 40 #[.val (.ref x0), .val (.ref x1), .val (.ref x1)] [(.int (if w2 = w3 then (1 : Int32) else (0 : Int32)))])) _
      exact Steps.refl _
    have pre16 := pre14.trans st16
    obtain ⟨fs, hr, hrun, hended, hW, hsame⟩ := X14.leave (v := some (.int (nar .boolean v15))) (fun h => by rw [Bd.returns] at h; cases h)
    refine ⟨_, _, pre16.trans ?_, hrun, hended, _, _, rfl, ?_, ⟨_, rfl⟩, hW, hsame.mono (by decide) (by decide)⟩
    · show Steps p.tables e below (T14.setTop (mkF m 40 #[.val (.ref x0), .val (.ref x1), .val (.ref x1)] [(.int v15)])) _
      exact retN X14 hx (t := .boolean) Bd.returns (by simp) (hb hby d14_40) hr
    · show Q14 Z x0 x1 w0 w1 w2 w3 h0 n0 _ T14.heap _
      rw [e14]
      have hF : own_F14 x0 x1 w0 w1 w2 w3 = v15 := by
        subst v15
        simp only [own_F14, if_pos hc21]
      have hN : nar .boolean v15 = v15 := by
        subst v15
        repeat' split
        all_goals rfl
      exact ⟨by rw [hF, hN], N0, rfl⟩
  · have st17 : Steps p.tables e below (T8.setTop (mkF m 21 #[.val (.ref x0), .val (.ref x1), .val (.ref x1)] [(.int (lcmpW w0 w1))])) (T8.setTop (mkF m 39 #[.val (.ref x0), .val (.ref x1), .val (.ref x1)] [])) := by
      refine XS.ifYes X8.here hx rfl (pc0 := 21) (pc' := 39) rfl (hb hby d14_21) rfl ((if0 _ _).trans (feq (fun q => hc21 ((lw_eq w0 w1).mp q))).2) (by decide) (by decide) ?_
      exact Steps.refl _
    have pre17 := pre9.trans st17
    have st18 : Steps p.tables e below (T8.setTop (mkF m 39 #[.val (.ref x0), .val (.ref x1), .val (.ref x1)] [])) (T8.setTop (mkF m 40 #[.val (.ref x0), .val (.ref x1), .val (.ref x1)] [(.int (0 : Int32))])) := by
      refine XS.iconst X8.here hx rfl (hb hby d14_39) ?_
      show Steps p.tables e below (T8.setTop (mkF m 40 #[.val (.ref x0), .val (.ref x1), .val (.ref x1)] [(.int (0 : Int32))])) _
      exact Steps.refl _
    have pre18 := pre17.trans st18
    obtain ⟨fs, hr, hrun, hended, hW, hsame⟩ := X8.leave (v := some (.int (0 : Int32))) (fun h => by rw [Bd.returns] at h; cases h)
    refine ⟨_, _, pre18.trans ?_, hrun, hended, _, _, rfl, ?_, ⟨_, rfl⟩, hW, hsame.mono (by decide) (by decide)⟩
    · show Steps p.tables e below (T8.setTop (mkF m 40 #[.val (.ref x0), .val (.ref x1), .val (.ref x1)] [(.int (0 : Int32))])) _
      exact retN X8 hx (t := .boolean) Bd.returns (by simp) (hb hby d14_40) hr
    · show Q14 Z x0 x1 w0 w1 w2 w3 h0 n0 _ T8.heap _
      rw [e8]
      have hF : own_F14 x0 x1 w0 w1 w2 w3 = (0 : Int32) := by
        simp only [own_F14, if_neg hc21]
      exact ⟨by rw [hF], N0, rfl⟩
theorem own_id (x : Int32) : own_F2 x = x := by simp only [own_F2]
theorem own_term {x v : Int64} (h : v = own_F1 (1 : Int64) x) : 1 ≤ v.toInt := by
  have e1 : (1 : Int64).toInt = 1 := by decide
  subst h
  simp only [own_F1]
  split
  · rename_i c; rw [Int64.lt_iff_toInt_lt] at c; omega
  · omega
theorem own_term2 {a b c : Int64} {k : Int32} (ha : 1 ≤ a.toInt) (hb : 1 ≤ b.toInt) (h : c = (if k = (0 : Int32) then b else a)) : 1 ≤ c.toInt := by
  subst h; split <;> assumption
theorem own_ge {v : Int64} (h : 1 ≤ v.toInt) : ¬ (v < (1 : Int64)) := by
  have e1 : (1 : Int64).toInt = 1 := by decide
  rw [Int64.lt_iff_toInt_lt]; omega
theorem own_nn {x v : Int32} (h : v = (x &&& (2147483647 : Int32))) : 0 ≤ v.toInt := by rw [h]; exact (own_mask x).1
theorem own_nn2 {a b c k : Int32} (ha : 0 ≤ a.toInt) (hb : 0 ≤ b.toInt) (h : c = (if k = (0 : Int32) then b else a)) : 0 ≤ c.toInt := by
  subst h; split <;> assumption
theorem own_lt0 {v : Int32} (h : 0 ≤ v.toInt) : ¬ (v < (0 : Int32)) := by
  have e1 : (0 : Int32).toInt = 0 := by decide
  rw [Int32.lt_iff_toInt_lt]; omega
theorem own_m1 {v : Int32} (h : 0 ≤ v.toInt) : ¬ (v = (-1 : Int32)) := by
  have e1 : (-1 : Int32).toInt = -1 := by decide
  rw [← Int32.toInt_inj]; omega
theorem own_none0 {v : Int32} (a : Addr) (h : 0 ≤ v.toInt) : own_F5 a (own_F2 v) = (0 : Int32) := by
  rw [own_id]; exact (own_none _ _).1 (own_m1 h)
theorem own_names {v u : Int32} (a : Addr) (h : 0 ≤ v.toInt) : own_F8 a u (own_F2 v) = (if v = u then (1 : Int32) else (0 : Int32)) := by
  have q := (own_none a v).1 (own_m1 h)
  simp only [own_F8, own_id, q]
  rfl
theorem own_triI (a b : Int32) : (a < b ∧ ¬ b < a ∧ ¬ a = b) ∨ (¬ a < b ∧ b < a ∧ ¬ a = b) ∨ (¬ a < b ∧ ¬ b < a ∧ a = b) := by
  simp only [Int32.lt_iff_toInt_lt, ← Int32.toInt_inj]
  omega
theorem own_triL (a b : Int64) : (a < b ∧ ¬ b < a ∧ ¬ a = b) ∨ (¬ a < b ∧ b < a ∧ ¬ a = b) ∨ (¬ a < b ∧ ¬ b < a ∧ a = b) := by
  simp only [Int64.lt_iff_toInt_lt, ← Int64.toInt_inj]
  omega
def own_exp (t t2 : Int64) (i i2 : Int32) : Int32 := (if t < t2 then (-1 : Int32) else (if t2 < t then (1 : Int32) else (if i < i2 then (-1 : Int32) else (if i2 < i then (1 : Int32) else (0 : Int32)))))
theorem own_cmp (a b : Addr) (t t2 : Int64) (i i2 : Int32) : own_F13 (own_F11 a b t t2 (own_F2 i) (own_F2 i2)) = own_exp t t2 i i2 := by
  rw [own_id, own_id]
  rcases own_triL t t2 with ⟨h1, h2, h3⟩ | ⟨h1, h2, h3⟩ | ⟨h1, h2, rfl⟩ <;> rcases own_triI i i2 with ⟨g1, g2, g3⟩ | ⟨g1, g2, g3⟩ | ⟨g1, g2, rfl⟩ <;> simp only [own_F13, own_F11, own_F9, own_F10, own_exp, *, eq_self, if_true, if_false] <;> decide
theorem own_equ (a b : Addr) (t t2 : Int64) (i i2 : Int32) : own_F14 a b t t2 (own_F2 i) (own_F2 i2) = (if own_exp t t2 i i2 = (0 : Int32) then (1 : Int32) else (0 : Int32)) := by
  rw [own_id, own_id]
  rcases own_triL t t2 with ⟨h1, h2, h3⟩ | ⟨h1, h2, h3⟩ | ⟨h1, h2, rfl⟩ <;> rcases own_triI i i2 with ⟨g1, g2, g3⟩ | ⟨g1, g2, g3⟩ | ⟨g1, g2, rfl⟩ <;> simp only [own_F14, own_exp, *, eq_self, if_true, if_false] <;> decide
theorem own_c9 {t : Int64} (h : 1 ≤ t.toInt) : own_F9 t (0 : Int64) = (1 : Int32) := by
  have e0 : (0 : Int64).toInt = 0 := by decide
  have h1 : ¬ t < (0 : Int64) := by rw [Int64.lt_iff_toInt_lt]; omega
  have h2 : ¬ t = (0 : Int64) := by rw [← Int64.toInt_inj]; omega
  simp only [own_F9, if_neg h1, if_neg h2]
theorem own_ne9 {t : Int64} (h : 1 ≤ t.toInt) : ¬ (own_F9 t (0 : Int64) = (0 : Int32)) := by rw [own_c9 h]; decide
theorem pn0 : plainName "com/example/find_leader/findleader/election/ClaimOfPinLaw" = true := by first | (simp [plainName, overriddenIn]; done) | decide +kernel
theorem pd0_0 : parseMethodDescriptor "(JJ)J" = some ⟨[.long, .long], some .long⟩ := by decide +kernel
theorem pd0_1 : parseMethodDescriptor "(JI)Lcom/example/find_leader/findleader/election/Claim;" = some ⟨[.long, .int], some (.object "com/example/find_leader/findleader/election/Claim")⟩ := by decide +kernel
theorem pd0_2 : parseMethodDescriptor "()J" = some ⟨[], some .long⟩ := by decide +kernel
theorem pd0_3 : parseMethodDescriptor "()I" = some ⟨[], some .int⟩ := by decide +kernel
theorem pd0_4 : parseMethodDescriptor "()Z" = some ⟨[], some .boolean⟩ := by decide +kernel
theorem pd0_5 : parseMethodDescriptor "(I)Z" = some ⟨[.int], some .boolean⟩ := by decide +kernel
theorem pd0_6 : parseMethodDescriptor "(Lcom/example/find_leader/findleader/election/Claim;)I" = some ⟨[(.object "com/example/find_leader/findleader/election/Claim")], some .int⟩ := by decide +kernel
theorem pd0_7 : parseMethodDescriptor "(I)I" = some ⟨[.int], some .int⟩ := by decide +kernel
theorem pd0_8 : parseMethodDescriptor "(Ljava/lang/Object;)Z" = some ⟨[(.object "java/lang/Object")], some .boolean⟩ := by decide +kernel
theorem ef0 (m : MethodId) (x0 : Int64) (x1 : Int32) (x2 : Int64) (x3 : Int32) (x4 : Int32) : entryFrame m #[(.long x0), (.int x1), (.long x2), (.int x3), (.int x4)] maxLocals = mkF m 0 #[.val (.long x0), .second, .val (.int x1), .val (.long x2), .second, .val (.int x3), .val (.int x4), .unset, .unset, .unset, .unset, .unset, .unset, .unset, .unset, .unset, .unset] [] := by first | (simp [entryFrame, mkF, argsToLocals, Value.category, maxLocals]; done) | rfl
def Q0 (Z : State) (x0 : Int64) (x1 : Int32) (x2 : Int64) (x3 : Int32) (x4 : Int32) (aN : Addr) (h0 : Heap) (n0 : Nat) (v : Option Value) (h : Heap) (L : List Loc) : Prop := v = some (.int 1) ∧ Fr n0 L
set_option maxRecDepth 65536 in
set_option maxHeartbeats 40000000 in
theorem rm0 (l : Launch) (Z : State) (a0 : Array Value) (hw : ∀ d ∈ tables_1, d.before a0 Z = true) (ws : List Jvm.Cond) (x0 : Int64) (x1 : Int32) (x2 : Int64) (x3 : Int32) (x4 : Int32) (aN : Addr) (h0 : Heap) (n0 : Nat) (Z0 : n0 ≤ h0.size) (O0 : Old Z n0 h0) (B0 : Exa Z h0 aN "com/example/find_leader/findleader/election/Claim") (B1 : Fld Z h0 aN "com/example/find_leader/findleader/election/Claim" "term" "J" (.long (0 : Int64))) (S_N : Sta Z Z.heap "com/example/find_leader/findleader/election/Claim" "NONE" "Lcom/example/find_leader/findleader/election/Claim;" (.ref aN)) :
    MetFree l x (head1 (Jvm.Cond.code x code maxLocals ret :: ws) room_1) (fun a U => a = #[(.long x0), (.int x1), (.long x2), (.int x3), (.int x4)] ∧ Z.Warmed39 U.vm ∧ U.heap = h0) (fun _ _ _ _ _ => True) (fun _ U o U' => ∃ v L, o = .returned v ∧ Q0 Z x0 x1 x2 x3 x4 aN h0 n0 v U'.heap L ∧ FrameEnd U o U' L room_1.cells room_1.slots) := by
  refine MetFree.of_bodySF (plainFor_of_name pn0) hisR ?_
  intro p e s m args below meth c s₁ Bd hml0 hP hK
  obtain ⟨rfl, hZ, hh⟩ := hP
  have hx := Bd.exec
  have hby := Bd.bytes
  have hml : c.maxLocals = 17 := hml0
  have hown : s.vm.findClass "com/example/find_leader/findleader/election/ClaimOfPinLaw" = some m.cls := findClass_of_methodNamed Bd.named
  have hnm := (name_of_methodNamed Bd.named Bd.method).1
  have X0 : Stand p l e room_1 s m #[(.long x0), (.int x1), (.long x2), (.int x3), (.int x4)] below meth c s₁ [] 0 0 := Stand.of_body Bd
  have e0 : s₁.heap = h0 := by rw [← hh, Bd.state]; rfl
  have N0 := Fr.nil n0
  have pre0 : Steps p.tables e below (s₁.setTop (entryFrame m #[(.long x0), (.int x1), (.long x2), (.int x3), (.int x4)] maxLocals)) (s₁.setTop (mkF m 0 #[.val (.long x0), .second, .val (.int x1), .val (.long x2), .second, .val (.int x3), .val (.int x4), .unset, .unset, .unset, .unset, .unset, .unset, .unset, .unset, .unset, .unset] [])) := castTop (ef0 m x0 x1 x2 x3 x4) (Steps.refl _)
  have K0 := Keep.refl h0 []
  obtain ⟨v1, hv1⟩ : ∃ z : Int64, z = (x0 &&& (9223372036854775807 : Int64)) := ⟨_, rfl⟩
  have st2 : Steps p.tables e below (s₁.setTop (mkF m 0 #[.val (.long x0), .second, .val (.int x1), .val (.long x2), .second, .val (.int x3), .val (.int x4), .unset, .unset, .unset, .unset, .unset, .unset, .unset, .unset, .unset, .unset] [])) (s₁.setTop (mkF m 6 #[.val (.long x0), .second, .val (.int x1), .val (.long x2), .second, .val (.int x3), .val (.int x4), .unset, .unset, .unset, .unset, .unset, .unset, .unset, .unset, .unset, .unset] [(.long v1), (.long (1 : Int64))])) := by
    subst v1
    refine XS.lconst X0.here hx rfl (hb hby at_0) ?_
    show Steps p.tables e below (s₁.setTop (mkF m 1 #[.val (.long x0), .second, .val (.int x1), .val (.long x2), .second, .val (.int x3), .val (.int x4), .unset, .unset, .unset, .unset, .unset, .unset, .unset, .unset, .unset, .unset] [(.long (1 : Int64))])) _
    refine XS.lloadN X0.here hx rfl (hb hby at_1) rfl ?_
    show Steps p.tables e below (s₁.setTop (mkF m 2 #[.val (.long x0), .second, .val (.int x1), .val (.long x2), .second, .val (.int x3), .val (.int x4), .unset, .unset, .unset, .unset, .unset, .unset, .unset, .unset, .unset, .unset] [(.long x0), (.long (1 : Int64))])) _
    refine X0.ldc2Long hx hown (mvT hZ (hw _ (List.mem_of_getElem? (i := 0) rfl))) (g := (mkF m 2 #[.val (.long x0), .second, .val (.int x1), .val (.long x2), .second, .val (.int x3), .val (.int x4), .unset, .unset, .unset, .unset, .unset, .unset, .unset, .unset, .unset, .unset] [(.long x0), (.long (1 : Int64))])) rfl (hb hby at_2) _ ?_
    show Steps p.tables e below (s₁.setTop (mkF m 5 #[.val (.long x0), .second, .val (.int x1), .val (.long x2), .second, .val (.int x3), .val (.int x4), .unset, .unset, .unset, .unset, .unset, .unset, .unset, .unset, .unset, .unset] [(.long (9223372036854775807 : Int64)), (.long x0), (.long (1 : Int64))])) _
    refine XS.land X0.here hx rfl (hb hby at_5) rfl ?_
    show Steps p.tables e below (s₁.setTop (mkF m 6 #[.val (.long x0), .second, .val (.int x1), .val (.long x2), .second, .val (.int x3), .val (.int x4), .unset, .unset, .unset, .unset, .unset, .unset, .unset, .unset, .unset, .unset] [(.long (x0 &&& (9223372036854775807 : Int64))), (.long (1 : Int64))])) _
    exact Steps.refl _
  have pre2 := pre0.trans st2
  obtain ⟨_, _, ⟨T3, L3, k3, n3⟩, -, X3, ⟨Lc3, hQ3, l3, y3, z3⟩, st3⟩ := Jvm.LawKit.callS X0 hx (y := (⟨"java/lang/Math", "max", "(JJ)J"⟩ : MethodName)) hown (mvT hZ (hw _ (List.mem_of_getElem? (i := 1) rfl))) (mvT hZ (hw _ (List.mem_of_getElem? (i := 2) rfl))) (mvT hZ (hw _ (List.mem_of_getElem? (i := 3) rfl))) (mvT hZ (hw _ (List.mem_of_getElem? (i := 4) rfl))) (by decide) (backOf (W := 0) (rm1 l Z a0 hw [] (1 : Int64) v1 h0 n0 Z0) hZ (hw _ (List.mem_of_getElem? (i := 4) rfl)) (hw _ (List.mem_of_getElem? (i := 3) rfl)) (by decide) (by decide)) (g := (mkF m 6 #[.val (.long x0), .second, .val (.int x1), .val (.long x2), .second, .val (.int x3), .val (.int x4), .unset, .unset, .unset, .unset, .unset, .unset, .unset, .unset, .unset, .unset] [(.long v1), (.long (1 : Int64))])) rfl (by rw [hml]; rfl) (argsL := [(.long (1 : Int64)), (.long v1)]) (rest := []) (lenOf pd0_0 rfl) rfl (by show 2 * 0 + _ ≤ _; exact Nat.le_of_eq rfl) (hb hby at_6) (fun _ _ => ⟨rfl, e0, (by decide : 0 + 0 ≤ _), (by decide : 0 + 0 ≤ _)⟩)
  dsimp only [Pt.U, Pt.locs, Pt.cells, Pt.slots] at X3 l3 y3 z3 st3 hQ3
  subst l3 y3 z3
  obtain ⟨rfl, Nq3, e3⟩ := hQ3
  have N3 := Fr.app N0 Nq3
  have pre3 : Steps p.tables e below (s₁.setTop (entryFrame m #[(.long x0), (.int x1), (.long x2), (.int x3), (.int x4)] maxLocals)) (T3.setTop (mkF m 9 #[.val (.long x0), .second, .val (.int x1), .val (.long x2), .second, .val (.int x3), .val (.int x4), .unset, .unset, .unset, .unset, .unset, .unset, .unset, .unset, .unset, .unset] [(.long (own_F1 (1 : Int64) v1))])) := pre2.trans (st3 _ (Steps.refl _))
  obtain ⟨v4, hv4⟩ : ∃ z : Int64, z = (own_F1 (1 : Int64) v1) := ⟨_, rfl⟩
  obtain ⟨v5, hv5⟩ : ∃ z : Int32, z = (x1 &&& (2147483647 : Int32)) := ⟨_, rfl⟩
  obtain ⟨v6, hv6⟩ : ∃ z : Int64, z = (x2 &&& (9223372036854775807 : Int64)) := ⟨_, rfl⟩
  have st7 : Steps p.tables e below (T3.setTop (mkF m 9 #[.val (.long x0), .second, .val (.int x1), .val (.long x2), .second, .val (.int x3), .val (.int x4), .unset, .unset, .unset, .unset, .unset, .unset, .unset, .unset, .unset, .unset] [(.long (own_F1 (1 : Int64) v1))])) (T3.setTop (mkF m 23 #[.val (.long x0), .second, .val (.int x1), .val (.long x2), .second, .val (.int x3), .val (.int x4), .val (.long v4), .second, .val (.int v5), .unset, .unset, .unset, .unset, .unset, .unset, .unset] [(.long v6), (.long (1 : Int64))])) := by
    subst v6 v5 v4
    refine XS.lstore X3.here hx rfl (hb hby at_9) rfl (l' := #[.val (.long x0), .second, .val (.int x1), .val (.long x2), .second, .val (.int x3), .val (.int x4), .val (.long (own_F1 (1 : Int64) v1)), .second, .unset, .unset, .unset, .unset, .unset, .unset, .unset, .unset]) rfl ?_
    show Steps p.tables e below (T3.setTop (mkF m 11 #[.val (.long x0), .second, .val (.int x1), .val (.long x2), .second, .val (.int x3), .val (.int x4), .val (.long (own_F1 (1 : Int64) v1)), .second, .unset, .unset, .unset, .unset, .unset, .unset, .unset, .unset] [])) _
    refine XS.iloadN X3.here hx rfl (hb hby at_11) rfl ?_
    show Steps p.tables e below (T3.setTop (mkF m 12 #[.val (.long x0), .second, .val (.int x1), .val (.long x2), .second, .val (.int x3), .val (.int x4), .val (.long (own_F1 (1 : Int64) v1)), .second, .unset, .unset, .unset, .unset, .unset, .unset, .unset, .unset] [(.int x1)])) _
    refine X3.ldcInt hx hown (mvT hZ (hw _ (List.mem_of_getElem? (i := 5) rfl))) (g := (mkF m 12 #[.val (.long x0), .second, .val (.int x1), .val (.long x2), .second, .val (.int x3), .val (.int x4), .val (.long (own_F1 (1 : Int64) v1)), .second, .unset, .unset, .unset, .unset, .unset, .unset, .unset, .unset] [(.int x1)])) rfl (hb hby at_12) _ ?_
    show Steps p.tables e below (T3.setTop (mkF m 14 #[.val (.long x0), .second, .val (.int x1), .val (.long x2), .second, .val (.int x3), .val (.int x4), .val (.long (own_F1 (1 : Int64) v1)), .second, .unset, .unset, .unset, .unset, .unset, .unset, .unset, .unset] [(.int (2147483647 : Int32)), (.int x1)])) _
    refine XS.iand X3.here hx rfl (hb hby at_14) rfl ?_
    show Steps p.tables e below (T3.setTop (mkF m 15 #[.val (.long x0), .second, .val (.int x1), .val (.long x2), .second, .val (.int x3), .val (.int x4), .val (.long (own_F1 (1 : Int64) v1)), .second, .unset, .unset, .unset, .unset, .unset, .unset, .unset, .unset] [(.int (x1 &&& (2147483647 : Int32)))])) _
    refine XS.istore X3.here hx rfl (hb hby at_15) rfl (l' := #[.val (.long x0), .second, .val (.int x1), .val (.long x2), .second, .val (.int x3), .val (.int x4), .val (.long (own_F1 (1 : Int64) v1)), .second, .val (.int (x1 &&& (2147483647 : Int32))), .unset, .unset, .unset, .unset, .unset, .unset, .unset]) rfl ?_
    show Steps p.tables e below (T3.setTop (mkF m 17 #[.val (.long x0), .second, .val (.int x1), .val (.long x2), .second, .val (.int x3), .val (.int x4), .val (.long (own_F1 (1 : Int64) v1)), .second, .val (.int (x1 &&& (2147483647 : Int32))), .unset, .unset, .unset, .unset, .unset, .unset, .unset] [])) _
    refine XS.lconst X3.here hx rfl (hb hby at_17) ?_
    show Steps p.tables e below (T3.setTop (mkF m 18 #[.val (.long x0), .second, .val (.int x1), .val (.long x2), .second, .val (.int x3), .val (.int x4), .val (.long (own_F1 (1 : Int64) v1)), .second, .val (.int (x1 &&& (2147483647 : Int32))), .unset, .unset, .unset, .unset, .unset, .unset, .unset] [(.long (1 : Int64))])) _
    refine XS.lloadN X3.here hx rfl (hb hby at_18) rfl ?_
    show Steps p.tables e below (T3.setTop (mkF m 19 #[.val (.long x0), .second, .val (.int x1), .val (.long x2), .second, .val (.int x3), .val (.int x4), .val (.long (own_F1 (1 : Int64) v1)), .second, .val (.int (x1 &&& (2147483647 : Int32))), .unset, .unset, .unset, .unset, .unset, .unset, .unset] [(.long x2), (.long (1 : Int64))])) _
    refine X3.ldc2Long hx hown (mvT hZ (hw _ (List.mem_of_getElem? (i := 0) rfl))) (g := (mkF m 19 #[.val (.long x0), .second, .val (.int x1), .val (.long x2), .second, .val (.int x3), .val (.int x4), .val (.long (own_F1 (1 : Int64) v1)), .second, .val (.int (x1 &&& (2147483647 : Int32))), .unset, .unset, .unset, .unset, .unset, .unset, .unset] [(.long x2), (.long (1 : Int64))])) rfl (hb hby at_19) _ ?_
    show Steps p.tables e below (T3.setTop (mkF m 22 #[.val (.long x0), .second, .val (.int x1), .val (.long x2), .second, .val (.int x3), .val (.int x4), .val (.long (own_F1 (1 : Int64) v1)), .second, .val (.int (x1 &&& (2147483647 : Int32))), .unset, .unset, .unset, .unset, .unset, .unset, .unset] [(.long (9223372036854775807 : Int64)), (.long x2), (.long (1 : Int64))])) _
    refine XS.land X3.here hx rfl (hb hby at_22) rfl ?_
    show Steps p.tables e below (T3.setTop (mkF m 23 #[.val (.long x0), .second, .val (.int x1), .val (.long x2), .second, .val (.int x3), .val (.int x4), .val (.long (own_F1 (1 : Int64) v1)), .second, .val (.int (x1 &&& (2147483647 : Int32))), .unset, .unset, .unset, .unset, .unset, .unset, .unset] [(.long (x2 &&& (9223372036854775807 : Int64))), (.long (1 : Int64))])) _
    exact Steps.refl _
  have pre7 := pre3.trans st7
  obtain ⟨_, _, ⟨T8, L8, k8, n8⟩, -, X8, ⟨Lc8, hQ8, l8, y8, z8⟩, st8⟩ := Jvm.LawKit.callS X3 hx (y := (⟨"java/lang/Math", "max", "(JJ)J"⟩ : MethodName)) hown (mvT hZ (hw _ (List.mem_of_getElem? (i := 1) rfl))) (mvT hZ (hw _ (List.mem_of_getElem? (i := 2) rfl))) (mvT hZ (hw _ (List.mem_of_getElem? (i := 3) rfl))) (mvT hZ (hw _ (List.mem_of_getElem? (i := 4) rfl))) (by decide) (backOf (W := 0) (rm1 l Z a0 hw [] (1 : Int64) v6 h0 n0 Z0) hZ (hw _ (List.mem_of_getElem? (i := 4) rfl)) (hw _ (List.mem_of_getElem? (i := 3) rfl)) (by decide) (by decide)) (g := (mkF m 23 #[.val (.long x0), .second, .val (.int x1), .val (.long x2), .second, .val (.int x3), .val (.int x4), .val (.long v4), .second, .val (.int v5), .unset, .unset, .unset, .unset, .unset, .unset, .unset] [(.long v6), (.long (1 : Int64))])) rfl (by rw [hml]; rfl) (argsL := [(.long (1 : Int64)), (.long v6)]) (rest := []) (lenOf pd0_0 rfl) rfl (by show 2 * 0 + _ ≤ _; exact Nat.le_of_eq rfl) (hb hby at_23) (fun _ _ => ⟨rfl, e3, (by decide : 0 + 0 ≤ _), (by decide : 0 + 0 ≤ _)⟩)
  dsimp only [Pt.U, Pt.locs, Pt.cells, Pt.slots] at X8 l8 y8 z8 st8 hQ8
  subst l8 y8 z8
  obtain ⟨rfl, Nq8, e8⟩ := hQ8
  have N8 := Fr.app N3 Nq8
  have pre8 : Steps p.tables e below (s₁.setTop (entryFrame m #[(.long x0), (.int x1), (.long x2), (.int x3), (.int x4)] maxLocals)) (T8.setTop (mkF m 26 #[.val (.long x0), .second, .val (.int x1), .val (.long x2), .second, .val (.int x3), .val (.int x4), .val (.long v4), .second, .val (.int v5), .unset, .unset, .unset, .unset, .unset, .unset, .unset] [(.long (own_F1 (1 : Int64) v6))])) := pre7.trans (st8 _ (Steps.refl _))
  obtain ⟨v9, hv9⟩ : ∃ z : Int64, z = (if (x4 &&& (1 : Int32)) = (0 : Int32) then (own_F1 (1 : Int64) v6) else v4) := ⟨_, rfl⟩
  obtain ⟨v10, hv10⟩ : ∃ z : Int32, z = (if (x4 &&& (2 : Int32)) = (0 : Int32) then (x3 &&& (2147483647 : Int32)) else v5) := ⟨_, rfl⟩
  have st11 : Steps p.tables e below (T8.setTop (mkF m 26 #[.val (.long x0), .second, .val (.int x1), .val (.long x2), .second, .val (.int x3), .val (.int x4), .val (.long v4), .second, .val (.int v5), .unset, .unset, .unset, .unset, .unset, .unset, .unset] [(.long (own_F1 (1 : Int64) v6))])) (T8.setTop (mkF m 61 #[.val (.long x0), .second, .val (.int x1), .val (.long x2), .second, .val (.int x3), .val (.int x4), .val (.long v4), .second, .val (.int v5), .val (.long v9), .second, .val (.int v10), .unset, .unset, .unset, .unset] [(.int v5), (.long v4)])) := by
    subst v10 v9
    refine XS.lstore X8.here hx rfl (hb hby at_26) rfl (l' := #[.val (.long x0), .second, .val (.int x1), .val (.long x2), .second, .val (.int x3), .val (.int x4), .val (.long v4), .second, .val (.int v5), .val (.long (own_F1 (1 : Int64) v6)), .second, .unset, .unset, .unset, .unset, .unset]) rfl ?_
    show Steps p.tables e below (T8.setTop (mkF m 28 #[.val (.long x0), .second, .val (.int x1), .val (.long x2), .second, .val (.int x3), .val (.int x4), .val (.long v4), .second, .val (.int v5), .val (.long (own_F1 (1 : Int64) v6)), .second, .unset, .unset, .unset, .unset, .unset] [])) _
    refine XS.iload X8.here hx rfl (hb hby at_28) rfl ?_
    show Steps p.tables e below (T8.setTop (mkF m 30 #[.val (.long x0), .second, .val (.int x1), .val (.long x2), .second, .val (.int x3), .val (.int x4), .val (.long v4), .second, .val (.int v5), .val (.long (own_F1 (1 : Int64) v6)), .second, .unset, .unset, .unset, .unset, .unset] [(.int x3)])) _
    refine X8.ldcInt hx hown (mvT hZ (hw _ (List.mem_of_getElem? (i := 5) rfl))) (g := (mkF m 30 #[.val (.long x0), .second, .val (.int x1), .val (.long x2), .second, .val (.int x3), .val (.int x4), .val (.long v4), .second, .val (.int v5), .val (.long (own_F1 (1 : Int64) v6)), .second, .unset, .unset, .unset, .unset, .unset] [(.int x3)])) rfl (hb hby at_30) _ ?_
    show Steps p.tables e below (T8.setTop (mkF m 32 #[.val (.long x0), .second, .val (.int x1), .val (.long x2), .second, .val (.int x3), .val (.int x4), .val (.long v4), .second, .val (.int v5), .val (.long (own_F1 (1 : Int64) v6)), .second, .unset, .unset, .unset, .unset, .unset] [(.int (2147483647 : Int32)), (.int x3)])) _
    refine XS.iand X8.here hx rfl (hb hby at_32) rfl ?_
    show Steps p.tables e below (T8.setTop (mkF m 33 #[.val (.long x0), .second, .val (.int x1), .val (.long x2), .second, .val (.int x3), .val (.int x4), .val (.long v4), .second, .val (.int v5), .val (.long (own_F1 (1 : Int64) v6)), .second, .unset, .unset, .unset, .unset, .unset] [(.int (x3 &&& (2147483647 : Int32)))])) _
    refine XS.istore X8.here hx rfl (hb hby at_33) rfl (l' := #[.val (.long x0), .second, .val (.int x1), .val (.long x2), .second, .val (.int x3), .val (.int x4), .val (.long v4), .second, .val (.int v5), .val (.long (own_F1 (1 : Int64) v6)), .second, .val (.int (x3 &&& (2147483647 : Int32))), .unset, .unset, .unset, .unset]) rfl ?_
    show Steps p.tables e below (T8.setTop (mkF m 35 #[.val (.long x0), .second, .val (.int x1), .val (.long x2), .second, .val (.int x3), .val (.int x4), .val (.long v4), .second, .val (.int v5), .val (.long (own_F1 (1 : Int64) v6)), .second, .val (.int (x3 &&& (2147483647 : Int32))), .unset, .unset, .unset, .unset] [])) _
    refine XS.iload X8.here hx rfl (hb hby at_35) rfl ?_
    show Steps p.tables e below (T8.setTop (mkF m 37 #[.val (.long x0), .second, .val (.int x1), .val (.long x2), .second, .val (.int x3), .val (.int x4), .val (.long v4), .second, .val (.int v5), .val (.long (own_F1 (1 : Int64) v6)), .second, .val (.int (x3 &&& (2147483647 : Int32))), .unset, .unset, .unset, .unset] [(.int x4)])) _
    refine XS.iconst X8.here hx rfl (hb hby at_37) ?_
    show Steps p.tables e below (T8.setTop (mkF m 38 #[.val (.long x0), .second, .val (.int x1), .val (.long x2), .second, .val (.int x3), .val (.int x4), .val (.long v4), .second, .val (.int v5), .val (.long (own_F1 (1 : Int64) v6)), .second, .val (.int (x3 &&& (2147483647 : Int32))), .unset, .unset, .unset, .unset] [(.int (1 : Int32)), (.int x4)])) _
    refine XS.iand X8.here hx rfl (hb hby at_38) rfl ?_
    show Steps p.tables e below (T8.setTop (mkF m 39 #[.val (.long x0), .second, .val (.int x1), .val (.long x2), .second, .val (.int x3), .val (.int x4), .val (.long v4), .second, .val (.int v5), .val (.long (own_F1 (1 : Int64) v6)), .second, .val (.int (x3 &&& (2147483647 : Int32))), .unset, .unset, .unset, .unset] [(.int (x4 &&& (1 : Int32)))])) _
    refine Steps.trans (s₂ := T8.setTop (mkF m 46 #[.val (.long x0), .second, .val (.int x1), .val (.long x2), .second, .val (.int x3), .val (.int x4), .val (.long v4), .second, .val (.int v5), .val (.long (if (x4 &&& (1 : Int32)) = (0 : Int32) then (own_F1 (1 : Int64) v6) else v4)), .second, .val (.int (x3 &&& (2147483647 : Int32))), .unset, .unset, .unset, .unset] [])) ?_ ?_
    · by_cases hc39 : (x4 &&& (1 : Int32)) = (0 : Int32)
      · refine XS.ifYes X8.here hx rfl (pc0 := 39) (pc' := 46) rfl (hb hby at_39) rfl ((if0 _ _).trans (teq hc39).1) (by decide) (by decide) ?_
        show Steps p.tables e below (T8.setTop (mkF m 46 #[.val (.long x0), .second, .val (.int x1), .val (.long x2), .second, .val (.int x3), .val (.int x4), .val (.long v4), .second, .val (.int v5), .val (.long (own_F1 (1 : Int64) v6)), .second, .val (.int (x3 &&& (2147483647 : Int32))), .unset, .unset, .unset, .unset] [])) _
        try simp only [if_pos hc39]
        exact Steps.refl _
      · refine XS.ifNo X8.here hx rfl (hb hby at_39) rfl ((if0 _ _).trans (feq hc39).1) ?_
        show Steps p.tables e below (T8.setTop (mkF m 42 #[.val (.long x0), .second, .val (.int x1), .val (.long x2), .second, .val (.int x3), .val (.int x4), .val (.long v4), .second, .val (.int v5), .val (.long (own_F1 (1 : Int64) v6)), .second, .val (.int (x3 &&& (2147483647 : Int32))), .unset, .unset, .unset, .unset] [])) _
        refine XS.lload X8.here hx rfl (hb hby at_42) rfl ?_
        show Steps p.tables e below (T8.setTop (mkF m 44 #[.val (.long x0), .second, .val (.int x1), .val (.long x2), .second, .val (.int x3), .val (.int x4), .val (.long v4), .second, .val (.int v5), .val (.long (own_F1 (1 : Int64) v6)), .second, .val (.int (x3 &&& (2147483647 : Int32))), .unset, .unset, .unset, .unset] [(.long v4)])) _
        refine XS.lstore X8.here hx rfl (hb hby at_44) rfl (l' := #[.val (.long x0), .second, .val (.int x1), .val (.long x2), .second, .val (.int x3), .val (.int x4), .val (.long v4), .second, .val (.int v5), .val (.long v4), .second, .val (.int (x3 &&& (2147483647 : Int32))), .unset, .unset, .unset, .unset]) rfl ?_
        show Steps p.tables e below (T8.setTop (mkF m 46 #[.val (.long x0), .second, .val (.int x1), .val (.long x2), .second, .val (.int x3), .val (.int x4), .val (.long v4), .second, .val (.int v5), .val (.long v4), .second, .val (.int (x3 &&& (2147483647 : Int32))), .unset, .unset, .unset, .unset] [])) _
        try simp only [if_neg hc39]
        exact Steps.refl _
    show Steps p.tables e below (T8.setTop (mkF m 46 #[.val (.long x0), .second, .val (.int x1), .val (.long x2), .second, .val (.int x3), .val (.int x4), .val (.long v4), .second, .val (.int v5), .val (.long (if (x4 &&& (1 : Int32)) = (0 : Int32) then (own_F1 (1 : Int64) v6) else v4)), .second, .val (.int (x3 &&& (2147483647 : Int32))), .unset, .unset, .unset, .unset] [])) _
    refine XS.iload X8.here hx rfl (hb hby at_46) rfl ?_
    show Steps p.tables e below (T8.setTop (mkF m 48 #[.val (.long x0), .second, .val (.int x1), .val (.long x2), .second, .val (.int x3), .val (.int x4), .val (.long v4), .second, .val (.int v5), .val (.long (if (x4 &&& (1 : Int32)) = (0 : Int32) then (own_F1 (1 : Int64) v6) else v4)), .second, .val (.int (x3 &&& (2147483647 : Int32))), .unset, .unset, .unset, .unset] [(.int x4)])) _
    refine XS.iconst X8.here hx rfl (hb hby at_48) ?_
    show Steps p.tables e below (T8.setTop (mkF m 49 #[.val (.long x0), .second, .val (.int x1), .val (.long x2), .second, .val (.int x3), .val (.int x4), .val (.long v4), .second, .val (.int v5), .val (.long (if (x4 &&& (1 : Int32)) = (0 : Int32) then (own_F1 (1 : Int64) v6) else v4)), .second, .val (.int (x3 &&& (2147483647 : Int32))), .unset, .unset, .unset, .unset] [(.int (2 : Int32)), (.int x4)])) _
    refine XS.iand X8.here hx rfl (hb hby at_49) rfl ?_
    show Steps p.tables e below (T8.setTop (mkF m 50 #[.val (.long x0), .second, .val (.int x1), .val (.long x2), .second, .val (.int x3), .val (.int x4), .val (.long v4), .second, .val (.int v5), .val (.long (if (x4 &&& (1 : Int32)) = (0 : Int32) then (own_F1 (1 : Int64) v6) else v4)), .second, .val (.int (x3 &&& (2147483647 : Int32))), .unset, .unset, .unset, .unset] [(.int (x4 &&& (2 : Int32)))])) _
    refine Steps.trans (s₂ := T8.setTop (mkF m 57 #[.val (.long x0), .second, .val (.int x1), .val (.long x2), .second, .val (.int x3), .val (.int x4), .val (.long v4), .second, .val (.int v5), .val (.long (if (x4 &&& (1 : Int32)) = (0 : Int32) then (own_F1 (1 : Int64) v6) else v4)), .second, .val (.int (if (x4 &&& (2 : Int32)) = (0 : Int32) then (x3 &&& (2147483647 : Int32)) else v5)), .unset, .unset, .unset, .unset] [])) ?_ ?_
    · by_cases hc50 : (x4 &&& (2 : Int32)) = (0 : Int32)
      · refine XS.ifYes X8.here hx rfl (pc0 := 50) (pc' := 57) rfl (hb hby at_50) rfl ((if0 _ _).trans (teq hc50).1) (by decide) (by decide) ?_
        show Steps p.tables e below (T8.setTop (mkF m 57 #[.val (.long x0), .second, .val (.int x1), .val (.long x2), .second, .val (.int x3), .val (.int x4), .val (.long v4), .second, .val (.int v5), .val (.long (if (x4 &&& (1 : Int32)) = (0 : Int32) then (own_F1 (1 : Int64) v6) else v4)), .second, .val (.int (x3 &&& (2147483647 : Int32))), .unset, .unset, .unset, .unset] [])) _
        try simp only [if_pos hc50]
        exact Steps.refl _
      · refine XS.ifNo X8.here hx rfl (hb hby at_50) rfl ((if0 _ _).trans (feq hc50).1) ?_
        show Steps p.tables e below (T8.setTop (mkF m 53 #[.val (.long x0), .second, .val (.int x1), .val (.long x2), .second, .val (.int x3), .val (.int x4), .val (.long v4), .second, .val (.int v5), .val (.long (if (x4 &&& (1 : Int32)) = (0 : Int32) then (own_F1 (1 : Int64) v6) else v4)), .second, .val (.int (x3 &&& (2147483647 : Int32))), .unset, .unset, .unset, .unset] [])) _
        refine XS.iload X8.here hx rfl (hb hby at_53) rfl ?_
        show Steps p.tables e below (T8.setTop (mkF m 55 #[.val (.long x0), .second, .val (.int x1), .val (.long x2), .second, .val (.int x3), .val (.int x4), .val (.long v4), .second, .val (.int v5), .val (.long (if (x4 &&& (1 : Int32)) = (0 : Int32) then (own_F1 (1 : Int64) v6) else v4)), .second, .val (.int (x3 &&& (2147483647 : Int32))), .unset, .unset, .unset, .unset] [(.int v5)])) _
        refine XS.istore X8.here hx rfl (hb hby at_55) rfl (l' := #[.val (.long x0), .second, .val (.int x1), .val (.long x2), .second, .val (.int x3), .val (.int x4), .val (.long v4), .second, .val (.int v5), .val (.long (if (x4 &&& (1 : Int32)) = (0 : Int32) then (own_F1 (1 : Int64) v6) else v4)), .second, .val (.int v5), .unset, .unset, .unset, .unset]) rfl ?_
        show Steps p.tables e below (T8.setTop (mkF m 57 #[.val (.long x0), .second, .val (.int x1), .val (.long x2), .second, .val (.int x3), .val (.int x4), .val (.long v4), .second, .val (.int v5), .val (.long (if (x4 &&& (1 : Int32)) = (0 : Int32) then (own_F1 (1 : Int64) v6) else v4)), .second, .val (.int v5), .unset, .unset, .unset, .unset] [])) _
        try simp only [if_neg hc50]
        exact Steps.refl _
    show Steps p.tables e below (T8.setTop (mkF m 57 #[.val (.long x0), .second, .val (.int x1), .val (.long x2), .second, .val (.int x3), .val (.int x4), .val (.long v4), .second, .val (.int v5), .val (.long (if (x4 &&& (1 : Int32)) = (0 : Int32) then (own_F1 (1 : Int64) v6) else v4)), .second, .val (.int (if (x4 &&& (2 : Int32)) = (0 : Int32) then (x3 &&& (2147483647 : Int32)) else v5)), .unset, .unset, .unset, .unset] [])) _
    refine XS.lload X8.here hx rfl (hb hby at_57) rfl ?_
    show Steps p.tables e below (T8.setTop (mkF m 59 #[.val (.long x0), .second, .val (.int x1), .val (.long x2), .second, .val (.int x3), .val (.int x4), .val (.long v4), .second, .val (.int v5), .val (.long (if (x4 &&& (1 : Int32)) = (0 : Int32) then (own_F1 (1 : Int64) v6) else v4)), .second, .val (.int (if (x4 &&& (2 : Int32)) = (0 : Int32) then (x3 &&& (2147483647 : Int32)) else v5)), .unset, .unset, .unset, .unset] [(.long v4)])) _
    refine XS.iload X8.here hx rfl (hb hby at_59) rfl ?_
    show Steps p.tables e below (T8.setTop (mkF m 61 #[.val (.long x0), .second, .val (.int x1), .val (.long x2), .second, .val (.int x3), .val (.int x4), .val (.long v4), .second, .val (.int v5), .val (.long (if (x4 &&& (1 : Int32)) = (0 : Int32) then (own_F1 (1 : Int64) v6) else v4)), .second, .val (.int (if (x4 &&& (2 : Int32)) = (0 : Int32) then (x3 &&& (2147483647 : Int32)) else v5)), .unset, .unset, .unset, .unset] [(.int v5), (.long v4)])) _
    exact Steps.refl _
  have pre11 := pre8.trans st11
  have T1 : 1 ≤ v4.toInt := own_term hv4
  have T2' : 1 ≤ ((own_F1 (1 : Int64) v6)).toInt := own_term rfl
  have T2 : 1 ≤ v9.toInt := own_term2 T1 T2' hv9
  have I1 : 0 ≤ v5.toInt := own_nn hv5
  have I2' : 0 ≤ ((x3 &&& (2147483647 : Int32))).toInt := own_nn rfl
  have I2 : 0 ≤ v10.toInt := own_nn2 I1 I2' hv10
  obtain ⟨_, _, ⟨T12, L12, k12, n12⟩, -, X12, ⟨Lc12, hQ12, l12, y12, z12⟩, st12⟩ := Jvm.LawKit.callS X8 hx (y := (⟨"com/example/find_leader/findleader/election/Claim", "of", "(JI)Lcom/example/find_leader/findleader/election/Claim;"⟩ : MethodName)) hown (mvT hZ (hw _ (List.mem_of_getElem? (i := 6) rfl))) (mvT hZ (hw _ (List.mem_of_getElem? (i := 7) rfl))) (mvT hZ (hw _ (List.mem_of_getElem? (i := 8) rfl))) (mvT hZ (hw _ (List.mem_of_getElem? (i := 9) rfl))) (by decide) (backOf (W := 0) (rm4 l Z a0 hw [] v4 v5 h0 n0 Z0 (own_ge T1) (own_lt0 I1)) hZ (hw _ (List.mem_of_getElem? (i := 9) rfl)) (hw _ (List.mem_of_getElem? (i := 8) rfl)) (by decide) (by decide)) (g := (mkF m 61 #[.val (.long x0), .second, .val (.int x1), .val (.long x2), .second, .val (.int x3), .val (.int x4), .val (.long v4), .second, .val (.int v5), .val (.long v9), .second, .val (.int v10), .unset, .unset, .unset, .unset] [(.int v5), (.long v4)])) rfl (by rw [hml]; rfl) (argsL := [(.long v4), (.int v5)]) (rest := []) (lenOf pd0_1 rfl) rfl (by show 2 * 0 + _ ≤ _; exact Nat.le_of_eq rfl) (hb hby at_61) (fun _ _ => ⟨rfl, e8, (by decide : 0 + 1 ≤ _), (by decide : 0 + 2 ≤ _)⟩)
  dsimp only [Pt.U, Pt.locs, Pt.cells, Pt.slots] at X12 l12 y12 z12 st12 hQ12
  subst l12 y12 z12
  obtain ⟨b12, rfl, Nq12, Kq12, gf12, P12_0, P12_1, P12_2⟩ := hQ12
  have gn12 : n0 ≤ b12 := Nat.le_trans Z0 gf12
  have sz12 : h0.size ≤ b12 := Nat.le_trans K0.1 gf12
  have neaN_b12 : aN ≠ b12 := Nat.ne_of_lt (Nat.lt_of_lt_of_le B0.lt gf12)
  have F13 : Exa Z T12.heap aN "com/example/find_leader/findleader/election/Claim" := B0.keep Kq12
  have F14 : Fld Z T12.heap aN "com/example/find_leader/findleader/election/Claim" "term" "J" (.long (0 : Int64)) := B1.keep Kq12 nin0
  have KK12 := K0.trans Kq12 all0
  have Z12 : n0 ≤ T12.heap.size := Nat.le_trans Z0 Kq12.1
  have O12 := O0.keep Kq12 all0
  have N12 := Fr.app N8 Nq12
  have pre12 : Steps p.tables e below (s₁.setTop (entryFrame m #[(.long x0), (.int x1), (.long x2), (.int x3), (.int x4)] maxLocals)) (T12.setTop (mkF m 64 #[.val (.long x0), .second, .val (.int x1), .val (.long x2), .second, .val (.int x3), .val (.int x4), .val (.long v4), .second, .val (.int v5), .val (.long v9), .second, .val (.int v10), .unset, .unset, .unset, .unset] [(.ref b12)])) := pre11.trans (st12 _ (Steps.refl _))
  have st15 : Steps p.tables e below (T12.setTop (mkF m 64 #[.val (.long x0), .second, .val (.int x1), .val (.long x2), .second, .val (.int x3), .val (.int x4), .val (.long v4), .second, .val (.int v5), .val (.long v9), .second, .val (.int v10), .unset, .unset, .unset, .unset] [(.ref b12)])) (T12.setTop (mkF m 70 #[.val (.long x0), .second, .val (.int x1), .val (.long x2), .second, .val (.int x3), .val (.int x4), .val (.long v4), .second, .val (.int v5), .val (.long v9), .second, .val (.int v10), .val (.ref b12), .unset, .unset, .unset] [(.int v10), (.long v9)])) := by
    refine XS.astore X12.here hx rfl (hb hby at_64) rfl rfl (l' := #[.val (.long x0), .second, .val (.int x1), .val (.long x2), .second, .val (.int x3), .val (.int x4), .val (.long v4), .second, .val (.int v5), .val (.long v9), .second, .val (.int v10), .val (.ref b12), .unset, .unset, .unset]) rfl ?_
    show Steps p.tables e below (T12.setTop (mkF m 66 #[.val (.long x0), .second, .val (.int x1), .val (.long x2), .second, .val (.int x3), .val (.int x4), .val (.long v4), .second, .val (.int v5), .val (.long v9), .second, .val (.int v10), .val (.ref b12), .unset, .unset, .unset] [])) _
    refine XS.lload X12.here hx rfl (hb hby at_66) rfl ?_
    show Steps p.tables e below (T12.setTop (mkF m 68 #[.val (.long x0), .second, .val (.int x1), .val (.long x2), .second, .val (.int x3), .val (.int x4), .val (.long v4), .second, .val (.int v5), .val (.long v9), .second, .val (.int v10), .val (.ref b12), .unset, .unset, .unset] [(.long v9)])) _
    refine XS.iload X12.here hx rfl (hb hby at_68) rfl ?_
    show Steps p.tables e below (T12.setTop (mkF m 70 #[.val (.long x0), .second, .val (.int x1), .val (.long x2), .second, .val (.int x3), .val (.int x4), .val (.long v4), .second, .val (.int v5), .val (.long v9), .second, .val (.int v10), .val (.ref b12), .unset, .unset, .unset] [(.int v10), (.long v9)])) _
    exact Steps.refl _
  have pre15 := pre12.trans st15
  obtain ⟨_, _, ⟨T16, L16, k16, n16⟩, -, X16, ⟨Lc16, hQ16, l16, y16, z16⟩, st16⟩ := Jvm.LawKit.callS X12 hx (y := (⟨"com/example/find_leader/findleader/election/Claim", "of", "(JI)Lcom/example/find_leader/findleader/election/Claim;"⟩ : MethodName)) hown (mvT hZ (hw _ (List.mem_of_getElem? (i := 6) rfl))) (mvT hZ (hw _ (List.mem_of_getElem? (i := 7) rfl))) (mvT hZ (hw _ (List.mem_of_getElem? (i := 8) rfl))) (mvT hZ (hw _ (List.mem_of_getElem? (i := 9) rfl))) (by decide) (backOf (W := 0) (rm4 l Z a0 hw [] v9 v10 T12.heap n0 Z12 (own_ge T2) (own_lt0 I2)) hZ (hw _ (List.mem_of_getElem? (i := 9) rfl)) (hw _ (List.mem_of_getElem? (i := 8) rfl)) (by decide) (by decide)) (g := (mkF m 70 #[.val (.long x0), .second, .val (.int x1), .val (.long x2), .second, .val (.int x3), .val (.int x4), .val (.long v4), .second, .val (.int v5), .val (.long v9), .second, .val (.int v10), .val (.ref b12), .unset, .unset, .unset] [(.int v10), (.long v9)])) rfl (by rw [hml]; rfl) (argsL := [(.long v9), (.int v10)]) (rest := []) (lenOf pd0_1 rfl) rfl (by show 2 * 0 + _ ≤ _; exact Nat.le_of_eq rfl) (hb hby at_70) (fun _ _ => ⟨rfl, rfl, (by decide : 1 + 1 ≤ _), (by decide : 2 + 2 ≤ _)⟩)
  dsimp only [Pt.U, Pt.locs, Pt.cells, Pt.slots] at X16 l16 y16 z16 st16 hQ16
  subst l16 y16 z16
  obtain ⟨b16, rfl, Nq16, Kq16, gf16, P16_0, P16_1, P16_2⟩ := hQ16
  have gn16 : n0 ≤ b16 := Nat.le_trans Z12 gf16
  have sz16 : h0.size ≤ b16 := Nat.le_trans KK12.1 gf16
  have neaN_b16 : aN ≠ b16 := Nat.ne_of_lt (Nat.lt_of_lt_of_le F13.lt gf16)
  have neb12_b16 : b12 ≠ b16 := Nat.ne_of_lt (Nat.lt_of_lt_of_le P12_0.lt gf16)
  have F17 : Exa Z T16.heap aN "com/example/find_leader/findleader/election/Claim" := F13.keep Kq16
  have F18 : Fld Z T16.heap aN "com/example/find_leader/findleader/election/Claim" "term" "J" (.long (0 : Int64)) := F14.keep Kq16 nin0
  have F19 : Exa Z T16.heap b12 "com/example/find_leader/findleader/election/Claim" := P12_0.keep Kq16
  have F20 : Fld Z T16.heap b12 "com/example/find_leader/findleader/election/Claim" "term" "J" (.long v4) := P12_1.keep Kq16 nin0
  have F21 : Fld Z T16.heap b12 "com/example/find_leader/findleader/election/Claim" "id" "I" (.int (own_F2 v5)) := P12_2.keep Kq16 nin0
  have KK16 := KK12.trans Kq16 all0
  have Z16 : n0 ≤ T16.heap.size := Nat.le_trans Z12 Kq16.1
  have O16 := O12.keep Kq16 all0
  have N16 := Fr.app N12 Nq16
  have pre16 : Steps p.tables e below (s₁.setTop (entryFrame m #[(.long x0), (.int x1), (.long x2), (.int x3), (.int x4)] maxLocals)) (T16.setTop (mkF m 73 #[.val (.long x0), .second, .val (.int x1), .val (.long x2), .second, .val (.int x3), .val (.int x4), .val (.long v4), .second, .val (.int v5), .val (.long v9), .second, .val (.int v10), .val (.ref b12), .unset, .unset, .unset] [(.ref b16)])) := pre15.trans (st16 _ (Steps.refl _))
  obtain ⟨v22, hv22⟩ : ∃ z : Int32, z = (if v4 < v9 then (-1 : Int32) else (if v9 < v4 then (1 : Int32) else (if v5 < v10 then (-1 : Int32) else (if v10 < v5 then (1 : Int32) else (0 : Int32))))) := ⟨_, rfl⟩
  have st23 : Steps p.tables e below (T16.setTop (mkF m 73 #[.val (.long x0), .second, .val (.int x1), .val (.long x2), .second, .val (.int x3), .val (.int x4), .val (.long v4), .second, .val (.int v5), .val (.long v9), .second, .val (.int v10), .val (.ref b12), .unset, .unset, .unset] [(.ref b16)])) (T16.setTop (mkF m 134 #[.val (.long x0), .second, .val (.int x1), .val (.long x2), .second, .val (.int x3), .val (.int x4), .val (.long v4), .second, .val (.int v5), .val (.long v9), .second, .val (.int v10), .val (.ref b12), .val (.ref b16), .val (.int v22), .unset] [(.ref b12)])) := by
    subst v22
    refine XS.astore X16.here hx rfl (hb hby at_73) rfl rfl (l' := #[.val (.long x0), .second, .val (.int x1), .val (.long x2), .second, .val (.int x3), .val (.int x4), .val (.long v4), .second, .val (.int v5), .val (.long v9), .second, .val (.int v10), .val (.ref b12), .val (.ref b16), .unset, .unset]) rfl ?_
    show Steps p.tables e below (T16.setTop (mkF m 75 #[.val (.long x0), .second, .val (.int x1), .val (.long x2), .second, .val (.int x3), .val (.int x4), .val (.long v4), .second, .val (.int v5), .val (.long v9), .second, .val (.int v10), .val (.ref b12), .val (.ref b16), .unset, .unset] [])) _
    refine XS.lload X16.here hx rfl (hb hby at_75) rfl ?_
    show Steps p.tables e below (T16.setTop (mkF m 77 #[.val (.long x0), .second, .val (.int x1), .val (.long x2), .second, .val (.int x3), .val (.int x4), .val (.long v4), .second, .val (.int v5), .val (.long v9), .second, .val (.int v10), .val (.ref b12), .val (.ref b16), .unset, .unset] [(.long v4)])) _
    refine XS.lload X16.here hx rfl (hb hby at_77) rfl ?_
    show Steps p.tables e below (T16.setTop (mkF m 79 #[.val (.long x0), .second, .val (.int x1), .val (.long x2), .second, .val (.int x3), .val (.int x4), .val (.long v4), .second, .val (.int v5), .val (.long v9), .second, .val (.int v10), .val (.ref b12), .val (.ref b16), .unset, .unset] [(.long v9), (.long v4)])) _
    refine XS.lcmp X16.here hx rfl (hb hby at_79) rfl ?_
    show Steps p.tables e below (T16.setTop (mkF m 80 #[.val (.long x0), .second, .val (.int x1), .val (.long x2), .second, .val (.int x3), .val (.int x4), .val (.long v4), .second, .val (.int v5), .val (.long v9), .second, .val (.int v10), .val (.ref b12), .val (.ref b16), .unset, .unset] [(.int (lcmpW v4 v9))])) _
    refine Steps.trans (s₂ := T16.setTop (mkF m 132 #[.val (.long x0), .second, .val (.int x1), .val (.long x2), .second, .val (.int x3), .val (.int x4), .val (.long v4), .second, .val (.int v5), .val (.long v9), .second, .val (.int v10), .val (.ref b12), .val (.ref b16), .val (.int (if v4 < v9 then (-1 : Int32) else (if v9 < v4 then (1 : Int32) else (if v5 < v10 then (-1 : Int32) else (if v10 < v5 then (1 : Int32) else (0 : Int32)))))), .unset] [])) ?_ ?_
    · by_cases hc80 : v4 < v9
      · refine XS.ifNo X16.here hx rfl (hb hby at_80) rfl ((if0 _ _).trans (tlt ((lw_lt v4 v9).mpr hc80)).2.1) ?_
        show Steps p.tables e below (T16.setTop (mkF m 83 #[.val (.long x0), .second, .val (.int x1), .val (.long x2), .second, .val (.int x3), .val (.int x4), .val (.long v4), .second, .val (.int v5), .val (.long v9), .second, .val (.int v10), .val (.ref b12), .val (.ref b16), .unset, .unset] [])) _
        refine XS.iconst X16.here hx rfl (hb hby at_83) ?_
        show Steps p.tables e below (T16.setTop (mkF m 84 #[.val (.long x0), .second, .val (.int x1), .val (.long x2), .second, .val (.int x3), .val (.int x4), .val (.long v4), .second, .val (.int v5), .val (.long v9), .second, .val (.int v10), .val (.ref b12), .val (.ref b16), .unset, .unset] [(.int (-1 : Int32))])) _
        refine XS.istore X16.here hx rfl (hb hby at_84) rfl (l' := #[.val (.long x0), .second, .val (.int x1), .val (.long x2), .second, .val (.int x3), .val (.int x4), .val (.long v4), .second, .val (.int v5), .val (.long v9), .second, .val (.int v10), .val (.ref b12), .val (.ref b16), .val (.int (-1 : Int32)), .unset]) rfl ?_
        show Steps p.tables e below (T16.setTop (mkF m 86 #[.val (.long x0), .second, .val (.int x1), .val (.long x2), .second, .val (.int x3), .val (.int x4), .val (.long v4), .second, .val (.int v5), .val (.long v9), .second, .val (.int v10), .val (.ref b12), .val (.ref b16), .val (.int (-1 : Int32)), .unset] [])) _
        refine XS.goto X16.here hx rfl (pc0 := 86) (pc' := 132) rfl (hb hby at_86) (by decide) (by decide) ?_
        show Steps p.tables e below (T16.setTop (mkF m 132 #[.val (.long x0), .second, .val (.int x1), .val (.long x2), .second, .val (.int x3), .val (.int x4), .val (.long v4), .second, .val (.int v5), .val (.long v9), .second, .val (.int v10), .val (.ref b12), .val (.ref b16), .val (.int (-1 : Int32)), .unset] [])) _
        try simp only [if_pos hc80]
        exact Steps.refl _
      · refine XS.ifYes X16.here hx rfl (pc0 := 80) (pc' := 89) rfl (hb hby at_80) rfl ((if0 _ _).trans (flt (fun q => hc80 ((lw_lt v4 v9).mp q))).2.1) (by decide) (by decide) ?_
        show Steps p.tables e below (T16.setTop (mkF m 89 #[.val (.long x0), .second, .val (.int x1), .val (.long x2), .second, .val (.int x3), .val (.int x4), .val (.long v4), .second, .val (.int v5), .val (.long v9), .second, .val (.int v10), .val (.ref b12), .val (.ref b16), .unset, .unset] [])) _
        refine XS.lload X16.here hx rfl (hb hby at_89) rfl ?_
        show Steps p.tables e below (T16.setTop (mkF m 91 #[.val (.long x0), .second, .val (.int x1), .val (.long x2), .second, .val (.int x3), .val (.int x4), .val (.long v4), .second, .val (.int v5), .val (.long v9), .second, .val (.int v10), .val (.ref b12), .val (.ref b16), .unset, .unset] [(.long v4)])) _
        refine XS.lload X16.here hx rfl (hb hby at_91) rfl ?_
        show Steps p.tables e below (T16.setTop (mkF m 93 #[.val (.long x0), .second, .val (.int x1), .val (.long x2), .second, .val (.int x3), .val (.int x4), .val (.long v4), .second, .val (.int v5), .val (.long v9), .second, .val (.int v10), .val (.ref b12), .val (.ref b16), .unset, .unset] [(.long v9), (.long v4)])) _
        refine XS.lcmp X16.here hx rfl (hb hby at_93) rfl ?_
        show Steps p.tables e below (T16.setTop (mkF m 94 #[.val (.long x0), .second, .val (.int x1), .val (.long x2), .second, .val (.int x3), .val (.int x4), .val (.long v4), .second, .val (.int v5), .val (.long v9), .second, .val (.int v10), .val (.ref b12), .val (.ref b16), .unset, .unset] [(.int (lcmpW v4 v9))])) _
        refine Steps.trans (s₂ := T16.setTop (mkF m 132 #[.val (.long x0), .second, .val (.int x1), .val (.long x2), .second, .val (.int x3), .val (.int x4), .val (.long v4), .second, .val (.int v5), .val (.long v9), .second, .val (.int v10), .val (.ref b12), .val (.ref b16), .val (.int (if v9 < v4 then (1 : Int32) else (if v5 < v10 then (-1 : Int32) else (if v10 < v5 then (1 : Int32) else (0 : Int32))))), .unset] [])) ?_ ?_
        · by_cases hc94 : v9 < v4
          · refine XS.ifNo X16.here hx rfl (hb hby at_94) rfl ((if0 _ _).trans (tlt ((lw_gt v4 v9).mpr hc94)).2.2.2) ?_
            show Steps p.tables e below (T16.setTop (mkF m 97 #[.val (.long x0), .second, .val (.int x1), .val (.long x2), .second, .val (.int x3), .val (.int x4), .val (.long v4), .second, .val (.int v5), .val (.long v9), .second, .val (.int v10), .val (.ref b12), .val (.ref b16), .unset, .unset] [])) _
            refine XS.iconst X16.here hx rfl (hb hby at_97) ?_
            show Steps p.tables e below (T16.setTop (mkF m 98 #[.val (.long x0), .second, .val (.int x1), .val (.long x2), .second, .val (.int x3), .val (.int x4), .val (.long v4), .second, .val (.int v5), .val (.long v9), .second, .val (.int v10), .val (.ref b12), .val (.ref b16), .unset, .unset] [(.int (1 : Int32))])) _
            refine XS.istore X16.here hx rfl (hb hby at_98) rfl (l' := #[.val (.long x0), .second, .val (.int x1), .val (.long x2), .second, .val (.int x3), .val (.int x4), .val (.long v4), .second, .val (.int v5), .val (.long v9), .second, .val (.int v10), .val (.ref b12), .val (.ref b16), .val (.int (1 : Int32)), .unset]) rfl ?_
            show Steps p.tables e below (T16.setTop (mkF m 100 #[.val (.long x0), .second, .val (.int x1), .val (.long x2), .second, .val (.int x3), .val (.int x4), .val (.long v4), .second, .val (.int v5), .val (.long v9), .second, .val (.int v10), .val (.ref b12), .val (.ref b16), .val (.int (1 : Int32)), .unset] [])) _
            refine XS.goto X16.here hx rfl (pc0 := 100) (pc' := 132) rfl (hb hby at_100) (by decide) (by decide) ?_
            show Steps p.tables e below (T16.setTop (mkF m 132 #[.val (.long x0), .second, .val (.int x1), .val (.long x2), .second, .val (.int x3), .val (.int x4), .val (.long v4), .second, .val (.int v5), .val (.long v9), .second, .val (.int v10), .val (.ref b12), .val (.ref b16), .val (.int (1 : Int32)), .unset] [])) _
            try simp only [if_pos hc94]
            exact Steps.refl _
          · refine XS.ifYes X16.here hx rfl (pc0 := 94) (pc' := 103) rfl (hb hby at_94) rfl ((if0 _ _).trans (flt (fun q => hc94 ((lw_gt v4 v9).mp q))).2.2.2) (by decide) (by decide) ?_
            show Steps p.tables e below (T16.setTop (mkF m 103 #[.val (.long x0), .second, .val (.int x1), .val (.long x2), .second, .val (.int x3), .val (.int x4), .val (.long v4), .second, .val (.int v5), .val (.long v9), .second, .val (.int v10), .val (.ref b12), .val (.ref b16), .unset, .unset] [])) _
            refine XS.iload X16.here hx rfl (hb hby at_103) rfl ?_
            show Steps p.tables e below (T16.setTop (mkF m 105 #[.val (.long x0), .second, .val (.int x1), .val (.long x2), .second, .val (.int x3), .val (.int x4), .val (.long v4), .second, .val (.int v5), .val (.long v9), .second, .val (.int v10), .val (.ref b12), .val (.ref b16), .unset, .unset] [(.int v5)])) _
            refine XS.iload X16.here hx rfl (hb hby at_105) rfl ?_
            show Steps p.tables e below (T16.setTop (mkF m 107 #[.val (.long x0), .second, .val (.int x1), .val (.long x2), .second, .val (.int x3), .val (.int x4), .val (.long v4), .second, .val (.int v5), .val (.long v9), .second, .val (.int v10), .val (.ref b12), .val (.ref b16), .unset, .unset] [(.int v10), (.int v5)])) _
            refine Steps.trans (s₂ := T16.setTop (mkF m 132 #[.val (.long x0), .second, .val (.int x1), .val (.long x2), .second, .val (.int x3), .val (.int x4), .val (.long v4), .second, .val (.int v5), .val (.long v9), .second, .val (.int v10), .val (.ref b12), .val (.ref b16), .val (.int (if v5 < v10 then (-1 : Int32) else (if v10 < v5 then (1 : Int32) else (0 : Int32)))), .unset] [])) ?_ ?_
            · by_cases hc107 : v5 < v10
              · refine XS.icmpNo X16.here hx rfl (hb hby at_107) rfl (tlt hc107).2.1 ?_
                show Steps p.tables e below (T16.setTop (mkF m 110 #[.val (.long x0), .second, .val (.int x1), .val (.long x2), .second, .val (.int x3), .val (.int x4), .val (.long v4), .second, .val (.int v5), .val (.long v9), .second, .val (.int v10), .val (.ref b12), .val (.ref b16), .unset, .unset] [])) _
                refine XS.iconst X16.here hx rfl (hb hby at_110) ?_
                show Steps p.tables e below (T16.setTop (mkF m 111 #[.val (.long x0), .second, .val (.int x1), .val (.long x2), .second, .val (.int x3), .val (.int x4), .val (.long v4), .second, .val (.int v5), .val (.long v9), .second, .val (.int v10), .val (.ref b12), .val (.ref b16), .unset, .unset] [(.int (-1 : Int32))])) _
                refine XS.istore X16.here hx rfl (hb hby at_111) rfl (l' := #[.val (.long x0), .second, .val (.int x1), .val (.long x2), .second, .val (.int x3), .val (.int x4), .val (.long v4), .second, .val (.int v5), .val (.long v9), .second, .val (.int v10), .val (.ref b12), .val (.ref b16), .val (.int (-1 : Int32)), .unset]) rfl ?_
                show Steps p.tables e below (T16.setTop (mkF m 113 #[.val (.long x0), .second, .val (.int x1), .val (.long x2), .second, .val (.int x3), .val (.int x4), .val (.long v4), .second, .val (.int v5), .val (.long v9), .second, .val (.int v10), .val (.ref b12), .val (.ref b16), .val (.int (-1 : Int32)), .unset] [])) _
                refine XS.goto X16.here hx rfl (pc0 := 113) (pc' := 132) rfl (hb hby at_113) (by decide) (by decide) ?_
                show Steps p.tables e below (T16.setTop (mkF m 132 #[.val (.long x0), .second, .val (.int x1), .val (.long x2), .second, .val (.int x3), .val (.int x4), .val (.long v4), .second, .val (.int v5), .val (.long v9), .second, .val (.int v10), .val (.ref b12), .val (.ref b16), .val (.int (-1 : Int32)), .unset] [])) _
                try simp only [if_pos hc107]
                exact Steps.refl _
              · refine XS.icmpYes X16.here hx rfl (pc0 := 107) (pc' := 116) rfl (hb hby at_107) rfl (flt hc107).2.1 (by decide) (by decide) ?_
                show Steps p.tables e below (T16.setTop (mkF m 116 #[.val (.long x0), .second, .val (.int x1), .val (.long x2), .second, .val (.int x3), .val (.int x4), .val (.long v4), .second, .val (.int v5), .val (.long v9), .second, .val (.int v10), .val (.ref b12), .val (.ref b16), .unset, .unset] [])) _
                refine XS.iload X16.here hx rfl (hb hby at_116) rfl ?_
                show Steps p.tables e below (T16.setTop (mkF m 118 #[.val (.long x0), .second, .val (.int x1), .val (.long x2), .second, .val (.int x3), .val (.int x4), .val (.long v4), .second, .val (.int v5), .val (.long v9), .second, .val (.int v10), .val (.ref b12), .val (.ref b16), .unset, .unset] [(.int v5)])) _
                refine XS.iload X16.here hx rfl (hb hby at_118) rfl ?_
                show Steps p.tables e below (T16.setTop (mkF m 120 #[.val (.long x0), .second, .val (.int x1), .val (.long x2), .second, .val (.int x3), .val (.int x4), .val (.long v4), .second, .val (.int v5), .val (.long v9), .second, .val (.int v10), .val (.ref b12), .val (.ref b16), .unset, .unset] [(.int v10), (.int v5)])) _
                refine Steps.trans (s₂ := T16.setTop (mkF m 132 #[.val (.long x0), .second, .val (.int x1), .val (.long x2), .second, .val (.int x3), .val (.int x4), .val (.long v4), .second, .val (.int v5), .val (.long v9), .second, .val (.int v10), .val (.ref b12), .val (.ref b16), .val (.int (if v10 < v5 then (1 : Int32) else (0 : Int32))), .unset] [])) ?_ ?_
                · by_cases hc120 : v10 < v5
                  · refine XS.icmpNo X16.here hx rfl (hb hby at_120) rfl (tlt hc120).2.2.2 ?_
                    show Steps p.tables e below (T16.setTop (mkF m 123 #[.val (.long x0), .second, .val (.int x1), .val (.long x2), .second, .val (.int x3), .val (.int x4), .val (.long v4), .second, .val (.int v5), .val (.long v9), .second, .val (.int v10), .val (.ref b12), .val (.ref b16), .unset, .unset] [])) _
                    refine XS.iconst X16.here hx rfl (hb hby at_123) ?_
                    show Steps p.tables e below (T16.setTop (mkF m 124 #[.val (.long x0), .second, .val (.int x1), .val (.long x2), .second, .val (.int x3), .val (.int x4), .val (.long v4), .second, .val (.int v5), .val (.long v9), .second, .val (.int v10), .val (.ref b12), .val (.ref b16), .unset, .unset] [(.int (1 : Int32))])) _
                    refine XS.istore X16.here hx rfl (hb hby at_124) rfl (l' := #[.val (.long x0), .second, .val (.int x1), .val (.long x2), .second, .val (.int x3), .val (.int x4), .val (.long v4), .second, .val (.int v5), .val (.long v9), .second, .val (.int v10), .val (.ref b12), .val (.ref b16), .val (.int (1 : Int32)), .unset]) rfl ?_
                    show Steps p.tables e below (T16.setTop (mkF m 126 #[.val (.long x0), .second, .val (.int x1), .val (.long x2), .second, .val (.int x3), .val (.int x4), .val (.long v4), .second, .val (.int v5), .val (.long v9), .second, .val (.int v10), .val (.ref b12), .val (.ref b16), .val (.int (1 : Int32)), .unset] [])) _
                    refine XS.goto X16.here hx rfl (pc0 := 126) (pc' := 132) rfl (hb hby at_126) (by decide) (by decide) ?_
                    show Steps p.tables e below (T16.setTop (mkF m 132 #[.val (.long x0), .second, .val (.int x1), .val (.long x2), .second, .val (.int x3), .val (.int x4), .val (.long v4), .second, .val (.int v5), .val (.long v9), .second, .val (.int v10), .val (.ref b12), .val (.ref b16), .val (.int (1 : Int32)), .unset] [])) _
                    try simp only [if_pos hc120]
                    exact Steps.refl _
                  · refine XS.icmpYes X16.here hx rfl (pc0 := 120) (pc' := 129) rfl (hb hby at_120) rfl (flt hc120).2.2.2 (by decide) (by decide) ?_
                    show Steps p.tables e below (T16.setTop (mkF m 129 #[.val (.long x0), .second, .val (.int x1), .val (.long x2), .second, .val (.int x3), .val (.int x4), .val (.long v4), .second, .val (.int v5), .val (.long v9), .second, .val (.int v10), .val (.ref b12), .val (.ref b16), .unset, .unset] [])) _
                    refine XS.iconst X16.here hx rfl (hb hby at_129) ?_
                    show Steps p.tables e below (T16.setTop (mkF m 130 #[.val (.long x0), .second, .val (.int x1), .val (.long x2), .second, .val (.int x3), .val (.int x4), .val (.long v4), .second, .val (.int v5), .val (.long v9), .second, .val (.int v10), .val (.ref b12), .val (.ref b16), .unset, .unset] [(.int (0 : Int32))])) _
                    refine XS.istore X16.here hx rfl (hb hby at_130) rfl (l' := #[.val (.long x0), .second, .val (.int x1), .val (.long x2), .second, .val (.int x3), .val (.int x4), .val (.long v4), .second, .val (.int v5), .val (.long v9), .second, .val (.int v10), .val (.ref b12), .val (.ref b16), .val (.int (0 : Int32)), .unset]) rfl ?_
                    show Steps p.tables e below (T16.setTop (mkF m 132 #[.val (.long x0), .second, .val (.int x1), .val (.long x2), .second, .val (.int x3), .val (.int x4), .val (.long v4), .second, .val (.int v5), .val (.long v9), .second, .val (.int v10), .val (.ref b12), .val (.ref b16), .val (.int (0 : Int32)), .unset] [])) _
                    try simp only [if_neg hc120]
                    exact Steps.refl _
                show Steps p.tables e below (T16.setTop (mkF m 132 #[.val (.long x0), .second, .val (.int x1), .val (.long x2), .second, .val (.int x3), .val (.int x4), .val (.long v4), .second, .val (.int v5), .val (.long v9), .second, .val (.int v10), .val (.ref b12), .val (.ref b16), .val (.int (if v10 < v5 then (1 : Int32) else (0 : Int32))), .unset] [])) _
                try simp only [if_neg hc107]
                exact Steps.refl _
            show Steps p.tables e below (T16.setTop (mkF m 132 #[.val (.long x0), .second, .val (.int x1), .val (.long x2), .second, .val (.int x3), .val (.int x4), .val (.long v4), .second, .val (.int v5), .val (.long v9), .second, .val (.int v10), .val (.ref b12), .val (.ref b16), .val (.int (if v5 < v10 then (-1 : Int32) else (if v10 < v5 then (1 : Int32) else (0 : Int32)))), .unset] [])) _
            try simp only [if_neg hc94]
            exact Steps.refl _
        show Steps p.tables e below (T16.setTop (mkF m 132 #[.val (.long x0), .second, .val (.int x1), .val (.long x2), .second, .val (.int x3), .val (.int x4), .val (.long v4), .second, .val (.int v5), .val (.long v9), .second, .val (.int v10), .val (.ref b12), .val (.ref b16), .val (.int (if v9 < v4 then (1 : Int32) else (if v5 < v10 then (-1 : Int32) else (if v10 < v5 then (1 : Int32) else (0 : Int32))))), .unset] [])) _
        try simp only [if_neg hc80]
        exact Steps.refl _
    show Steps p.tables e below (T16.setTop (mkF m 132 #[.val (.long x0), .second, .val (.int x1), .val (.long x2), .second, .val (.int x3), .val (.int x4), .val (.long v4), .second, .val (.int v5), .val (.long v9), .second, .val (.int v10), .val (.ref b12), .val (.ref b16), .val (.int (if v4 < v9 then (-1 : Int32) else (if v9 < v4 then (1 : Int32) else (if v5 < v10 then (-1 : Int32) else (if v10 < v5 then (1 : Int32) else (0 : Int32)))))), .unset] [])) _
    refine XS.aload X16.here hx rfl (hb hby at_132) rfl rfl ?_
    show Steps p.tables e below (T16.setTop (mkF m 134 #[.val (.long x0), .second, .val (.int x1), .val (.long x2), .second, .val (.int x3), .val (.int x4), .val (.long v4), .second, .val (.int v5), .val (.long v9), .second, .val (.int v10), .val (.ref b12), .val (.ref b16), .val (.int (if v4 < v9 then (-1 : Int32) else (if v9 < v4 then (1 : Int32) else (if v5 < v10 then (-1 : Int32) else (if v10 < v5 then (1 : Int32) else (0 : Int32)))))), .unset] [(.ref b12)])) _
    exact Steps.refl _
  have pre23 := pre16.trans st23
  obtain ⟨cq24, kq24, q24a, q24b, q24c⟩ := isOf hZ rfl F19
  obtain ⟨_, _, ⟨T24, L24, k24, n24⟩, -, X24, ⟨Lc24, hQ24, l24, y24, z24⟩, st24⟩ := X16.virtualBack hx (y := (⟨"com/example/find_leader/findleader/election/Claim", "getTerm", "()J"⟩ : MethodName)) (z := (⟨"com/example/find_leader/findleader/election/Claim", "getTerm", "()J"⟩ : MethodName)) hown (mvT hZ (hw _ (List.mem_of_getElem? (i := 26) rfl))) (mvT hZ (hw _ (List.mem_of_getElem? (i := 27) rfl))) (notFace_of_selects (args := #[]) (mvT hZ (hw _ (List.mem_of_getElem? (i := 29) rfl)))) (mvT hZ (hw _ (List.mem_of_getElem? (i := 29) rfl))) (mvT hZ (hw _ (List.mem_of_getElem? (i := 28) rfl))) (by decide) (backOf (W := 0) (rm6 l Z a0 hw [] b12 v4 T16.heap n0 Z16 F20) hZ (hw _ (List.mem_of_getElem? (i := 30) rfl)) (hw _ (List.mem_of_getElem? (i := 8) rfl)) (by decide) (by decide)) q24a q24c (g := (mkF m 134 #[.val (.long x0), .second, .val (.int x1), .val (.long x2), .second, .val (.int x3), .val (.int x4), .val (.long v4), .second, .val (.int v5), .val (.long v9), .second, .val (.int v10), .val (.ref b12), .val (.ref b16), .val (.int v22), .unset] [(.ref b12)])) rfl (by rw [hml]; rfl) (Steps.refl _) (argsL := []) (rest := []) (lenOf pd0_2 rfl) rfl (by show 2 * 0 + _ ≤ _; exact Nat.le_of_eq rfl) (hb hby at_134) (fun _ _ => ⟨rfl, rfl, (by decide : 2 + 0 ≤ _), (by decide : 4 + 0 ≤ _)⟩)
  dsimp only [Pt.U, Pt.locs, Pt.cells, Pt.slots] at X24 l24 y24 z24 st24 hQ24
  subst l24 y24 z24
  obtain ⟨rfl, Nq24, e24⟩ := hQ24
  have N24 := Fr.app N16 Nq24
  have pre24 : Steps p.tables e below (s₁.setTop (entryFrame m #[(.long x0), (.int x1), (.long x2), (.int x3), (.int x4)] maxLocals)) (T24.setTop (mkF m 137 #[.val (.long x0), .second, .val (.int x1), .val (.long x2), .second, .val (.int x3), .val (.int x4), .val (.long v4), .second, .val (.int v5), .val (.long v9), .second, .val (.int v10), .val (.ref b12), .val (.ref b16), .val (.int v22), .unset] [(.long (own_F6 b12 v4))])) := pre23.trans st24
  have st25 : Steps p.tables e below (T24.setTop (mkF m 137 #[.val (.long x0), .second, .val (.int x1), .val (.long x2), .second, .val (.int x3), .val (.int x4), .val (.long v4), .second, .val (.int v5), .val (.long v9), .second, .val (.int v10), .val (.ref b12), .val (.ref b16), .val (.int v22), .unset] [(.long (own_F6 b12 v4))])) (T24.setTop (mkF m 140 #[.val (.long x0), .second, .val (.int x1), .val (.long x2), .second, .val (.int x3), .val (.int x4), .val (.long v4), .second, .val (.int v5), .val (.long v9), .second, .val (.int v10), .val (.ref b12), .val (.ref b16), .val (.int v22), .unset] [(.int (lcmpW (own_F6 b12 v4) v4))])) := by
    refine XS.lload X24.here hx rfl (hb hby at_137) rfl ?_
    show Steps p.tables e below (T24.setTop (mkF m 139 #[.val (.long x0), .second, .val (.int x1), .val (.long x2), .second, .val (.int x3), .val (.int x4), .val (.long v4), .second, .val (.int v5), .val (.long v9), .second, .val (.int v10), .val (.ref b12), .val (.ref b16), .val (.int v22), .unset] [(.long v4), (.long (own_F6 b12 v4))])) _
    refine XS.lcmp X24.here hx rfl (hb hby at_139) rfl ?_
    show Steps p.tables e below (T24.setTop (mkF m 140 #[.val (.long x0), .second, .val (.int x1), .val (.long x2), .second, .val (.int x3), .val (.int x4), .val (.long v4), .second, .val (.int v5), .val (.long v9), .second, .val (.int v10), .val (.ref b12), .val (.ref b16), .val (.int v22), .unset] [(.int (lcmpW (own_F6 b12 v4) v4))])) _
    exact Steps.refl _
  have pre25 := pre24.trans st25
  have hc140 : (own_F6 b12 v4) = v4 := by
    rfl
  have st26 : Steps p.tables e below (T24.setTop (mkF m 140 #[.val (.long x0), .second, .val (.int x1), .val (.long x2), .second, .val (.int x3), .val (.int x4), .val (.long v4), .second, .val (.int v5), .val (.long v9), .second, .val (.int v10), .val (.ref b12), .val (.ref b16), .val (.int v22), .unset] [(.int (lcmpW (own_F6 b12 v4) v4))])) (T24.setTop (mkF m 143 #[.val (.long x0), .second, .val (.int x1), .val (.long x2), .second, .val (.int x3), .val (.int x4), .val (.long v4), .second, .val (.int v5), .val (.long v9), .second, .val (.int v10), .val (.ref b12), .val (.ref b16), .val (.int v22), .unset] [])) := by
    refine XS.ifNo X24.here hx rfl (hb hby at_140) rfl ((if0 _ _).trans (teq ((lw_eq (own_F6 b12 v4) v4).mpr hc140)).2) ?_
    exact Steps.refl _
  have pre26 := pre25.trans st26
  have st27 : Steps p.tables e below (T24.setTop (mkF m 143 #[.val (.long x0), .second, .val (.int x1), .val (.long x2), .second, .val (.int x3), .val (.int x4), .val (.long v4), .second, .val (.int v5), .val (.long v9), .second, .val (.int v10), .val (.ref b12), .val (.ref b16), .val (.int v22), .unset] [])) (T24.setTop (mkF m 157 #[.val (.long x0), .second, .val (.int x1), .val (.long x2), .second, .val (.int x3), .val (.int x4), .val (.long v4), .second, .val (.int v5), .val (.long v9), .second, .val (.int v10), .val (.ref b12), .val (.ref b16), .val (.int v22), .val (.int (1 : Int32))] [(.ref b12)])) := by
    refine XS.iconst X24.here hx rfl (hb hby at_143) ?_
    show Steps p.tables e below (T24.setTop (mkF m 144 #[.val (.long x0), .second, .val (.int x1), .val (.long x2), .second, .val (.int x3), .val (.int x4), .val (.long v4), .second, .val (.int v5), .val (.long v9), .second, .val (.int v10), .val (.ref b12), .val (.ref b16), .val (.int v22), .unset] [(.int (1 : Int32))])) _
    refine XS.goto X24.here hx rfl (pc0 := 144) (pc' := 148) rfl (hb hby at_144) (by decide) (by decide) ?_
    show Steps p.tables e below (T24.setTop (mkF m 148 #[.val (.long x0), .second, .val (.int x1), .val (.long x2), .second, .val (.int x3), .val (.int x4), .val (.long v4), .second, .val (.int v5), .val (.long v9), .second, .val (.int v10), .val (.ref b12), .val (.ref b16), .val (.int v22), .unset] [(.int (1 : Int32))])) _
    refine XS.istore X24.here hx rfl (hb hby at_148) rfl (l' := #[.val (.long x0), .second, .val (.int x1), .val (.long x2), .second, .val (.int x3), .val (.int x4), .val (.long v4), .second, .val (.int v5), .val (.long v9), .second, .val (.int v10), .val (.ref b12), .val (.ref b16), .val (.int v22), .val (.int (1 : Int32))]) rfl ?_
    show Steps p.tables e below (T24.setTop (mkF m 150 #[.val (.long x0), .second, .val (.int x1), .val (.long x2), .second, .val (.int x3), .val (.int x4), .val (.long v4), .second, .val (.int v5), .val (.long v9), .second, .val (.int v10), .val (.ref b12), .val (.ref b16), .val (.int v22), .val (.int (1 : Int32))] [])) _
    refine XS.iload X24.here hx rfl (hb hby at_150) rfl ?_
    show Steps p.tables e below (T24.setTop (mkF m 152 #[.val (.long x0), .second, .val (.int x1), .val (.long x2), .second, .val (.int x3), .val (.int x4), .val (.long v4), .second, .val (.int v5), .val (.long v9), .second, .val (.int v10), .val (.ref b12), .val (.ref b16), .val (.int v22), .val (.int (1 : Int32))] [(.int (1 : Int32))])) _
    refine XS.ifNo X24.here hx rfl (hb hby at_152) rfl ((if0 _ _).trans (feq (by decide : ¬ ((1 : Int32) = (0 : Int32)))).1) ?_
    show Steps p.tables e below (T24.setTop (mkF m 155 #[.val (.long x0), .second, .val (.int x1), .val (.long x2), .second, .val (.int x3), .val (.int x4), .val (.long v4), .second, .val (.int v5), .val (.long v9), .second, .val (.int v10), .val (.ref b12), .val (.ref b16), .val (.int v22), .val (.int (1 : Int32))] [])) _
    refine XS.aload X24.here hx rfl (hb hby at_155) rfl rfl ?_
    show Steps p.tables e below (T24.setTop (mkF m 157 #[.val (.long x0), .second, .val (.int x1), .val (.long x2), .second, .val (.int x3), .val (.int x4), .val (.long v4), .second, .val (.int v5), .val (.long v9), .second, .val (.int v10), .val (.ref b12), .val (.ref b16), .val (.int v22), .val (.int (1 : Int32))] [(.ref b12)])) _
    exact Steps.refl _
  have pre27 := pre26.trans st27
  obtain ⟨cq28, kq28, q28a, q28b, q28c⟩ := isOf hZ e24 F19
  obtain ⟨_, _, ⟨T28, L28, k28, n28⟩, -, X28, ⟨Lc28, hQ28, l28, y28, z28⟩, st28⟩ := X24.virtualBack hx (y := (⟨"com/example/find_leader/findleader/election/Claim", "getId", "()I"⟩ : MethodName)) (z := (⟨"com/example/find_leader/findleader/election/Claim", "getId", "()I"⟩ : MethodName)) hown (mvT hZ (hw _ (List.mem_of_getElem? (i := 31) rfl))) (mvT hZ (hw _ (List.mem_of_getElem? (i := 32) rfl))) (notFace_of_selects (args := #[]) (mvT hZ (hw _ (List.mem_of_getElem? (i := 34) rfl)))) (mvT hZ (hw _ (List.mem_of_getElem? (i := 34) rfl))) (mvT hZ (hw _ (List.mem_of_getElem? (i := 33) rfl))) (by decide) (backOf (W := 0) (rm7 l Z a0 hw [] b12 (own_F2 v5) T16.heap n0 Z16 F19 F21 (by rw [own_id]; exact own_m1 I1)) hZ (hw _ (List.mem_of_getElem? (i := 35) rfl)) (hw _ (List.mem_of_getElem? (i := 8) rfl)) (by decide) (by decide)) q28a q28c (g := (mkF m 157 #[.val (.long x0), .second, .val (.int x1), .val (.long x2), .second, .val (.int x3), .val (.int x4), .val (.long v4), .second, .val (.int v5), .val (.long v9), .second, .val (.int v10), .val (.ref b12), .val (.ref b16), .val (.int v22), .val (.int (1 : Int32))] [(.ref b12)])) rfl (by rw [hml]; rfl) (Steps.refl _) (argsL := []) (rest := []) (lenOf pd0_3 rfl) rfl (by show 2 * 0 + _ ≤ _; exact Nat.le_of_eq rfl) (hb hby at_157) (fun _ _ => ⟨rfl, e24, (by decide : 2 + 0 ≤ _), (by decide : 4 + 0 ≤ _)⟩)
  dsimp only [Pt.U, Pt.locs, Pt.cells, Pt.slots] at X28 l28 y28 z28 st28 hQ28
  subst l28 y28 z28
  obtain ⟨rfl, Nq28, e28⟩ := hQ28
  have N28 := Fr.app N24 Nq28
  have pre28 : Steps p.tables e below (s₁.setTop (entryFrame m #[(.long x0), (.int x1), (.long x2), (.int x3), (.int x4)] maxLocals)) (T28.setTop (mkF m 160 #[.val (.long x0), .second, .val (.int x1), .val (.long x2), .second, .val (.int x3), .val (.int x4), .val (.long v4), .second, .val (.int v5), .val (.long v9), .second, .val (.int v10), .val (.ref b12), .val (.ref b16), .val (.int v22), .val (.int (1 : Int32))] [(.int (own_F7 b12 (own_F2 v5)))])) := pre27.trans st28
  obtain ⟨v29, hv29⟩ : ∃ z : Int32, z = (own_F7 b12 (own_F2 v5)) := ⟨_, rfl⟩
  have st30 : Steps p.tables e below (T28.setTop (mkF m 160 #[.val (.long x0), .second, .val (.int x1), .val (.long x2), .second, .val (.int x3), .val (.int x4), .val (.long v4), .second, .val (.int v5), .val (.long v9), .second, .val (.int v10), .val (.ref b12), .val (.ref b16), .val (.int v22), .val (.int (1 : Int32))] [(.int (own_F7 b12 (own_F2 v5)))])) (T28.setTop (mkF m 162 #[.val (.long x0), .second, .val (.int x1), .val (.long x2), .second, .val (.int x3), .val (.int x4), .val (.long v4), .second, .val (.int v5), .val (.long v9), .second, .val (.int v10), .val (.ref b12), .val (.ref b16), .val (.int v22), .val (.int (1 : Int32))] [(.int v5), (.int v29)])) := by
    subst v29
    refine XS.iload X28.here hx rfl (hb hby at_160) rfl ?_
    show Steps p.tables e below (T28.setTop (mkF m 162 #[.val (.long x0), .second, .val (.int x1), .val (.long x2), .second, .val (.int x3), .val (.int x4), .val (.long v4), .second, .val (.int v5), .val (.long v9), .second, .val (.int v10), .val (.ref b12), .val (.ref b16), .val (.int v22), .val (.int (1 : Int32))] [(.int v5), (.int (own_F7 b12 (own_F2 v5)))])) _
    exact Steps.refl _
  have pre30 := pre28.trans st30
  have hc162 : v29 = v5 := by
    rw [hv29]
    exact own_id _
  have st31 : Steps p.tables e below (T28.setTop (mkF m 162 #[.val (.long x0), .second, .val (.int x1), .val (.long x2), .second, .val (.int x3), .val (.int x4), .val (.long v4), .second, .val (.int v5), .val (.long v9), .second, .val (.int v10), .val (.ref b12), .val (.ref b16), .val (.int v22), .val (.int (1 : Int32))] [(.int v5), (.int v29)])) (T28.setTop (mkF m 165 #[.val (.long x0), .second, .val (.int x1), .val (.long x2), .second, .val (.int x3), .val (.int x4), .val (.long v4), .second, .val (.int v5), .val (.long v9), .second, .val (.int v10), .val (.ref b12), .val (.ref b16), .val (.int v22), .val (.int (1 : Int32))] [])) := by
    refine XS.icmpNo X28.here hx rfl (hb hby at_162) rfl (teq hc162).2 ?_
    exact Steps.refl _
  have pre31 := pre30.trans st31
  have st32 : Steps p.tables e below (T28.setTop (mkF m 165 #[.val (.long x0), .second, .val (.int x1), .val (.long x2), .second, .val (.int x3), .val (.int x4), .val (.long v4), .second, .val (.int v5), .val (.long v9), .second, .val (.int v10), .val (.ref b12), .val (.ref b16), .val (.int v22), .val (.int (1 : Int32))] [])) (T28.setTop (mkF m 179 #[.val (.long x0), .second, .val (.int x1), .val (.long x2), .second, .val (.int x3), .val (.int x4), .val (.long v4), .second, .val (.int v5), .val (.long v9), .second, .val (.int v10), .val (.ref b12), .val (.ref b16), .val (.int v22), .val (.int (1 : Int32))] [(.ref b12)])) := by
    refine XS.iconst X28.here hx rfl (hb hby at_165) ?_
    show Steps p.tables e below (T28.setTop (mkF m 166 #[.val (.long x0), .second, .val (.int x1), .val (.long x2), .second, .val (.int x3), .val (.int x4), .val (.long v4), .second, .val (.int v5), .val (.long v9), .second, .val (.int v10), .val (.ref b12), .val (.ref b16), .val (.int v22), .val (.int (1 : Int32))] [(.int (1 : Int32))])) _
    refine XS.goto X28.here hx rfl (pc0 := 166) (pc' := 170) rfl (hb hby at_166) (by decide) (by decide) ?_
    show Steps p.tables e below (T28.setTop (mkF m 170 #[.val (.long x0), .second, .val (.int x1), .val (.long x2), .second, .val (.int x3), .val (.int x4), .val (.long v4), .second, .val (.int v5), .val (.long v9), .second, .val (.int v10), .val (.ref b12), .val (.ref b16), .val (.int v22), .val (.int (1 : Int32))] [(.int (1 : Int32))])) _
    refine XS.istore X28.here hx rfl (hb hby at_170) rfl (l' := #[.val (.long x0), .second, .val (.int x1), .val (.long x2), .second, .val (.int x3), .val (.int x4), .val (.long v4), .second, .val (.int v5), .val (.long v9), .second, .val (.int v10), .val (.ref b12), .val (.ref b16), .val (.int v22), .val (.int (1 : Int32))]) rfl ?_
    show Steps p.tables e below (T28.setTop (mkF m 172 #[.val (.long x0), .second, .val (.int x1), .val (.long x2), .second, .val (.int x3), .val (.int x4), .val (.long v4), .second, .val (.int v5), .val (.long v9), .second, .val (.int v10), .val (.ref b12), .val (.ref b16), .val (.int v22), .val (.int (1 : Int32))] [])) _
    refine XS.iload X28.here hx rfl (hb hby at_172) rfl ?_
    show Steps p.tables e below (T28.setTop (mkF m 174 #[.val (.long x0), .second, .val (.int x1), .val (.long x2), .second, .val (.int x3), .val (.int x4), .val (.long v4), .second, .val (.int v5), .val (.long v9), .second, .val (.int v10), .val (.ref b12), .val (.ref b16), .val (.int v22), .val (.int (1 : Int32))] [(.int (1 : Int32))])) _
    refine XS.ifNo X28.here hx rfl (hb hby at_174) rfl ((if0 _ _).trans (feq (by decide : ¬ ((1 : Int32) = (0 : Int32)))).1) ?_
    show Steps p.tables e below (T28.setTop (mkF m 177 #[.val (.long x0), .second, .val (.int x1), .val (.long x2), .second, .val (.int x3), .val (.int x4), .val (.long v4), .second, .val (.int v5), .val (.long v9), .second, .val (.int v10), .val (.ref b12), .val (.ref b16), .val (.int v22), .val (.int (1 : Int32))] [])) _
    refine XS.aload X28.here hx rfl (hb hby at_177) rfl rfl ?_
    show Steps p.tables e below (T28.setTop (mkF m 179 #[.val (.long x0), .second, .val (.int x1), .val (.long x2), .second, .val (.int x3), .val (.int x4), .val (.long v4), .second, .val (.int v5), .val (.long v9), .second, .val (.int v10), .val (.ref b12), .val (.ref b16), .val (.int v22), .val (.int (1 : Int32))] [(.ref b12)])) _
    exact Steps.refl _
  have pre32 := pre31.trans st32
  obtain ⟨cq33, kq33, q33a, q33b, q33c⟩ := isOf hZ e28 F19
  obtain ⟨_, _, ⟨T33, L33, k33, n33⟩, -, X33, ⟨Lc33, hQ33, l33, y33, z33⟩, st33⟩ := X28.virtualBack hx (y := (⟨"com/example/find_leader/findleader/election/Claim", "isNone", "()Z"⟩ : MethodName)) (z := (⟨"com/example/find_leader/findleader/election/Claim", "isNone", "()Z"⟩ : MethodName)) hown (mvT hZ (hw _ (List.mem_of_getElem? (i := 41) rfl))) (mvT hZ (hw _ (List.mem_of_getElem? (i := 37) rfl))) (notFace_of_selects (args := #[]) (mvT hZ (hw _ (List.mem_of_getElem? (i := 39) rfl)))) (mvT hZ (hw _ (List.mem_of_getElem? (i := 39) rfl))) (mvT hZ (hw _ (List.mem_of_getElem? (i := 38) rfl))) (by decide) (backOf (W := 0) (rm5 l Z a0 hw [] b12 (own_F2 v5) T16.heap n0 Z16 F21) hZ (hw _ (List.mem_of_getElem? (i := 40) rfl)) (hw _ (List.mem_of_getElem? (i := 8) rfl)) (by decide) (by decide)) q33a q33c (g := (mkF m 179 #[.val (.long x0), .second, .val (.int x1), .val (.long x2), .second, .val (.int x3), .val (.int x4), .val (.long v4), .second, .val (.int v5), .val (.long v9), .second, .val (.int v10), .val (.ref b12), .val (.ref b16), .val (.int v22), .val (.int (1 : Int32))] [(.ref b12)])) rfl (by rw [hml]; rfl) (Steps.refl _) (argsL := []) (rest := []) (lenOf pd0_4 rfl) rfl (by show 2 * 0 + _ ≤ _; exact Nat.le_of_eq rfl) (hb hby at_179) (fun _ _ => ⟨rfl, e28, (by decide : 2 + 0 ≤ _), (by decide : 4 + 0 ≤ _)⟩)
  dsimp only [Pt.U, Pt.locs, Pt.cells, Pt.slots] at X33 l33 y33 z33 st33 hQ33
  subst l33 y33 z33
  obtain ⟨rfl, Nq33, e33⟩ := hQ33
  have N33 := Fr.app N28 Nq33
  have pre33 : Steps p.tables e below (s₁.setTop (entryFrame m #[(.long x0), (.int x1), (.long x2), (.int x3), (.int x4)] maxLocals)) (T33.setTop (mkF m 182 #[.val (.long x0), .second, .val (.int x1), .val (.long x2), .second, .val (.int x3), .val (.int x4), .val (.long v4), .second, .val (.int v5), .val (.long v9), .second, .val (.int v10), .val (.ref b12), .val (.ref b16), .val (.int v22), .val (.int (1 : Int32))] [(.int (own_F5 b12 (own_F2 v5)))])) := pre32.trans st33
  have hc182 : (own_F5 b12 (own_F2 v5)) = (0 : Int32) := by
    exact own_none0 _ I1
  have st34 : Steps p.tables e below (T33.setTop (mkF m 182 #[.val (.long x0), .second, .val (.int x1), .val (.long x2), .second, .val (.int x3), .val (.int x4), .val (.long v4), .second, .val (.int v5), .val (.long v9), .second, .val (.int v10), .val (.ref b12), .val (.ref b16), .val (.int v22), .val (.int (1 : Int32))] [(.int (own_F5 b12 (own_F2 v5)))])) (T33.setTop (mkF m 185 #[.val (.long x0), .second, .val (.int x1), .val (.long x2), .second, .val (.int x3), .val (.int x4), .val (.long v4), .second, .val (.int v5), .val (.long v9), .second, .val (.int v10), .val (.ref b12), .val (.ref b16), .val (.int v22), .val (.int (1 : Int32))] [])) := by
    refine XS.ifNo X33.here hx rfl (hb hby at_182) rfl ((if0 _ _).trans (teq hc182).2) ?_
    exact Steps.refl _
  have pre34 := pre33.trans st34
  have st35 : Steps p.tables e below (T33.setTop (mkF m 185 #[.val (.long x0), .second, .val (.int x1), .val (.long x2), .second, .val (.int x3), .val (.int x4), .val (.long v4), .second, .val (.int v5), .val (.long v9), .second, .val (.int v10), .val (.ref b12), .val (.ref b16), .val (.int v22), .val (.int (1 : Int32))] [])) (T33.setTop (mkF m 201 #[.val (.long x0), .second, .val (.int x1), .val (.long x2), .second, .val (.int x3), .val (.int x4), .val (.long v4), .second, .val (.int v5), .val (.long v9), .second, .val (.int v10), .val (.ref b12), .val (.ref b16), .val (.int v22), .val (.int (1 : Int32))] [(.int v5), (.ref b12)])) := by
    refine XS.iconst X33.here hx rfl (hb hby at_185) ?_
    show Steps p.tables e below (T33.setTop (mkF m 186 #[.val (.long x0), .second, .val (.int x1), .val (.long x2), .second, .val (.int x3), .val (.int x4), .val (.long v4), .second, .val (.int v5), .val (.long v9), .second, .val (.int v10), .val (.ref b12), .val (.ref b16), .val (.int v22), .val (.int (1 : Int32))] [(.int (1 : Int32))])) _
    refine XS.goto X33.here hx rfl (pc0 := 186) (pc' := 190) rfl (hb hby at_186) (by decide) (by decide) ?_
    show Steps p.tables e below (T33.setTop (mkF m 190 #[.val (.long x0), .second, .val (.int x1), .val (.long x2), .second, .val (.int x3), .val (.int x4), .val (.long v4), .second, .val (.int v5), .val (.long v9), .second, .val (.int v10), .val (.ref b12), .val (.ref b16), .val (.int v22), .val (.int (1 : Int32))] [(.int (1 : Int32))])) _
    refine XS.istore X33.here hx rfl (hb hby at_190) rfl (l' := #[.val (.long x0), .second, .val (.int x1), .val (.long x2), .second, .val (.int x3), .val (.int x4), .val (.long v4), .second, .val (.int v5), .val (.long v9), .second, .val (.int v10), .val (.ref b12), .val (.ref b16), .val (.int v22), .val (.int (1 : Int32))]) rfl ?_
    show Steps p.tables e below (T33.setTop (mkF m 192 #[.val (.long x0), .second, .val (.int x1), .val (.long x2), .second, .val (.int x3), .val (.int x4), .val (.long v4), .second, .val (.int v5), .val (.long v9), .second, .val (.int v10), .val (.ref b12), .val (.ref b16), .val (.int v22), .val (.int (1 : Int32))] [])) _
    refine XS.iload X33.here hx rfl (hb hby at_192) rfl ?_
    show Steps p.tables e below (T33.setTop (mkF m 194 #[.val (.long x0), .second, .val (.int x1), .val (.long x2), .second, .val (.int x3), .val (.int x4), .val (.long v4), .second, .val (.int v5), .val (.long v9), .second, .val (.int v10), .val (.ref b12), .val (.ref b16), .val (.int v22), .val (.int (1 : Int32))] [(.int (1 : Int32))])) _
    refine XS.ifNo X33.here hx rfl (hb hby at_194) rfl ((if0 _ _).trans (feq (by decide : ¬ ((1 : Int32) = (0 : Int32)))).1) ?_
    show Steps p.tables e below (T33.setTop (mkF m 197 #[.val (.long x0), .second, .val (.int x1), .val (.long x2), .second, .val (.int x3), .val (.int x4), .val (.long v4), .second, .val (.int v5), .val (.long v9), .second, .val (.int v10), .val (.ref b12), .val (.ref b16), .val (.int v22), .val (.int (1 : Int32))] [])) _
    refine XS.aload X33.here hx rfl (hb hby at_197) rfl rfl ?_
    show Steps p.tables e below (T33.setTop (mkF m 199 #[.val (.long x0), .second, .val (.int x1), .val (.long x2), .second, .val (.int x3), .val (.int x4), .val (.long v4), .second, .val (.int v5), .val (.long v9), .second, .val (.int v10), .val (.ref b12), .val (.ref b16), .val (.int v22), .val (.int (1 : Int32))] [(.ref b12)])) _
    refine XS.iload X33.here hx rfl (hb hby at_199) rfl ?_
    show Steps p.tables e below (T33.setTop (mkF m 201 #[.val (.long x0), .second, .val (.int x1), .val (.long x2), .second, .val (.int x3), .val (.int x4), .val (.long v4), .second, .val (.int v5), .val (.long v9), .second, .val (.int v10), .val (.ref b12), .val (.ref b16), .val (.int v22), .val (.int (1 : Int32))] [(.int v5), (.ref b12)])) _
    exact Steps.refl _
  have pre35 := pre34.trans st35
  obtain ⟨cq36, kq36, q36a, q36b, q36c⟩ := isOf hZ e33 F19
  obtain ⟨_, _, ⟨T36, L36, k36, n36⟩, -, X36, ⟨Lc36, hQ36, l36, y36, z36⟩, st36⟩ := X33.virtualBack hx (y := (⟨"com/example/find_leader/findleader/election/Claim", "names", "(I)Z"⟩ : MethodName)) (z := (⟨"com/example/find_leader/findleader/election/Claim", "names", "(I)Z"⟩ : MethodName)) hown (mvT hZ (hw _ (List.mem_of_getElem? (i := 42) rfl))) (mvT hZ (hw _ (List.mem_of_getElem? (i := 43) rfl))) (notFace_of_selects (args := #[]) (mvT hZ (hw _ (List.mem_of_getElem? (i := 45) rfl)))) (mvT hZ (hw _ (List.mem_of_getElem? (i := 45) rfl))) (mvT hZ (hw _ (List.mem_of_getElem? (i := 44) rfl))) (by decide) (backOf (W := 0) (rm8 l Z a0 hw [] b12 v5 (own_F2 v5) T16.heap n0 Z16 F19 F21) hZ (hw _ (List.mem_of_getElem? (i := 46) rfl)) (hw _ (List.mem_of_getElem? (i := 8) rfl)) (by decide) (by decide)) q36a q36c (g := (mkF m 201 #[.val (.long x0), .second, .val (.int x1), .val (.long x2), .second, .val (.int x3), .val (.int x4), .val (.long v4), .second, .val (.int v5), .val (.long v9), .second, .val (.int v10), .val (.ref b12), .val (.ref b16), .val (.int v22), .val (.int (1 : Int32))] [(.int v5), (.ref b12)])) rfl (by rw [hml]; rfl) (Steps.refl _) (argsL := [(.int v5)]) (rest := []) (lenOf pd0_5 rfl) rfl (by show 2 * 0 + _ ≤ _; exact Nat.le_of_eq rfl) (hb hby at_201) (fun _ _ => ⟨rfl, e33, (by decide : 2 + 0 ≤ _), (by decide : 4 + 0 ≤ _)⟩)
  dsimp only [Pt.U, Pt.locs, Pt.cells, Pt.slots] at X36 l36 y36 z36 st36 hQ36
  subst l36 y36 z36
  obtain ⟨rfl, Nq36, e36⟩ := hQ36
  have N36 := Fr.app N33 Nq36
  have pre36 : Steps p.tables e below (s₁.setTop (entryFrame m #[(.long x0), (.int x1), (.long x2), (.int x3), (.int x4)] maxLocals)) (T36.setTop (mkF m 204 #[.val (.long x0), .second, .val (.int x1), .val (.long x2), .second, .val (.int x3), .val (.int x4), .val (.long v4), .second, .val (.int v5), .val (.long v9), .second, .val (.int v10), .val (.ref b12), .val (.ref b16), .val (.int v22), .val (.int (1 : Int32))] [(.int (own_F8 b12 v5 (own_F2 v5)))])) := pre35.trans st36
  have hc204 : ¬ ((own_F8 b12 v5 (own_F2 v5)) = (0 : Int32)) := by
    rw [own_names _ I1, if_pos rfl]
    decide
  have st37 : Steps p.tables e below (T36.setTop (mkF m 204 #[.val (.long x0), .second, .val (.int x1), .val (.long x2), .second, .val (.int x3), .val (.int x4), .val (.long v4), .second, .val (.int v5), .val (.long v9), .second, .val (.int v10), .val (.ref b12), .val (.ref b16), .val (.int v22), .val (.int (1 : Int32))] [(.int (own_F8 b12 v5 (own_F2 v5)))])) (T36.setTop (mkF m 207 #[.val (.long x0), .second, .val (.int x1), .val (.long x2), .second, .val (.int x3), .val (.int x4), .val (.long v4), .second, .val (.int v5), .val (.long v9), .second, .val (.int v10), .val (.ref b12), .val (.ref b16), .val (.int v22), .val (.int (1 : Int32))] [])) := by
    refine XS.ifNo X36.here hx rfl (hb hby at_204) rfl ((if0 _ _).trans (feq hc204).1) ?_
    exact Steps.refl _
  have pre37 := pre36.trans st37
  have st38 : Steps p.tables e below (T36.setTop (mkF m 207 #[.val (.long x0), .second, .val (.int x1), .val (.long x2), .second, .val (.int x3), .val (.int x4), .val (.long v4), .second, .val (.int v5), .val (.long v9), .second, .val (.int v10), .val (.ref b12), .val (.ref b16), .val (.int v22), .val (.int (1 : Int32))] [])) (T36.setTop (mkF m 223 #[.val (.long x0), .second, .val (.int x1), .val (.long x2), .second, .val (.int x3), .val (.int x4), .val (.long v4), .second, .val (.int v5), .val (.long v9), .second, .val (.int v10), .val (.ref b12), .val (.ref b16), .val (.int v22), .val (.int (1 : Int32))] [(.int v10), (.ref b12)])) := by
    refine XS.iconst X36.here hx rfl (hb hby at_207) ?_
    show Steps p.tables e below (T36.setTop (mkF m 208 #[.val (.long x0), .second, .val (.int x1), .val (.long x2), .second, .val (.int x3), .val (.int x4), .val (.long v4), .second, .val (.int v5), .val (.long v9), .second, .val (.int v10), .val (.ref b12), .val (.ref b16), .val (.int v22), .val (.int (1 : Int32))] [(.int (1 : Int32))])) _
    refine XS.goto X36.here hx rfl (pc0 := 208) (pc' := 212) rfl (hb hby at_208) (by decide) (by decide) ?_
    show Steps p.tables e below (T36.setTop (mkF m 212 #[.val (.long x0), .second, .val (.int x1), .val (.long x2), .second, .val (.int x3), .val (.int x4), .val (.long v4), .second, .val (.int v5), .val (.long v9), .second, .val (.int v10), .val (.ref b12), .val (.ref b16), .val (.int v22), .val (.int (1 : Int32))] [(.int (1 : Int32))])) _
    refine XS.istore X36.here hx rfl (hb hby at_212) rfl (l' := #[.val (.long x0), .second, .val (.int x1), .val (.long x2), .second, .val (.int x3), .val (.int x4), .val (.long v4), .second, .val (.int v5), .val (.long v9), .second, .val (.int v10), .val (.ref b12), .val (.ref b16), .val (.int v22), .val (.int (1 : Int32))]) rfl ?_
    show Steps p.tables e below (T36.setTop (mkF m 214 #[.val (.long x0), .second, .val (.int x1), .val (.long x2), .second, .val (.int x3), .val (.int x4), .val (.long v4), .second, .val (.int v5), .val (.long v9), .second, .val (.int v10), .val (.ref b12), .val (.ref b16), .val (.int v22), .val (.int (1 : Int32))] [])) _
    refine XS.iload X36.here hx rfl (hb hby at_214) rfl ?_
    show Steps p.tables e below (T36.setTop (mkF m 216 #[.val (.long x0), .second, .val (.int x1), .val (.long x2), .second, .val (.int x3), .val (.int x4), .val (.long v4), .second, .val (.int v5), .val (.long v9), .second, .val (.int v10), .val (.ref b12), .val (.ref b16), .val (.int v22), .val (.int (1 : Int32))] [(.int (1 : Int32))])) _
    refine XS.ifNo X36.here hx rfl (hb hby at_216) rfl ((if0 _ _).trans (feq (by decide : ¬ ((1 : Int32) = (0 : Int32)))).1) ?_
    show Steps p.tables e below (T36.setTop (mkF m 219 #[.val (.long x0), .second, .val (.int x1), .val (.long x2), .second, .val (.int x3), .val (.int x4), .val (.long v4), .second, .val (.int v5), .val (.long v9), .second, .val (.int v10), .val (.ref b12), .val (.ref b16), .val (.int v22), .val (.int (1 : Int32))] [])) _
    refine XS.aload X36.here hx rfl (hb hby at_219) rfl rfl ?_
    show Steps p.tables e below (T36.setTop (mkF m 221 #[.val (.long x0), .second, .val (.int x1), .val (.long x2), .second, .val (.int x3), .val (.int x4), .val (.long v4), .second, .val (.int v5), .val (.long v9), .second, .val (.int v10), .val (.ref b12), .val (.ref b16), .val (.int v22), .val (.int (1 : Int32))] [(.ref b12)])) _
    refine XS.iload X36.here hx rfl (hb hby at_221) rfl ?_
    show Steps p.tables e below (T36.setTop (mkF m 223 #[.val (.long x0), .second, .val (.int x1), .val (.long x2), .second, .val (.int x3), .val (.int x4), .val (.long v4), .second, .val (.int v5), .val (.long v9), .second, .val (.int v10), .val (.ref b12), .val (.ref b16), .val (.int v22), .val (.int (1 : Int32))] [(.int v10), (.ref b12)])) _
    exact Steps.refl _
  have pre38 := pre37.trans st38
  obtain ⟨cq39, kq39, q39a, q39b, q39c⟩ := isOf hZ e36 F19
  obtain ⟨_, _, ⟨T39, L39, k39, n39⟩, -, X39, ⟨Lc39, hQ39, l39, y39, z39⟩, st39⟩ := X36.virtualBack hx (y := (⟨"com/example/find_leader/findleader/election/Claim", "names", "(I)Z"⟩ : MethodName)) (z := (⟨"com/example/find_leader/findleader/election/Claim", "names", "(I)Z"⟩ : MethodName)) hown (mvT hZ (hw _ (List.mem_of_getElem? (i := 42) rfl))) (mvT hZ (hw _ (List.mem_of_getElem? (i := 43) rfl))) (notFace_of_selects (args := #[]) (mvT hZ (hw _ (List.mem_of_getElem? (i := 45) rfl)))) (mvT hZ (hw _ (List.mem_of_getElem? (i := 45) rfl))) (mvT hZ (hw _ (List.mem_of_getElem? (i := 44) rfl))) (by decide) (backOf (W := 0) (rm8 l Z a0 hw [] b12 v10 (own_F2 v5) T16.heap n0 Z16 F19 F21) hZ (hw _ (List.mem_of_getElem? (i := 46) rfl)) (hw _ (List.mem_of_getElem? (i := 8) rfl)) (by decide) (by decide)) q39a q39c (g := (mkF m 223 #[.val (.long x0), .second, .val (.int x1), .val (.long x2), .second, .val (.int x3), .val (.int x4), .val (.long v4), .second, .val (.int v5), .val (.long v9), .second, .val (.int v10), .val (.ref b12), .val (.ref b16), .val (.int v22), .val (.int (1 : Int32))] [(.int v10), (.ref b12)])) rfl (by rw [hml]; rfl) (Steps.refl _) (argsL := [(.int v10)]) (rest := []) (lenOf pd0_5 rfl) rfl (by show 2 * 0 + _ ≤ _; exact Nat.le_of_eq rfl) (hb hby at_223) (fun _ _ => ⟨rfl, e36, (by decide : 2 + 0 ≤ _), (by decide : 4 + 0 ≤ _)⟩)
  dsimp only [Pt.U, Pt.locs, Pt.cells, Pt.slots] at X39 l39 y39 z39 st39 hQ39
  subst l39 y39 z39
  obtain ⟨rfl, Nq39, e39⟩ := hQ39
  have N39 := Fr.app N36 Nq39
  have pre39 : Steps p.tables e below (s₁.setTop (entryFrame m #[(.long x0), (.int x1), (.long x2), (.int x3), (.int x4)] maxLocals)) (T39.setTop (mkF m 226 #[.val (.long x0), .second, .val (.int x1), .val (.long x2), .second, .val (.int x3), .val (.int x4), .val (.long v4), .second, .val (.int v5), .val (.long v9), .second, .val (.int v10), .val (.ref b12), .val (.ref b16), .val (.int v22), .val (.int (1 : Int32))] [(.int (own_F8 b12 v10 (own_F2 v5)))])) := pre38.trans st39
  obtain ⟨v40, hv40⟩ : ∃ z : Int32, z = (own_F8 b12 v10 (own_F2 v5)) := ⟨_, rfl⟩
  obtain ⟨v41, hv41⟩ : ∃ z : Int32, z = (if v5 = v10 then (1 : Int32) else (0 : Int32)) := ⟨_, rfl⟩
  have st42 : Steps p.tables e below (T39.setTop (mkF m 226 #[.val (.long x0), .second, .val (.int x1), .val (.long x2), .second, .val (.int x3), .val (.int x4), .val (.long v4), .second, .val (.int v5), .val (.long v9), .second, .val (.int v10), .val (.ref b12), .val (.ref b16), .val (.int v22), .val (.int (1 : Int32))] [(.int (own_F8 b12 v10 (own_F2 v5)))])) (T39.setTop (mkF m 238 #[.val (.long x0), .second, .val (.int x1), .val (.long x2), .second, .val (.int x3), .val (.int x4), .val (.long v4), .second, .val (.int v5), .val (.long v9), .second, .val (.int v10), .val (.ref b12), .val (.ref b16), .val (.int v22), .val (.int (1 : Int32))] [(.int v41), (.int v40)])) := by
    subst v41 v40
    refine XS.iload X39.here hx rfl (hb hby at_226) rfl ?_
    show Steps p.tables e below (T39.setTop (mkF m 228 #[.val (.long x0), .second, .val (.int x1), .val (.long x2), .second, .val (.int x3), .val (.int x4), .val (.long v4), .second, .val (.int v5), .val (.long v9), .second, .val (.int v10), .val (.ref b12), .val (.ref b16), .val (.int v22), .val (.int (1 : Int32))] [(.int v5), (.int (own_F8 b12 v10 (own_F2 v5)))])) _
    refine XS.iload X39.here hx rfl (hb hby at_228) rfl ?_
    show Steps p.tables e below (T39.setTop (mkF m 230 #[.val (.long x0), .second, .val (.int x1), .val (.long x2), .second, .val (.int x3), .val (.int x4), .val (.long v4), .second, .val (.int v5), .val (.long v9), .second, .val (.int v10), .val (.ref b12), .val (.ref b16), .val (.int v22), .val (.int (1 : Int32))] [(.int v10), (.int v5), (.int (own_F8 b12 v10 (own_F2 v5)))])) _
    refine Steps.trans (s₂ := T39.setTop (mkF m 238 #[.val (.long x0), .second, .val (.int x1), .val (.long x2), .second, .val (.int x3), .val (.int x4), .val (.long v4), .second, .val (.int v5), .val (.long v9), .second, .val (.int v10), .val (.ref b12), .val (.ref b16), .val (.int v22), .val (.int (1 : Int32))] [(.int (if v5 = v10 then (1 : Int32) else (0 : Int32))), (.int (own_F8 b12 v10 (own_F2 v5)))])) ?_ ?_
    · by_cases hc230 : v5 = v10
      · refine XS.icmpNo X39.here hx rfl (hb hby at_230) rfl (teq hc230).2 ?_
        show Steps p.tables e below (T39.setTop (mkF m 233 #[.val (.long x0), .second, .val (.int x1), .val (.long x2), .second, .val (.int x3), .val (.int x4), .val (.long v4), .second, .val (.int v5), .val (.long v9), .second, .val (.int v10), .val (.ref b12), .val (.ref b16), .val (.int v22), .val (.int (1 : Int32))] [(.int (own_F8 b12 v10 (own_F2 v5)))])) _
        refine XS.iconst X39.here hx rfl (hb hby at_233) ?_
        show Steps p.tables e below (T39.setTop (mkF m 234 #[.val (.long x0), .second, .val (.int x1), .val (.long x2), .second, .val (.int x3), .val (.int x4), .val (.long v4), .second, .val (.int v5), .val (.long v9), .second, .val (.int v10), .val (.ref b12), .val (.ref b16), .val (.int v22), .val (.int (1 : Int32))] [(.int (1 : Int32)), (.int (own_F8 b12 v10 (own_F2 v5)))])) _
        refine XS.goto X39.here hx rfl (pc0 := 234) (pc' := 238) rfl (hb hby at_234) (by decide) (by decide) ?_
        show Steps p.tables e below (T39.setTop (mkF m 238 #[.val (.long x0), .second, .val (.int x1), .val (.long x2), .second, .val (.int x3), .val (.int x4), .val (.long v4), .second, .val (.int v5), .val (.long v9), .second, .val (.int v10), .val (.ref b12), .val (.ref b16), .val (.int v22), .val (.int (1 : Int32))] [(.int (1 : Int32)), (.int (own_F8 b12 v10 (own_F2 v5)))])) _
        try simp only [if_pos hc230]
        exact Steps.refl _
      · refine XS.icmpYes X39.here hx rfl (pc0 := 230) (pc' := 237) rfl (hb hby at_230) rfl (feq hc230).2 (by decide) (by decide) ?_
        show Steps p.tables e below (T39.setTop (mkF m 237 #[.val (.long x0), .second, .val (.int x1), .val (.long x2), .second, .val (.int x3), .val (.int x4), .val (.long v4), .second, .val (.int v5), .val (.long v9), .second, .val (.int v10), .val (.ref b12), .val (.ref b16), .val (.int v22), .val (.int (1 : Int32))] [(.int (own_F8 b12 v10 (own_F2 v5)))])) _
        refine XS.iconst X39.here hx rfl (hb hby at_237) ?_
        show Steps p.tables e below (T39.setTop (mkF m 238 #[.val (.long x0), .second, .val (.int x1), .val (.long x2), .second, .val (.int x3), .val (.int x4), .val (.long v4), .second, .val (.int v5), .val (.long v9), .second, .val (.int v10), .val (.ref b12), .val (.ref b16), .val (.int v22), .val (.int (1 : Int32))] [(.int (0 : Int32)), (.int (own_F8 b12 v10 (own_F2 v5)))])) _
        try simp only [if_neg hc230]
        exact Steps.refl _
    show Steps p.tables e below (T39.setTop (mkF m 238 #[.val (.long x0), .second, .val (.int x1), .val (.long x2), .second, .val (.int x3), .val (.int x4), .val (.long v4), .second, .val (.int v5), .val (.long v9), .second, .val (.int v10), .val (.ref b12), .val (.ref b16), .val (.int v22), .val (.int (1 : Int32))] [(.int (if v5 = v10 then (1 : Int32) else (0 : Int32))), (.int (own_F8 b12 v10 (own_F2 v5)))])) _
    exact Steps.refl _
  have pre42 := pre39.trans st42
  have hc238 : v40 = v41 := by
    rw [hv40, hv41]
    exact own_names _ I1
  have st43 : Steps p.tables e below (T39.setTop (mkF m 238 #[.val (.long x0), .second, .val (.int x1), .val (.long x2), .second, .val (.int x3), .val (.int x4), .val (.long v4), .second, .val (.int v5), .val (.long v9), .second, .val (.int v10), .val (.ref b12), .val (.ref b16), .val (.int v22), .val (.int (1 : Int32))] [(.int v41), (.int v40)])) (T39.setTop (mkF m 241 #[.val (.long x0), .second, .val (.int x1), .val (.long x2), .second, .val (.int x3), .val (.int x4), .val (.long v4), .second, .val (.int v5), .val (.long v9), .second, .val (.int v10), .val (.ref b12), .val (.ref b16), .val (.int v22), .val (.int (1 : Int32))] [])) := by
    refine XS.icmpNo X39.here hx rfl (hb hby at_238) rfl (teq hc238).2 ?_
    exact Steps.refl _
  have pre43 := pre42.trans st43
  have st44 : Steps p.tables e below (T39.setTop (mkF m 241 #[.val (.long x0), .second, .val (.int x1), .val (.long x2), .second, .val (.int x3), .val (.int x4), .val (.long v4), .second, .val (.int v5), .val (.long v9), .second, .val (.int v10), .val (.ref b12), .val (.ref b16), .val (.int v22), .val (.int (1 : Int32))] [])) (T39.setTop (mkF m 257 #[.val (.long x0), .second, .val (.int x1), .val (.long x2), .second, .val (.int x3), .val (.int x4), .val (.long v4), .second, .val (.int v5), .val (.long v9), .second, .val (.int v10), .val (.ref b12), .val (.ref b16), .val (.int v22), .val (.int (1 : Int32))] [(.ref b16), (.ref b12)])) := by
    refine XS.iconst X39.here hx rfl (hb hby at_241) ?_
    show Steps p.tables e below (T39.setTop (mkF m 242 #[.val (.long x0), .second, .val (.int x1), .val (.long x2), .second, .val (.int x3), .val (.int x4), .val (.long v4), .second, .val (.int v5), .val (.long v9), .second, .val (.int v10), .val (.ref b12), .val (.ref b16), .val (.int v22), .val (.int (1 : Int32))] [(.int (1 : Int32))])) _
    refine XS.goto X39.here hx rfl (pc0 := 242) (pc' := 246) rfl (hb hby at_242) (by decide) (by decide) ?_
    show Steps p.tables e below (T39.setTop (mkF m 246 #[.val (.long x0), .second, .val (.int x1), .val (.long x2), .second, .val (.int x3), .val (.int x4), .val (.long v4), .second, .val (.int v5), .val (.long v9), .second, .val (.int v10), .val (.ref b12), .val (.ref b16), .val (.int v22), .val (.int (1 : Int32))] [(.int (1 : Int32))])) _
    refine XS.istore X39.here hx rfl (hb hby at_246) rfl (l' := #[.val (.long x0), .second, .val (.int x1), .val (.long x2), .second, .val (.int x3), .val (.int x4), .val (.long v4), .second, .val (.int v5), .val (.long v9), .second, .val (.int v10), .val (.ref b12), .val (.ref b16), .val (.int v22), .val (.int (1 : Int32))]) rfl ?_
    show Steps p.tables e below (T39.setTop (mkF m 248 #[.val (.long x0), .second, .val (.int x1), .val (.long x2), .second, .val (.int x3), .val (.int x4), .val (.long v4), .second, .val (.int v5), .val (.long v9), .second, .val (.int v10), .val (.ref b12), .val (.ref b16), .val (.int v22), .val (.int (1 : Int32))] [])) _
    refine XS.iload X39.here hx rfl (hb hby at_248) rfl ?_
    show Steps p.tables e below (T39.setTop (mkF m 250 #[.val (.long x0), .second, .val (.int x1), .val (.long x2), .second, .val (.int x3), .val (.int x4), .val (.long v4), .second, .val (.int v5), .val (.long v9), .second, .val (.int v10), .val (.ref b12), .val (.ref b16), .val (.int v22), .val (.int (1 : Int32))] [(.int (1 : Int32))])) _
    refine XS.ifNo X39.here hx rfl (hb hby at_250) rfl ((if0 _ _).trans (feq (by decide : ¬ ((1 : Int32) = (0 : Int32)))).1) ?_
    show Steps p.tables e below (T39.setTop (mkF m 253 #[.val (.long x0), .second, .val (.int x1), .val (.long x2), .second, .val (.int x3), .val (.int x4), .val (.long v4), .second, .val (.int v5), .val (.long v9), .second, .val (.int v10), .val (.ref b12), .val (.ref b16), .val (.int v22), .val (.int (1 : Int32))] [])) _
    refine XS.aload X39.here hx rfl (hb hby at_253) rfl rfl ?_
    show Steps p.tables e below (T39.setTop (mkF m 255 #[.val (.long x0), .second, .val (.int x1), .val (.long x2), .second, .val (.int x3), .val (.int x4), .val (.long v4), .second, .val (.int v5), .val (.long v9), .second, .val (.int v10), .val (.ref b12), .val (.ref b16), .val (.int v22), .val (.int (1 : Int32))] [(.ref b12)])) _
    refine XS.aload X39.here hx rfl (hb hby at_255) rfl rfl ?_
    show Steps p.tables e below (T39.setTop (mkF m 257 #[.val (.long x0), .second, .val (.int x1), .val (.long x2), .second, .val (.int x3), .val (.int x4), .val (.long v4), .second, .val (.int v5), .val (.long v9), .second, .val (.int v10), .val (.ref b12), .val (.ref b16), .val (.int v22), .val (.int (1 : Int32))] [(.ref b16), (.ref b12)])) _
    exact Steps.refl _
  have pre44 := pre43.trans st44
  obtain ⟨cq45, kq45, q45a, q45b, q45c⟩ := isOf hZ e39 F19
  obtain ⟨_, _, ⟨T45, L45, k45, n45⟩, -, X45, ⟨Lc45, hQ45, l45, y45, z45⟩, st45⟩ := X39.virtualBack hx (y := (⟨"com/example/find_leader/findleader/election/Claim", "compareTo", "(Lcom/example/find_leader/findleader/election/Claim;)I"⟩ : MethodName)) (z := (⟨"com/example/find_leader/findleader/election/Claim", "compareTo", "(Lcom/example/find_leader/findleader/election/Claim;)I"⟩ : MethodName)) hown (mvT hZ (hw _ (List.mem_of_getElem? (i := 47) rfl))) (mvT hZ (hw _ (List.mem_of_getElem? (i := 48) rfl))) (notFace_of_selects (args := #[]) (mvT hZ (hw _ (List.mem_of_getElem? (i := 50) rfl)))) (mvT hZ (hw _ (List.mem_of_getElem? (i := 50) rfl))) (mvT hZ (hw _ (List.mem_of_getElem? (i := 49) rfl))) (by decide) (backOf (W := 0) (rm11 l Z a0 hw [] b12 b16 v4 v9 (own_F2 v5) (own_F2 v10) T16.heap n0 Z16 F20 P16_1 F21 P16_2) hZ (hw _ (List.mem_of_getElem? (i := 51) rfl)) (hw _ (List.mem_of_getElem? (i := 8) rfl)) (by decide) (by decide)) q45a q45c (g := (mkF m 257 #[.val (.long x0), .second, .val (.int x1), .val (.long x2), .second, .val (.int x3), .val (.int x4), .val (.long v4), .second, .val (.int v5), .val (.long v9), .second, .val (.int v10), .val (.ref b12), .val (.ref b16), .val (.int v22), .val (.int (1 : Int32))] [(.ref b16), (.ref b12)])) rfl (by rw [hml]; rfl) (Steps.refl _) (argsL := [(.ref b16)]) (rest := []) (lenOf pd0_6 rfl) rfl (by show 2 * 0 + _ ≤ _; exact Nat.le_of_eq rfl) (hb hby at_257) (fun _ _ => ⟨rfl, e39, (by decide : 2 + 0 ≤ _), (by decide : 4 + 0 ≤ _)⟩)
  dsimp only [Pt.U, Pt.locs, Pt.cells, Pt.slots] at X45 l45 y45 z45 st45 hQ45
  subst l45 y45 z45
  obtain ⟨rfl, Nq45, e45⟩ := hQ45
  have N45 := Fr.app N39 Nq45
  have pre45 : Steps p.tables e below (s₁.setTop (entryFrame m #[(.long x0), (.int x1), (.long x2), (.int x3), (.int x4)] maxLocals)) (T45.setTop (mkF m 260 #[.val (.long x0), .second, .val (.int x1), .val (.long x2), .second, .val (.int x3), .val (.int x4), .val (.long v4), .second, .val (.int v5), .val (.long v9), .second, .val (.int v10), .val (.ref b12), .val (.ref b16), .val (.int v22), .val (.int (1 : Int32))] [(.int (own_F11 b12 b16 v4 v9 (own_F2 v5) (own_F2 v10)))])) := pre44.trans st45
  obtain ⟨_, _, ⟨T46, L46, k46, n46⟩, -, X46, ⟨Lc46, hQ46, l46, y46, z46⟩, st46⟩ := Jvm.LawKit.callS X45 hx (y := (⟨"com/example/find_leader/findleader/election/ClaimOfPinLaw", "sign", "(I)I"⟩ : MethodName)) hown (mvT hZ (hw _ (List.mem_of_getElem? (i := 56) rfl))) (mvT hZ (hw _ (List.mem_of_getElem? (i := 57) rfl))) (mvT hZ (hw _ (List.mem_of_getElem? (i := 58) rfl))) (mvT hZ (hw _ (List.mem_of_getElem? (i := 59) rfl))) (by decide) (backOf (W := 0) (rm13 l Z a0 hw [] (own_F11 b12 b16 v4 v9 (own_F2 v5) (own_F2 v10)) T16.heap n0 Z16) hZ (hw _ (List.mem_of_getElem? (i := 59) rfl)) (hw _ (List.mem_of_getElem? (i := 58) rfl)) (by decide) (by decide)) (g := (mkF m 260 #[.val (.long x0), .second, .val (.int x1), .val (.long x2), .second, .val (.int x3), .val (.int x4), .val (.long v4), .second, .val (.int v5), .val (.long v9), .second, .val (.int v10), .val (.ref b12), .val (.ref b16), .val (.int v22), .val (.int (1 : Int32))] [(.int (own_F11 b12 b16 v4 v9 (own_F2 v5) (own_F2 v10)))])) rfl (by rw [hml]; rfl) (argsL := [(.int (own_F11 b12 b16 v4 v9 (own_F2 v5) (own_F2 v10)))]) (rest := []) (lenOf pd0_7 rfl) rfl (by show 2 * 0 + _ ≤ _; exact Nat.le_of_eq rfl) (hb hby at_260) (fun _ _ => ⟨rfl, e45, (by decide : 2 + 0 ≤ _), (by decide : 4 + 0 ≤ _)⟩)
  dsimp only [Pt.U, Pt.locs, Pt.cells, Pt.slots] at X46 l46 y46 z46 st46 hQ46
  subst l46 y46 z46
  obtain ⟨rfl, Nq46, e46⟩ := hQ46
  have N46 := Fr.app N45 Nq46
  have pre46 : Steps p.tables e below (s₁.setTop (entryFrame m #[(.long x0), (.int x1), (.long x2), (.int x3), (.int x4)] maxLocals)) (T46.setTop (mkF m 263 #[.val (.long x0), .second, .val (.int x1), .val (.long x2), .second, .val (.int x3), .val (.int x4), .val (.long v4), .second, .val (.int v5), .val (.long v9), .second, .val (.int v10), .val (.ref b12), .val (.ref b16), .val (.int v22), .val (.int (1 : Int32))] [(.int (own_F13 (own_F11 b12 b16 v4 v9 (own_F2 v5) (own_F2 v10))))])) := pre45.trans (st46 _ (Steps.refl _))
  obtain ⟨v47, hv47⟩ : ∃ z : Int32, z = (own_F13 (own_F11 b12 b16 v4 v9 (own_F2 v5) (own_F2 v10))) := ⟨_, rfl⟩
  have st48 : Steps p.tables e below (T46.setTop (mkF m 263 #[.val (.long x0), .second, .val (.int x1), .val (.long x2), .second, .val (.int x3), .val (.int x4), .val (.long v4), .second, .val (.int v5), .val (.long v9), .second, .val (.int v10), .val (.ref b12), .val (.ref b16), .val (.int v22), .val (.int (1 : Int32))] [(.int (own_F13 (own_F11 b12 b16 v4 v9 (own_F2 v5) (own_F2 v10))))])) (T46.setTop (mkF m 265 #[.val (.long x0), .second, .val (.int x1), .val (.long x2), .second, .val (.int x3), .val (.int x4), .val (.long v4), .second, .val (.int v5), .val (.long v9), .second, .val (.int v10), .val (.ref b12), .val (.ref b16), .val (.int v22), .val (.int (1 : Int32))] [(.int v22), (.int v47)])) := by
    subst v47
    refine XS.iload X46.here hx rfl (hb hby at_263) rfl ?_
    show Steps p.tables e below (T46.setTop (mkF m 265 #[.val (.long x0), .second, .val (.int x1), .val (.long x2), .second, .val (.int x3), .val (.int x4), .val (.long v4), .second, .val (.int v5), .val (.long v9), .second, .val (.int v10), .val (.ref b12), .val (.ref b16), .val (.int v22), .val (.int (1 : Int32))] [(.int v22), (.int (own_F13 (own_F11 b12 b16 v4 v9 (own_F2 v5) (own_F2 v10))))])) _
    exact Steps.refl _
  have pre48 := pre46.trans st48
  have hc265 : v47 = v22 := by
    rw [hv47, hv22]
    exact own_cmp _ _ _ _ _ _
  have st49 : Steps p.tables e below (T46.setTop (mkF m 265 #[.val (.long x0), .second, .val (.int x1), .val (.long x2), .second, .val (.int x3), .val (.int x4), .val (.long v4), .second, .val (.int v5), .val (.long v9), .second, .val (.int v10), .val (.ref b12), .val (.ref b16), .val (.int v22), .val (.int (1 : Int32))] [(.int v22), (.int v47)])) (T46.setTop (mkF m 268 #[.val (.long x0), .second, .val (.int x1), .val (.long x2), .second, .val (.int x3), .val (.int x4), .val (.long v4), .second, .val (.int v5), .val (.long v9), .second, .val (.int v10), .val (.ref b12), .val (.ref b16), .val (.int v22), .val (.int (1 : Int32))] [])) := by
    refine XS.icmpNo X46.here hx rfl (hb hby at_265) rfl (teq hc265).2 ?_
    exact Steps.refl _
  have pre49 := pre48.trans st49
  have st50 : Steps p.tables e below (T46.setTop (mkF m 268 #[.val (.long x0), .second, .val (.int x1), .val (.long x2), .second, .val (.int x3), .val (.int x4), .val (.long v4), .second, .val (.int v5), .val (.long v9), .second, .val (.int v10), .val (.ref b12), .val (.ref b16), .val (.int v22), .val (.int (1 : Int32))] [])) (T46.setTop (mkF m 284 #[.val (.long x0), .second, .val (.int x1), .val (.long x2), .second, .val (.int x3), .val (.int x4), .val (.long v4), .second, .val (.int v5), .val (.long v9), .second, .val (.int v10), .val (.ref b12), .val (.ref b16), .val (.int v22), .val (.int (1 : Int32))] [(.ref b16), (.ref b12)])) := by
    refine XS.iconst X46.here hx rfl (hb hby at_268) ?_
    show Steps p.tables e below (T46.setTop (mkF m 269 #[.val (.long x0), .second, .val (.int x1), .val (.long x2), .second, .val (.int x3), .val (.int x4), .val (.long v4), .second, .val (.int v5), .val (.long v9), .second, .val (.int v10), .val (.ref b12), .val (.ref b16), .val (.int v22), .val (.int (1 : Int32))] [(.int (1 : Int32))])) _
    refine XS.goto X46.here hx rfl (pc0 := 269) (pc' := 273) rfl (hb hby at_269) (by decide) (by decide) ?_
    show Steps p.tables e below (T46.setTop (mkF m 273 #[.val (.long x0), .second, .val (.int x1), .val (.long x2), .second, .val (.int x3), .val (.int x4), .val (.long v4), .second, .val (.int v5), .val (.long v9), .second, .val (.int v10), .val (.ref b12), .val (.ref b16), .val (.int v22), .val (.int (1 : Int32))] [(.int (1 : Int32))])) _
    refine XS.istore X46.here hx rfl (hb hby at_273) rfl (l' := #[.val (.long x0), .second, .val (.int x1), .val (.long x2), .second, .val (.int x3), .val (.int x4), .val (.long v4), .second, .val (.int v5), .val (.long v9), .second, .val (.int v10), .val (.ref b12), .val (.ref b16), .val (.int v22), .val (.int (1 : Int32))]) rfl ?_
    show Steps p.tables e below (T46.setTop (mkF m 275 #[.val (.long x0), .second, .val (.int x1), .val (.long x2), .second, .val (.int x3), .val (.int x4), .val (.long v4), .second, .val (.int v5), .val (.long v9), .second, .val (.int v10), .val (.ref b12), .val (.ref b16), .val (.int v22), .val (.int (1 : Int32))] [])) _
    refine XS.iload X46.here hx rfl (hb hby at_275) rfl ?_
    show Steps p.tables e below (T46.setTop (mkF m 277 #[.val (.long x0), .second, .val (.int x1), .val (.long x2), .second, .val (.int x3), .val (.int x4), .val (.long v4), .second, .val (.int v5), .val (.long v9), .second, .val (.int v10), .val (.ref b12), .val (.ref b16), .val (.int v22), .val (.int (1 : Int32))] [(.int (1 : Int32))])) _
    refine XS.ifNo X46.here hx rfl (hb hby at_277) rfl ((if0 _ _).trans (feq (by decide : ¬ ((1 : Int32) = (0 : Int32)))).1) ?_
    show Steps p.tables e below (T46.setTop (mkF m 280 #[.val (.long x0), .second, .val (.int x1), .val (.long x2), .second, .val (.int x3), .val (.int x4), .val (.long v4), .second, .val (.int v5), .val (.long v9), .second, .val (.int v10), .val (.ref b12), .val (.ref b16), .val (.int v22), .val (.int (1 : Int32))] [])) _
    refine XS.aload X46.here hx rfl (hb hby at_280) rfl rfl ?_
    show Steps p.tables e below (T46.setTop (mkF m 282 #[.val (.long x0), .second, .val (.int x1), .val (.long x2), .second, .val (.int x3), .val (.int x4), .val (.long v4), .second, .val (.int v5), .val (.long v9), .second, .val (.int v10), .val (.ref b12), .val (.ref b16), .val (.int v22), .val (.int (1 : Int32))] [(.ref b12)])) _
    refine XS.aload X46.here hx rfl (hb hby at_282) rfl rfl ?_
    show Steps p.tables e below (T46.setTop (mkF m 284 #[.val (.long x0), .second, .val (.int x1), .val (.long x2), .second, .val (.int x3), .val (.int x4), .val (.long v4), .second, .val (.int v5), .val (.long v9), .second, .val (.int v10), .val (.ref b12), .val (.ref b16), .val (.int v22), .val (.int (1 : Int32))] [(.ref b16), (.ref b12)])) _
    exact Steps.refl _
  have pre50 := pre49.trans st50
  obtain ⟨cq51, kq51, q51a, q51b, q51c⟩ := isOf hZ e46 F19
  obtain ⟨_, _, ⟨T51, L51, k51, n51⟩, -, X51, ⟨Lc51, hQ51, l51, y51, z51⟩, st51⟩ := X46.virtualBack hx (y := (⟨"com/example/find_leader/findleader/election/Claim", "equals", "(Ljava/lang/Object;)Z"⟩ : MethodName)) (z := (⟨"com/example/find_leader/findleader/election/Claim", "equals", "(Ljava/lang/Object;)Z"⟩ : MethodName)) hown (mvT hZ (hw _ (List.mem_of_getElem? (i := 60) rfl))) (mvT hZ (hw _ (List.mem_of_getElem? (i := 61) rfl))) (notFace_of_selects (args := #[]) (mvT hZ (hw _ (List.mem_of_getElem? (i := 63) rfl)))) (mvT hZ (hw _ (List.mem_of_getElem? (i := 63) rfl))) (mvT hZ (hw _ (List.mem_of_getElem? (i := 62) rfl))) (by decide) (backOf (W := 0) (rm14 l Z a0 hw [] b12 b16 v4 v9 (own_F2 v5) (own_F2 v10) T16.heap n0 Z16 P16_0 F20 P16_1 F21 P16_2) hZ (hw _ (List.mem_of_getElem? (i := 64) rfl)) (hw _ (List.mem_of_getElem? (i := 8) rfl)) (by decide) (by decide)) q51a q51c (g := (mkF m 284 #[.val (.long x0), .second, .val (.int x1), .val (.long x2), .second, .val (.int x3), .val (.int x4), .val (.long v4), .second, .val (.int v5), .val (.long v9), .second, .val (.int v10), .val (.ref b12), .val (.ref b16), .val (.int v22), .val (.int (1 : Int32))] [(.ref b16), (.ref b12)])) rfl (by rw [hml]; rfl) (Steps.refl _) (argsL := [(.ref b16)]) (rest := []) (lenOf pd0_8 rfl) rfl (by show 2 * 0 + _ ≤ _; exact Nat.le_of_eq rfl) (hb hby at_284) (fun _ _ => ⟨rfl, e46, (by decide : 2 + 0 ≤ _), (by decide : 4 + 0 ≤ _)⟩)
  dsimp only [Pt.U, Pt.locs, Pt.cells, Pt.slots] at X51 l51 y51 z51 st51 hQ51
  subst l51 y51 z51
  obtain ⟨rfl, Nq51, e51⟩ := hQ51
  have N51 := Fr.app N46 Nq51
  have pre51 : Steps p.tables e below (s₁.setTop (entryFrame m #[(.long x0), (.int x1), (.long x2), (.int x3), (.int x4)] maxLocals)) (T51.setTop (mkF m 287 #[.val (.long x0), .second, .val (.int x1), .val (.long x2), .second, .val (.int x3), .val (.int x4), .val (.long v4), .second, .val (.int v5), .val (.long v9), .second, .val (.int v10), .val (.ref b12), .val (.ref b16), .val (.int v22), .val (.int (1 : Int32))] [(.int (own_F14 b12 b16 v4 v9 (own_F2 v5) (own_F2 v10)))])) := pre50.trans st51
  obtain ⟨v52, hv52⟩ : ∃ z : Int32, z = (own_F14 b12 b16 v4 v9 (own_F2 v5) (own_F2 v10)) := ⟨_, rfl⟩
  obtain ⟨v53, hv53⟩ : ∃ z : Int32, z = (if v22 = (0 : Int32) then (1 : Int32) else (0 : Int32)) := ⟨_, rfl⟩
  have st54 : Steps p.tables e below (T51.setTop (mkF m 287 #[.val (.long x0), .second, .val (.int x1), .val (.long x2), .second, .val (.int x3), .val (.int x4), .val (.long v4), .second, .val (.int v5), .val (.long v9), .second, .val (.int v10), .val (.ref b12), .val (.ref b16), .val (.int v22), .val (.int (1 : Int32))] [(.int (own_F14 b12 b16 v4 v9 (own_F2 v5) (own_F2 v10)))])) (T51.setTop (mkF m 297 #[.val (.long x0), .second, .val (.int x1), .val (.long x2), .second, .val (.int x3), .val (.int x4), .val (.long v4), .second, .val (.int v5), .val (.long v9), .second, .val (.int v10), .val (.ref b12), .val (.ref b16), .val (.int v22), .val (.int (1 : Int32))] [(.int v53), (.int v52)])) := by
    subst v53 v52
    refine XS.iload X51.here hx rfl (hb hby at_287) rfl ?_
    show Steps p.tables e below (T51.setTop (mkF m 289 #[.val (.long x0), .second, .val (.int x1), .val (.long x2), .second, .val (.int x3), .val (.int x4), .val (.long v4), .second, .val (.int v5), .val (.long v9), .second, .val (.int v10), .val (.ref b12), .val (.ref b16), .val (.int v22), .val (.int (1 : Int32))] [(.int v22), (.int (own_F14 b12 b16 v4 v9 (own_F2 v5) (own_F2 v10)))])) _
    refine Steps.trans (s₂ := T51.setTop (mkF m 297 #[.val (.long x0), .second, .val (.int x1), .val (.long x2), .second, .val (.int x3), .val (.int x4), .val (.long v4), .second, .val (.int v5), .val (.long v9), .second, .val (.int v10), .val (.ref b12), .val (.ref b16), .val (.int v22), .val (.int (1 : Int32))] [(.int (if v22 = (0 : Int32) then (1 : Int32) else (0 : Int32))), (.int (own_F14 b12 b16 v4 v9 (own_F2 v5) (own_F2 v10)))])) ?_ ?_
    · by_cases hc289 : v22 = (0 : Int32)
      · refine XS.ifNo X51.here hx rfl (hb hby at_289) rfl ((if0 _ _).trans (teq hc289).2) ?_
        show Steps p.tables e below (T51.setTop (mkF m 292 #[.val (.long x0), .second, .val (.int x1), .val (.long x2), .second, .val (.int x3), .val (.int x4), .val (.long v4), .second, .val (.int v5), .val (.long v9), .second, .val (.int v10), .val (.ref b12), .val (.ref b16), .val (.int v22), .val (.int (1 : Int32))] [(.int (own_F14 b12 b16 v4 v9 (own_F2 v5) (own_F2 v10)))])) _
        refine XS.iconst X51.here hx rfl (hb hby at_292) ?_
        show Steps p.tables e below (T51.setTop (mkF m 293 #[.val (.long x0), .second, .val (.int x1), .val (.long x2), .second, .val (.int x3), .val (.int x4), .val (.long v4), .second, .val (.int v5), .val (.long v9), .second, .val (.int v10), .val (.ref b12), .val (.ref b16), .val (.int v22), .val (.int (1 : Int32))] [(.int (1 : Int32)), (.int (own_F14 b12 b16 v4 v9 (own_F2 v5) (own_F2 v10)))])) _
        refine XS.goto X51.here hx rfl (pc0 := 293) (pc' := 297) rfl (hb hby at_293) (by decide) (by decide) ?_
        show Steps p.tables e below (T51.setTop (mkF m 297 #[.val (.long x0), .second, .val (.int x1), .val (.long x2), .second, .val (.int x3), .val (.int x4), .val (.long v4), .second, .val (.int v5), .val (.long v9), .second, .val (.int v10), .val (.ref b12), .val (.ref b16), .val (.int v22), .val (.int (1 : Int32))] [(.int (1 : Int32)), (.int (own_F14 b12 b16 v4 v9 (own_F2 v5) (own_F2 v10)))])) _
        try simp only [if_pos hc289]
        exact Steps.refl _
      · refine XS.ifYes X51.here hx rfl (pc0 := 289) (pc' := 296) rfl (hb hby at_289) rfl ((if0 _ _).trans (feq hc289).2) (by decide) (by decide) ?_
        show Steps p.tables e below (T51.setTop (mkF m 296 #[.val (.long x0), .second, .val (.int x1), .val (.long x2), .second, .val (.int x3), .val (.int x4), .val (.long v4), .second, .val (.int v5), .val (.long v9), .second, .val (.int v10), .val (.ref b12), .val (.ref b16), .val (.int v22), .val (.int (1 : Int32))] [(.int (own_F14 b12 b16 v4 v9 (own_F2 v5) (own_F2 v10)))])) _
        refine XS.iconst X51.here hx rfl (hb hby at_296) ?_
        show Steps p.tables e below (T51.setTop (mkF m 297 #[.val (.long x0), .second, .val (.int x1), .val (.long x2), .second, .val (.int x3), .val (.int x4), .val (.long v4), .second, .val (.int v5), .val (.long v9), .second, .val (.int v10), .val (.ref b12), .val (.ref b16), .val (.int v22), .val (.int (1 : Int32))] [(.int (0 : Int32)), (.int (own_F14 b12 b16 v4 v9 (own_F2 v5) (own_F2 v10)))])) _
        try simp only [if_neg hc289]
        exact Steps.refl _
    show Steps p.tables e below (T51.setTop (mkF m 297 #[.val (.long x0), .second, .val (.int x1), .val (.long x2), .second, .val (.int x3), .val (.int x4), .val (.long v4), .second, .val (.int v5), .val (.long v9), .second, .val (.int v10), .val (.ref b12), .val (.ref b16), .val (.int v22), .val (.int (1 : Int32))] [(.int (if v22 = (0 : Int32) then (1 : Int32) else (0 : Int32))), (.int (own_F14 b12 b16 v4 v9 (own_F2 v5) (own_F2 v10)))])) _
    exact Steps.refl _
  have pre54 := pre51.trans st54
  have hc297 : v52 = v53 := by
    rw [hv52, hv53, hv22]
    exact own_equ _ _ _ _ _ _
  have st55 : Steps p.tables e below (T51.setTop (mkF m 297 #[.val (.long x0), .second, .val (.int x1), .val (.long x2), .second, .val (.int x3), .val (.int x4), .val (.long v4), .second, .val (.int v5), .val (.long v9), .second, .val (.int v10), .val (.ref b12), .val (.ref b16), .val (.int v22), .val (.int (1 : Int32))] [(.int v53), (.int v52)])) (T51.setTop (mkF m 300 #[.val (.long x0), .second, .val (.int x1), .val (.long x2), .second, .val (.int x3), .val (.int x4), .val (.long v4), .second, .val (.int v5), .val (.long v9), .second, .val (.int v10), .val (.ref b12), .val (.ref b16), .val (.int v22), .val (.int (1 : Int32))] [])) := by
    refine XS.icmpNo X51.here hx rfl (hb hby at_297) rfl (teq hc297).2 ?_
    exact Steps.refl _
  have pre55 := pre54.trans st55
  have st56 : Steps p.tables e below (T51.setTop (mkF m 300 #[.val (.long x0), .second, .val (.int x1), .val (.long x2), .second, .val (.int x3), .val (.int x4), .val (.long v4), .second, .val (.int v5), .val (.long v9), .second, .val (.int v10), .val (.ref b12), .val (.ref b16), .val (.int v22), .val (.int (1 : Int32))] [])) (T51.setTop (mkF m 314 #[.val (.long x0), .second, .val (.int x1), .val (.long x2), .second, .val (.int x3), .val (.int x4), .val (.long v4), .second, .val (.int v5), .val (.long v9), .second, .val (.int v10), .val (.ref b12), .val (.ref b16), .val (.int v22), .val (.int (1 : Int32))] [(.ref b12)])) := by
    refine XS.iconst X51.here hx rfl (hb hby at_300) ?_
    show Steps p.tables e below (T51.setTop (mkF m 301 #[.val (.long x0), .second, .val (.int x1), .val (.long x2), .second, .val (.int x3), .val (.int x4), .val (.long v4), .second, .val (.int v5), .val (.long v9), .second, .val (.int v10), .val (.ref b12), .val (.ref b16), .val (.int v22), .val (.int (1 : Int32))] [(.int (1 : Int32))])) _
    refine XS.goto X51.here hx rfl (pc0 := 301) (pc' := 305) rfl (hb hby at_301) (by decide) (by decide) ?_
    show Steps p.tables e below (T51.setTop (mkF m 305 #[.val (.long x0), .second, .val (.int x1), .val (.long x2), .second, .val (.int x3), .val (.int x4), .val (.long v4), .second, .val (.int v5), .val (.long v9), .second, .val (.int v10), .val (.ref b12), .val (.ref b16), .val (.int v22), .val (.int (1 : Int32))] [(.int (1 : Int32))])) _
    refine XS.istore X51.here hx rfl (hb hby at_305) rfl (l' := #[.val (.long x0), .second, .val (.int x1), .val (.long x2), .second, .val (.int x3), .val (.int x4), .val (.long v4), .second, .val (.int v5), .val (.long v9), .second, .val (.int v10), .val (.ref b12), .val (.ref b16), .val (.int v22), .val (.int (1 : Int32))]) rfl ?_
    show Steps p.tables e below (T51.setTop (mkF m 307 #[.val (.long x0), .second, .val (.int x1), .val (.long x2), .second, .val (.int x3), .val (.int x4), .val (.long v4), .second, .val (.int v5), .val (.long v9), .second, .val (.int v10), .val (.ref b12), .val (.ref b16), .val (.int v22), .val (.int (1 : Int32))] [])) _
    refine XS.iload X51.here hx rfl (hb hby at_307) rfl ?_
    show Steps p.tables e below (T51.setTop (mkF m 309 #[.val (.long x0), .second, .val (.int x1), .val (.long x2), .second, .val (.int x3), .val (.int x4), .val (.long v4), .second, .val (.int v5), .val (.long v9), .second, .val (.int v10), .val (.ref b12), .val (.ref b16), .val (.int v22), .val (.int (1 : Int32))] [(.int (1 : Int32))])) _
    refine XS.ifNo X51.here hx rfl (hb hby at_309) rfl ((if0 _ _).trans (feq (by decide : ¬ ((1 : Int32) = (0 : Int32)))).1) ?_
    show Steps p.tables e below (T51.setTop (mkF m 312 #[.val (.long x0), .second, .val (.int x1), .val (.long x2), .second, .val (.int x3), .val (.int x4), .val (.long v4), .second, .val (.int v5), .val (.long v9), .second, .val (.int v10), .val (.ref b12), .val (.ref b16), .val (.int v22), .val (.int (1 : Int32))] [])) _
    refine XS.aload X51.here hx rfl (hb hby at_312) rfl rfl ?_
    show Steps p.tables e below (T51.setTop (mkF m 314 #[.val (.long x0), .second, .val (.int x1), .val (.long x2), .second, .val (.int x3), .val (.int x4), .val (.long v4), .second, .val (.int v5), .val (.long v9), .second, .val (.int v10), .val (.ref b12), .val (.ref b16), .val (.int v22), .val (.int (1 : Int32))] [(.ref b12)])) _
    exact Steps.refl _
  have pre56 := pre55.trans st56
  obtain ⟨T57, X57, e57, st57⟩ := getS2 X51 hx hZ hown (host := "") (Or.inl (hw _ (List.mem_of_getElem? (i := 66) rfl))) Via.refl e51 (S_N.ext O16.2) (g := (mkF m 314 #[.val (.long x0), .second, .val (.int x1), .val (.long x2), .second, .val (.int x3), .val (.int x4), .val (.long v4), .second, .val (.int v5), .val (.long v9), .second, .val (.int v10), .val (.ref b12), .val (.ref b16), .val (.int v22), .val (.int (1 : Int32))] [(.ref b12)])) rfl (hb hby at_314)
  have pre57 : Steps p.tables e below (s₁.setTop (entryFrame m #[(.long x0), (.int x1), (.long x2), (.int x3), (.int x4)] maxLocals)) (T57.setTop (mkF m 317 #[.val (.long x0), .second, .val (.int x1), .val (.long x2), .second, .val (.int x3), .val (.int x4), .val (.long v4), .second, .val (.int v5), .val (.long v9), .second, .val (.int v10), .val (.ref b12), .val (.ref b16), .val (.int v22), .val (.int (1 : Int32))] [(.ref aN), (.ref b12)])) := pre56.trans (st57 _ (Steps.refl _))
  obtain ⟨cq58, kq58, q58a, q58b, q58c⟩ := isOf hZ e57 F19
  obtain ⟨_, _, ⟨T58, L58, k58, n58⟩, -, X58, ⟨Lc58, hQ58, l58, y58, z58⟩, st58⟩ := X57.virtualBack hx (y := (⟨"com/example/find_leader/findleader/election/Claim", "compareTo", "(Lcom/example/find_leader/findleader/election/Claim;)I"⟩ : MethodName)) (z := (⟨"com/example/find_leader/findleader/election/Claim", "compareTo", "(Lcom/example/find_leader/findleader/election/Claim;)I"⟩ : MethodName)) hown (mvT hZ (hw _ (List.mem_of_getElem? (i := 47) rfl))) (mvT hZ (hw _ (List.mem_of_getElem? (i := 48) rfl))) (notFace_of_selects (args := #[]) (mvT hZ (hw _ (List.mem_of_getElem? (i := 50) rfl)))) (mvT hZ (hw _ (List.mem_of_getElem? (i := 50) rfl))) (mvT hZ (hw _ (List.mem_of_getElem? (i := 49) rfl))) (by decide) (backOf (W := 0) (rm12 l Z a0 hw [] b12 aN v4 (0 : Int64) T16.heap n0 Z16 F20 F18 (own_ne9 T1)) hZ (hw _ (List.mem_of_getElem? (i := 51) rfl)) (hw _ (List.mem_of_getElem? (i := 8) rfl)) (by decide) (by decide)) q58a q58c (g := (mkF m 317 #[.val (.long x0), .second, .val (.int x1), .val (.long x2), .second, .val (.int x3), .val (.int x4), .val (.long v4), .second, .val (.int v5), .val (.long v9), .second, .val (.int v10), .val (.ref b12), .val (.ref b16), .val (.int v22), .val (.int (1 : Int32))] [(.ref aN), (.ref b12)])) rfl (by rw [hml]; rfl) (Steps.refl _) (argsL := [(.ref aN)]) (rest := []) (lenOf pd0_6 rfl) rfl (by show 2 * 0 + _ ≤ _; exact Nat.le_of_eq rfl) (hb hby at_317) (fun _ _ => ⟨rfl, e57, (by decide : 2 + 0 ≤ _), (by decide : 4 + 0 ≤ _)⟩)
  dsimp only [Pt.U, Pt.locs, Pt.cells, Pt.slots] at X58 l58 y58 z58 st58 hQ58
  subst l58 y58 z58
  obtain ⟨rfl, Nq58, e58⟩ := hQ58
  have N58 := Fr.app N51 Nq58
  have pre58 : Steps p.tables e below (s₁.setTop (entryFrame m #[(.long x0), (.int x1), (.long x2), (.int x3), (.int x4)] maxLocals)) (T58.setTop (mkF m 320 #[.val (.long x0), .second, .val (.int x1), .val (.long x2), .second, .val (.int x3), .val (.int x4), .val (.long v4), .second, .val (.int v5), .val (.long v9), .second, .val (.int v10), .val (.ref b12), .val (.ref b16), .val (.int v22), .val (.int (1 : Int32))] [(.int (own_F12 b12 aN v4 (0 : Int64)))])) := pre57.trans st58
  have hc320 : (0 : Int32) < (own_F12 b12 aN v4 (0 : Int64)) := by
    simp only [own_F12]
    rw [own_c9 T1]
    decide
  have st59 : Steps p.tables e below (T58.setTop (mkF m 320 #[.val (.long x0), .second, .val (.int x1), .val (.long x2), .second, .val (.int x3), .val (.int x4), .val (.long v4), .second, .val (.int v5), .val (.long v9), .second, .val (.int v10), .val (.ref b12), .val (.ref b16), .val (.int v22), .val (.int (1 : Int32))] [(.int (own_F12 b12 aN v4 (0 : Int64)))])) (T58.setTop (mkF m 323 #[.val (.long x0), .second, .val (.int x1), .val (.long x2), .second, .val (.int x3), .val (.int x4), .val (.long v4), .second, .val (.int v5), .val (.long v9), .second, .val (.int v10), .val (.ref b12), .val (.ref b16), .val (.int v22), .val (.int (1 : Int32))] [])) := by
    refine XS.ifNo X58.here hx rfl (hb hby at_320) rfl ((if0 _ _).trans (tlt hc320).2.2.2) ?_
    exact Steps.refl _
  have pre59 := pre58.trans st59
  have st60 : Steps p.tables e below (T58.setTop (mkF m 323 #[.val (.long x0), .second, .val (.int x1), .val (.long x2), .second, .val (.int x3), .val (.int x4), .val (.long v4), .second, .val (.int v5), .val (.long v9), .second, .val (.int v10), .val (.ref b12), .val (.ref b16), .val (.int v22), .val (.int (1 : Int32))] [])) (T58.setTop (mkF m 332 #[.val (.long x0), .second, .val (.int x1), .val (.long x2), .second, .val (.int x3), .val (.int x4), .val (.long v4), .second, .val (.int v5), .val (.long v9), .second, .val (.int v10), .val (.ref b12), .val (.ref b16), .val (.int v22), .val (.int (1 : Int32))] [(.int (1 : Int32))])) := by
    refine XS.iconst X58.here hx rfl (hb hby at_323) ?_
    show Steps p.tables e below (T58.setTop (mkF m 324 #[.val (.long x0), .second, .val (.int x1), .val (.long x2), .second, .val (.int x3), .val (.int x4), .val (.long v4), .second, .val (.int v5), .val (.long v9), .second, .val (.int v10), .val (.ref b12), .val (.ref b16), .val (.int v22), .val (.int (1 : Int32))] [(.int (1 : Int32))])) _
    refine XS.goto X58.here hx rfl (pc0 := 324) (pc' := 328) rfl (hb hby at_324) (by decide) (by decide) ?_
    show Steps p.tables e below (T58.setTop (mkF m 328 #[.val (.long x0), .second, .val (.int x1), .val (.long x2), .second, .val (.int x3), .val (.int x4), .val (.long v4), .second, .val (.int v5), .val (.long v9), .second, .val (.int v10), .val (.ref b12), .val (.ref b16), .val (.int v22), .val (.int (1 : Int32))] [(.int (1 : Int32))])) _
    refine XS.istore X58.here hx rfl (hb hby at_328) rfl (l' := #[.val (.long x0), .second, .val (.int x1), .val (.long x2), .second, .val (.int x3), .val (.int x4), .val (.long v4), .second, .val (.int v5), .val (.long v9), .second, .val (.int v10), .val (.ref b12), .val (.ref b16), .val (.int v22), .val (.int (1 : Int32))]) rfl ?_
    show Steps p.tables e below (T58.setTop (mkF m 330 #[.val (.long x0), .second, .val (.int x1), .val (.long x2), .second, .val (.int x3), .val (.int x4), .val (.long v4), .second, .val (.int v5), .val (.long v9), .second, .val (.int v10), .val (.ref b12), .val (.ref b16), .val (.int v22), .val (.int (1 : Int32))] [])) _
    refine XS.iload X58.here hx rfl (hb hby at_330) rfl ?_
    show Steps p.tables e below (T58.setTop (mkF m 332 #[.val (.long x0), .second, .val (.int x1), .val (.long x2), .second, .val (.int x3), .val (.int x4), .val (.long v4), .second, .val (.int v5), .val (.long v9), .second, .val (.int v10), .val (.ref b12), .val (.ref b16), .val (.int v22), .val (.int (1 : Int32))] [(.int (1 : Int32))])) _
    exact Steps.refl _
  have pre60 := pre59.trans st60
  obtain ⟨fs, hr, hrun, hended, hW, hsame⟩ := X58.leave (v := some (.int (1 : Int32))) (fun h => by rw [Bd.returns] at h; cases h)
  refine ⟨_, _, pre60.trans ?_, hrun, hended, _, _, rfl, ?_, ⟨_, rfl⟩, hW, hsame.mono (by decide) (by decide)⟩
  · show Steps p.tables e below (T58.setTop (mkF m 332 #[.val (.long x0), .second, .val (.int x1), .val (.long x2), .second, .val (.int x3), .val (.int x4), .val (.long v4), .second, .val (.int v5), .val (.long v9), .second, .val (.int v10), .val (.ref b12), .val (.ref b16), .val (.int v22), .val (.int (1 : Int32))] [(.int (1 : Int32))])) _
    exact retN X58 hx (t := .boolean) Bd.returns (by simp) (hb hby at_332) hr
  · show Q0 Z x0 x1 x2 x3 x4 aN h0 n0 _ T58.heap _
    rw [e58]
    exact ⟨rfl, N58⟩
set_option maxRecDepth 65536 in
set_option maxHeartbeats 40000000 in
theorem comes_1 {Post : Tables → Env → Array Value → State → Outcome → State → Prop} (hpost : ∀ tb e args s v u, (limb_1_1.after args s (.returned v) u = true ∧ limb_1_2.after args s (.returned v) u = true ∧ True) → FrameEnd s (.returned v) u (Jvm.fieldLocs frame_1_writes args s ++ Jvm.arrayLocs frame_1_arrays args s ++ Jvm.staticLocs frame_1_statics s) 16 128 → Post tb e args s (.returned v) u) :
    ArmFor flags0 classFile x code maxLocals ret World_1 tables_1 room_1 Calls_1 rest_1 Pre_1 Post := by
  intro l hfl _ _ p e ha hc hk s m args below hf hA hF happ hP
  obtain ⟨hcalls, hrest, hpre⟩ := hP
  obtain ⟨-, -, -, hnamed, -, -, -, hat⟩ := (Spec.applies_iff hf).mp happ
  obtain ⟨hg, hn⟩ := and_e (Cond.before_iff.mp (show (Jvm.Cond.and given_1 narrow_1).before args s = true from hpre))
  obtain ⟨g1, g2⟩ := and_e hg
  obtain ⟨g3, g4⟩ := and_e g2
  obtain ⟨g5, g6⟩ := and_e g4
  obtain ⟨g7, g8⟩ := and_e g6
  obtain ⟨g9, g10⟩ := and_e g8
  obtain ⟨w0, w1, w2, w3, w4, rfl⟩ : ∃ w0 w1 w2 w3 w4 : Value, args = #[w0, w1, w2, w3, w4] := by
    have hs : args.size = 5 := by simpa [Cond.value, given_1] using g1
    obtain ⟨L⟩ := args
    match L, hs with
    | [w0, w1, w2, w3, w4], _ => exact ⟨w0, w1, w2, w3, w4, rfl⟩
  have hw := fun d (hd : d ∈ tables_1) => atoms_spec (ws := Jvm.Cond.code x code maxLocals ret :: tables_1) hat d (List.mem_cons_of_mem _ hd)
  obtain ⟨i0, ei0⟩ := isL_v g3
  obtain rfl : w0 = (.long i0) := Option.some.inj ei0
  obtain ⟨i1, ei1⟩ := is_v g5
  obtain rfl : w1 = (.int i1) := Option.some.inj ei1
  obtain ⟨i2, ei2⟩ := isL_v g7
  obtain rfl : w2 = (.long i2) := Option.some.inj ei2
  obtain ⟨i3, ei3⟩ := is_v g9
  obtain rfl : w3 = (.int i3) := Option.some.inj ei3
  obtain ⟨i4, ei4⟩ := is_v g10
  obtain rfl : w4 = (.int i4) := Option.some.inj ei4
  obtain ⟨nn0, nn1⟩ := and_e hn
  obtain ⟨aN, evN⟩ := exa_v nn0
  have ExN : Exa s s.heap aN "com/example/find_leader/findleader/election/Claim" := Exa.start evN nn0
  have StN : Sta s s.heap "com/example/find_leader/findleader/election/Claim" "NONE" "Lcom/example/find_leader/findleader/election/Claim;" (.ref aN) := Sta.start evN (Or.inr ⟨(hw _ (List.mem_of_getElem? (i := 8) rfl)), (hw _ (List.mem_of_getElem? (i := 67) rfl))⟩)
  have FsN_term : Fld s s.heap aN "com/example/find_leader/findleader/election/Claim" "term" "J" (.long (0 : Int64)) := Fld.start ((fld_at evN).symm.trans (own_eqL nn1))
  obtain ⟨n, o, h1, h2, h3, _, L, rfl, ⟨rfl, N⟩, hq⟩ := rm0 l s _ hw tables_1 i0 i1 i2 i3 i4 aN s.heap s.heap.size (Nat.le_refl _) (Old.start s) ExN FsN_term StN p e ha hc hk s m _ below hf ((Spec.applies_iff_loose hf).mp happ).1 ⟨rfl, State.Warmed39.refl s, rfl⟩ trivial
  refine ⟨n, _, h1, h2, h3, hpost _ _ _ _ _ _ ⟨Cond.after_iff.mpr rfl, Cond.after_iff.mpr (eq_i res_at (Term.int_eval (1)) rfl), trivial⟩ ⟨hq.1, hq.2.1, (hq.2.2.sift fun y hy => Or.inr (N y hy)).mono (by decide) (by decide)⟩⟩
theorem main_1_1 : Claimed_1_1 := comes_1 fun _ _ _ _ _ _ h hF => ⟨h.1, hF⟩
theorem main_1_2 : Claimed_1_2 := comes_1 fun _ _ _ _ _ _ h hF => ⟨h.2.1, hF⟩
end Jvm.Pilot.@@N@@
namespace Jvm.Pilot.@@N@@
open Jvm Jvm.ClassFile Sem Op Lib Jvm.Free Jvm.Stand Jvm.Pilot.@@N@@.Jvm.D
/-! MADE BY PROGRAM (witnessworld.py) out of the Statement's table words and the real class files: 17 classes; the members and pool entries that the words name. The judged class is class 1, her method 2. -/
namespace start1
open Jvm.ClassFile
def u (s : String) : CpInfo := .utf8 (stringToUtf16 s)
/-- a pool by its gaps: so many unusable entries, then the entry; so many at the end -/
def gap : Nat → List CpInfo → List CpInfo
  | 0, r => r
  | n + 1, r => .unusable :: gap n r
def poolList (es : List (Nat × CpInfo)) (last : Nat) : List CpInfo := es.foldr (fun e r => gap e.1 (e.2 :: r)) (gap last [])
def pool (es : List (Nat × CpInfo)) (last : Nat) : Array CpInfo := ⟨poolList es last⟩
def fileOf (pool : Array CpInfo) (this : Nat) (attrs : Array Attribute := #[]) (ms : Array MethodInfo := #[]) (fl : Nat := 33) (sup : Nat := 0) (ifs : Array Nat := #[]) (fds : Array FieldInfo := #[]) : ClassFile where
  minorVersion := 0
  majorVersion := 65
  constantPool := pool
  accessFlags := fl
  thisClass := this
  superClass := sup
  interfaces := ifs
  fields := fds
  methods := ms
  attributes := attrs
def plain (name : String) (sup : Option ClassId) : Class where
  name := name
  kind := .ordinary
  loader := none
  accessFlags := 33
  super := sup
  interfaces := #[]
  cf := none
  fields := #[]
  methods := #[]
  instanceTypes := #[]
  staticTypes := #[]
  resolved := #[]
  callSites := []
  init := .initialized
  statics := none
  mirror := none

def pool0 : Array CpInfo := pool [(5, u "<init>"), (0, u "()V"), (1, .class_ 10), (1, u "java/lang/Object")] 113

def k0c0 : Code := { maxStack := 0, maxLocals := 1, code := object_method_1_code, exceptionTable := #[], attributes := #[] }
def k0m0 : Method := { name := "<init>", desc := "()V", sig := { parameters := [], returnType := none }, accessFlags := 1, code := some k0c0 }
/-- java/lang/Object -/
def k0 : Class := { plain "java/lang/Object" none with
  accessFlags := 33
  interfaces := #[]
  cf := some (fileOf pool0 8 #[] #[{ accessFlags := 1, nameIndex := 5, descriptorIndex := 6, attributes := #[] }] 33 0 #[] #[])
  fields := #[]
  methods := #[k0m0]
  instanceTypes := #[]
  staticTypes := #[]
  resolved := Array.replicate 124 none
  statics := none }

def pool1 : Array CpInfo := pool [(2, .class_ 4), (1, u "java/lang/Object"), (0, u "<init>"), (0, u "()V"), (2, .long 9223372036854775807), (1, .methodref 12 13), (0, .class_ 14), (0, .nameAndType 15 16), (0, u "java/lang/Math"), (0, u "max"), (0, u "(JJ)J"), (0, .integer 2147483647), (0, .methodref 19 20), (0, .class_ 21), (0, .nameAndType 22 23), (0, u "com/example/find_leader/findleader/election/Claim"), (0, u "of"), (0, u "(JI)Lcom/example/find_leader/findleader/election/Claim;"), (0, .methodref 19 25), (0, .nameAndType 26 27), (0, u "getTerm"), (0, u "()J"), (0, .methodref 19 29), (0, .nameAndType 30 31), (0, u "getId"), (0, u "()I"), (0, .methodref 19 33), (0, .nameAndType 34 35), (0, u "isNone"), (0, u "()Z"), (0, .methodref 19 37), (0, .nameAndType 38 39), (0, u "names"), (0, u "(I)Z"), (0, .methodref 19 41), (0, .nameAndType 42 43), (0, u "compareTo"), (0, u "(Lcom/example/find_leader/findleader/election/Claim;)I"), (0, .methodref 45 46), (0, .class_ 47), (0, .nameAndType 48 49), (0, u "com/example/find_leader/findleader/election/ClaimOfPinLaw"), (0, u "sign"), (0, u "(I)I"), (0, .methodref 19 51), (0, .nameAndType 52 53), (0, u "equals"), (0, u "(Ljava/lang/Object;)Z"), (0, .fieldref 19 55), (0, .nameAndType 56 57), (0, u "NONE"), (0, u "Lcom/example/find_leader/findleader/election/Claim;"), (3, u "law"), (0, u "(JIJII)Z")] 2

def k1m0 : Method := { name := "<init>", desc := "()V", sig := { parameters := [], returnType := none }, accessFlags := 1, code := none }
def k1c1 : Code := { maxStack := 1, maxLocals := 1, code := method_2_code, exceptionTable := #[], attributes := #[] }
def k1m1 : Method := { name := "sign", desc := "(I)I", sig := { parameters := [.int], returnType := some .int }, accessFlags := 10, code := some k1c1 }
def k1c2 : Code := { maxStack := 6, maxLocals := 17, code := code, exceptionTable := #[], attributes := #[] }
def k1m2 : Method := { name := "law", desc := "(JIJII)Z", sig := { parameters := [.long, .int, .long, .int, .int], returnType := some .boolean }, accessFlags := 9, code := some k1c2 }
/-- com/example/find_leader/findleader/election/ClaimOfPinLaw -/
def k1 : Class := { plain "com/example/find_leader/findleader/election/ClaimOfPinLaw" (some 0) with
  accessFlags := 49
  interfaces := #[]
  cf := some (fileOf pool1 45 #[] #[{ accessFlags := 1, nameIndex := 5, descriptorIndex := 6, attributes := #[] }, { accessFlags := 10, nameIndex := 48, descriptorIndex := 49, attributes := #[] }, { accessFlags := 9, nameIndex := 61, descriptorIndex := 62, attributes := #[] }] 49 2 #[] #[])
  fields := #[]
  methods := #[k1m0, k1m1, k1m2]
  instanceTypes := #[]
  staticTypes := #[]
  resolved := Array.replicate 65 none
  statics := none }

def pool2 : Array CpInfo := pool [(1, .class_ 2), (0, u "java/lang/Math"), (1, .class_ 6), (1, u "java/lang/Object"), (0, u "<init>"), (0, u "()V"), (89, .class_ 100), (1, u "java/lang/Math$RandomNumberGeneratorHolder"), (20, u "(JJ)J"), (50, u "negativeZeroFloatBits"), (0, u "J"), (2, u "negativeZeroDoubleBits"), (21, u "max"), (46, u "$assertionsDisabled"), (0, u "Z"), (91, u "twoToTheDoubleScaleDown"), (0, u "D"), (4, u "twoToTheDoubleScaleUp"), (9, u "E"), (3, u "PI"), (2, u "TAU"), (2, u "DEGREES_TO_RADIANS"), (0, u "RADIANS_TO_DEGREES")] 94

def k2m0 : Method := { name := "<init>", desc := "()V", sig := { parameters := [], returnType := none }, accessFlags := 2, code := none }
def k2c1 : Code := { maxStack := 4, maxLocals := 4, code := jdk_29_method_66_code, exceptionTable := #[], attributes := #[] }
def k2m1 : Method := { name := "max", desc := "(JJ)J", sig := { parameters := [.long, .long], returnType := some .long }, accessFlags := 9, code := some k2c1 }
/-- java/lang/Math -/
def k2 : Class := { plain "java/lang/Math" (some 0) with
  accessFlags := 49
  interfaces := #[]
  cf := some (fileOf pool2 1 #[.nestMembers #[98]] #[{ accessFlags := 2, nameIndex := 7, descriptorIndex := 8, attributes := #[] }, { accessFlags := 9, nameIndex := 198, descriptorIndex := 121, attributes := #[] }] 49 4 #[] #[{ accessFlags := 25, nameIndex := 354, descriptorIndex := 339, attributes := #[] }, { accessFlags := 25, nameIndex := 358, descriptorIndex := 339, attributes := #[] }, { accessFlags := 25, nameIndex := 361, descriptorIndex := 339, attributes := #[] }, { accessFlags := 26, nameIndex := 364, descriptorIndex := 339, attributes := #[] }, { accessFlags := 26, nameIndex := 365, descriptorIndex := 339, attributes := #[] }, { accessFlags := 26, nameIndex := 172, descriptorIndex := 173, attributes := #[] }, { accessFlags := 26, nameIndex := 176, descriptorIndex := 173, attributes := #[] }, { accessFlags := 8, nameIndex := 344, descriptorIndex := 339, attributes := #[] }, { accessFlags := 8, nameIndex := 338, descriptorIndex := 339, attributes := #[] }, { accessFlags := 4120, nameIndex := 245, descriptorIndex := 246, attributes := #[] }])
  fields := #[{ name := "E", type := .double, accessFlags := 25, slot := 0, constantValue := 0 }, { name := "PI", type := .double, accessFlags := 25, slot := 1, constantValue := 0 }, { name := "TAU", type := .double, accessFlags := 25, slot := 2, constantValue := 0 }, { name := "DEGREES_TO_RADIANS", type := .double, accessFlags := 26, slot := 3, constantValue := 0 }, { name := "RADIANS_TO_DEGREES", type := .double, accessFlags := 26, slot := 4, constantValue := 0 }, { name := "negativeZeroFloatBits", type := .long, accessFlags := 26, slot := 5, constantValue := 0 }, { name := "negativeZeroDoubleBits", type := .long, accessFlags := 26, slot := 6, constantValue := 0 }, { name := "twoToTheDoubleScaleUp", type := .double, accessFlags := 8, slot := 7, constantValue := 0 }, { name := "twoToTheDoubleScaleDown", type := .double, accessFlags := 8, slot := 8, constantValue := 0 }, { name := "$assertionsDisabled", type := .boolean, accessFlags := 4120, slot := 9, constantValue := 0 }]
  methods := #[k2m0, k2m1]
  instanceTypes := #[]
  staticTypes := #[.double, .double, .double, .double, .double, .long, .long, .double, .double, .boolean]
  resolved := Array.replicate 460 none
  statics := none }

def pool3 : Array CpInfo := pool [(1, .class_ 2), (0, u "java/lang/Comparable"), (0, .class_ 4), (0, u "java/lang/Object")] 7

/-- java/lang/Comparable -/
def k3 : Class := { plain "java/lang/Comparable" (some 0) with
  accessFlags := 1537
  interfaces := #[]
  cf := some (fileOf pool3 1 #[] #[] 1537 3 #[] #[])
  fields := #[]
  methods := #[]
  instanceTypes := #[]
  staticTypes := #[]
  resolved := Array.replicate 12 none
  statics := none }

def pool4 : Array CpInfo := pool [(1, .methodref 2 3), (0, .class_ 4), (0, .nameAndType 5 6), (0, u "java/lang/Object"), (0, u "<init>"), (0, u "()V"), (0, .fieldref 8 9), (0, .class_ 10), (0, .nameAndType 11 12), (0, u "com/example/find_leader/findleader/election/Claim"), (0, u "term"), (0, u "J"), (0, .fieldref 8 14), (0, .nameAndType 15 16), (0, u "id"), (0, u "I"), (9, .methodref 27 28), (0, .class_ 29), (0, .nameAndType 30 31), (0, u "com/example/find_leader/findleader/election/Group"), (0, u "checkId"), (0, u "(I)I"), (0, .methodref 8 33), (0, .nameAndType 5 34), (0, u "(JI)V"), (8, u "of"), (0, u "(JI)Lcom/example/find_leader/findleader/election/Claim;"), (0, .methodref 8 46), (0, .nameAndType 47 48), (0, u "isNone"), (0, u "()Z"), (5, .methodref 55 56), (0, .class_ 57), (0, .nameAndType 58 59), (0, u "java/lang/Long"), (0, u "compare"), (0, u "(JJ)I"), (0, .methodref 61 62), (0, .class_ 63), (0, .nameAndType 58 64), (0, u "java/lang/Integer"), (0, u "(II)I"), (15, u "compareTo"), (0, u "(Lcom/example/find_leader/findleader/election/Claim;)I"), (2, u "NONE"), (0, u "Lcom/example/find_leader/findleader/election/Claim;"), (0, .class_ 87), (0, u "java/lang/Comparable"), (0, u "NO_ID"), (7, u "getTerm"), (0, u "()J"), (0, u "names"), (0, u "(I)Z"), (0, u "getId"), (0, u "()I"), (0, u "equals"), (0, u "(Ljava/lang/Object;)Z")] 27

def k4c0 : Code := { maxStack := 3, maxLocals := 4, code := prog_5_method_1_code, exceptionTable := #[], attributes := #[] }
def k4m0 : Method := { name := "<init>", desc := "(JI)V", sig := { parameters := [.long, .int], returnType := none }, accessFlags := 2, code := some k4c0 }
def k4c1 : Code := { maxStack := 5, maxLocals := 3, code := prog_5_method_2_code, exceptionTable := #[], attributes := #[] }
def k4m1 : Method := { name := "of", desc := "(JI)Lcom/example/find_leader/findleader/election/Claim;", sig := { parameters := [.long, .int], returnType := some (.object "com/example/find_leader/findleader/election/Claim") }, accessFlags := 9, code := some k4c1 }
def k4c2 : Code := { maxStack := 2, maxLocals := 1, code := prog_5_method_4_code, exceptionTable := #[], attributes := #[] }
def k4m2 : Method := { name := "getTerm", desc := "()J", sig := { parameters := [], returnType := some .long }, accessFlags := 1, code := some k4c2 }
def k4c3 : Code := { maxStack := 2, maxLocals := 1, code := prog_5_method_5_code, exceptionTable := #[], attributes := #[] }
def k4m3 : Method := { name := "isNone", desc := "()Z", sig := { parameters := [], returnType := some .boolean }, accessFlags := 1, code := some k4c3 }
def k4c4 : Code := { maxStack := 2, maxLocals := 2, code := prog_5_method_6_code, exceptionTable := #[], attributes := #[] }
def k4m4 : Method := { name := "names", desc := "(I)Z", sig := { parameters := [.int], returnType := some .boolean }, accessFlags := 1, code := some k4c4 }
def k4c5 : Code := { maxStack := 3, maxLocals := 1, code := prog_5_method_7_code, exceptionTable := #[], attributes := #[] }
def k4m5 : Method := { name := "getId", desc := "()I", sig := { parameters := [], returnType := some .int }, accessFlags := 1, code := some k4c5 }
def k4c6 : Code := { maxStack := 4, maxLocals := 3, code := prog_5_method_8_code, exceptionTable := #[], attributes := #[] }
def k4m6 : Method := { name := "compareTo", desc := "(Lcom/example/find_leader/findleader/election/Claim;)I", sig := { parameters := [(.object "com/example/find_leader/findleader/election/Claim")], returnType := some .int }, accessFlags := 1, code := some k4c6 }
def k4c7 : Code := { maxStack := 4, maxLocals := 3, code := prog_5_method_9_code, exceptionTable := #[], attributes := #[] }
def k4m7 : Method := { name := "equals", desc := "(Ljava/lang/Object;)Z", sig := { parameters := [(.object "java/lang/Object")], returnType := some .boolean }, accessFlags := 1, code := some k4c7 }
/-- com/example/find_leader/findleader/election/Claim -/
def k4 : Class := { plain "com/example/find_leader/findleader/election/Claim" (some 0) with
  accessFlags := 49
  interfaces := #[3]
  cf := some (fileOf pool4 8 #[] #[{ accessFlags := 2, nameIndex := 5, descriptorIndex := 34, attributes := #[] }, { accessFlags := 9, nameIndex := 43, descriptorIndex := 44, attributes := #[] }, { accessFlags := 1, nameIndex := 96, descriptorIndex := 97, attributes := #[] }, { accessFlags := 1, nameIndex := 47, descriptorIndex := 48, attributes := #[] }, { accessFlags := 1, nameIndex := 98, descriptorIndex := 99, attributes := #[] }, { accessFlags := 1, nameIndex := 100, descriptorIndex := 101, attributes := #[] }, { accessFlags := 1, nameIndex := 80, descriptorIndex := 81, attributes := #[] }, { accessFlags := 1, nameIndex := 102, descriptorIndex := 103, attributes := #[] }] 49 2 #[86] #[{ accessFlags := 26, nameIndex := 88, descriptorIndex := 16, attributes := #[] }, { accessFlags := 25, nameIndex := 84, descriptorIndex := 85, attributes := #[] }, { accessFlags := 18, nameIndex := 11, descriptorIndex := 12, attributes := #[] }, { accessFlags := 18, nameIndex := 15, descriptorIndex := 16, attributes := #[] }])
  fields := #[{ name := "NO_ID", type := .int, accessFlags := 26, slot := 0, constantValue := 0 }, { name := "NONE", type := (.object "com/example/find_leader/findleader/election/Claim"), accessFlags := 25, slot := 1, constantValue := 0 }, { name := "term", type := .long, accessFlags := 18, slot := 0, constantValue := 0 }, { name := "id", type := .int, accessFlags := 18, slot := 1, constantValue := 0 }]
  methods := #[k4m0, k4m1, k4m2, k4m3, k4m4, k4m5, k4m6, k4m7]
  instanceTypes := #[.long, .int]
  staticTypes := #[.int, (.object "com/example/find_leader/findleader/election/Claim")]
  resolved := Array.replicate 131 none
  statics := some 0 }

def pool5 : Array CpInfo := pool [(2, .class_ 4), (1, u "java/lang/Object"), (3, .class_ 10), (1, u "com/example/find_leader/findleader/election/Group"), (0, u "ids"), (0, u "[I"), (2, u "members"), (0, u "Ljava/util/List;"), (2, u "places"), (37, u "checkId"), (0, u "(I)I"), (35, .class_ 95), (0, u "com/example/find_leader/findleader/election/Group$1")] 66

def k5c0 : Code := { maxStack := 3, maxLocals := 1, code := prog_9_method_3_code, exceptionTable := #[], attributes := #[] }
def k5m0 : Method := { name := "checkId", desc := "(I)I", sig := { parameters := [.int], returnType := some .int }, accessFlags := 8, code := some k5c0 }
/-- com/example/find_leader/findleader/election/Group -/
def k5 : Class := { plain "com/example/find_leader/findleader/election/Group" (some 0) with
  accessFlags := 49
  interfaces := #[]
  cf := some (fileOf pool5 8 #[.nestMembers #[94]] #[{ accessFlags := 8, nameIndex := 57, descriptorIndex := 58, attributes := #[] }] 49 2 #[] #[{ accessFlags := 18, nameIndex := 11, descriptorIndex := 12, attributes := #[] }, { accessFlags := 18, nameIndex := 15, descriptorIndex := 16, attributes := #[] }, { accessFlags := 18, nameIndex := 19, descriptorIndex := 12, attributes := #[] }])
  fields := #[{ name := "ids", type := (.array .int), accessFlags := 18, slot := 0, constantValue := 0 }, { name := "members", type := (.object "java/util/List"), accessFlags := 18, slot := 1, constantValue := 0 }, { name := "places", type := (.array .int), accessFlags := 18, slot := 2, constantValue := 0 }]
  methods := #[k5m0]
  instanceTypes := #[(.array .int), (.object "java/util/List"), (.array .int)]
  staticTypes := #[]
  resolved := Array.replicate 162 none
  statics := none }

def pool6 : Array CpInfo := pool [(1, .class_ 2), (0, u "java/io/Serializable"), (0, .class_ 4), (0, u "java/lang/Object")] 2

/-- java/io/Serializable -/
def k6 : Class := { plain "java/io/Serializable" (some 0) with
  accessFlags := 1537
  interfaces := #[]
  cf := some (fileOf pool6 1 #[] #[] 1537 3 #[] #[])
  fields := #[]
  methods := #[]
  instanceTypes := #[]
  staticTypes := #[]
  resolved := Array.replicate 7 none
  statics := none }

def pool7 : Array CpInfo := pool [(2, .class_ 4), (1, u "java/lang/Object"), (0, u "<init>"), (0, u "()V"), (1, .class_ 10), (1, u "java/lang/Number"), (2, .class_ 14), (0, u "java/io/Serializable"), (0, u "serialVersionUID"), (0, u "J")] 20

def k7m0 : Method := { name := "<init>", desc := "()V", sig := { parameters := [], returnType := none }, accessFlags := 1, code := none }
/-- java/lang/Number -/
def k7 : Class := { plain "java/lang/Number" (some 0) with
  accessFlags := 1057
  interfaces := #[6]
  cf := some (fileOf pool7 8 #[] #[{ accessFlags := 1, nameIndex := 5, descriptorIndex := 6, attributes := #[] }] 1057 2 #[13] #[{ accessFlags := 26, nameIndex := 15, descriptorIndex := 16, attributes := #[] }])
  fields := #[{ name := "serialVersionUID", type := .long, accessFlags := 26, slot := 0, constantValue := 0 }]
  methods := #[k7m0]
  instanceTypes := #[]
  staticTypes := #[.long]
  resolved := Array.replicate 37 none
  statics := none }

def pool8 : Array CpInfo := pool [(1, .class_ 2), (0, u "java/lang/constant/Constable"), (0, .class_ 4), (0, u "java/lang/Object")] 6

/-- java/lang/constant/Constable -/
def k8 : Class := { plain "java/lang/constant/Constable" (some 0) with
  accessFlags := 1537
  interfaces := #[]
  cf := some (fileOf pool8 1 #[] #[] 1537 3 #[] #[])
  fields := #[]
  methods := #[]
  instanceTypes := #[]
  staticTypes := #[]
  resolved := Array.replicate 11 none
  statics := none }

def pool9 : Array CpInfo := pool [(1, .class_ 2), (0, u "java/lang/constant/ConstantDesc"), (0, .class_ 4), (0, u "java/lang/Object")] 32

/-- java/lang/constant/ConstantDesc -/
def k9 : Class := { plain "java/lang/constant/ConstantDesc" (some 0) with
  accessFlags := 1537
  interfaces := #[]
  cf := some (fileOf pool9 1 #[] #[] 1537 3 #[] #[])
  fields := #[]
  methods := #[]
  instanceTypes := #[]
  staticTypes := #[]
  resolved := Array.replicate 37 none
  statics := none }

def pool10 : Array CpInfo := pool [(1, .class_ 2), (0, u "java/lang/Long"), (232, .class_ 237), (1, u "java/lang/Long$LongCache"), (33, .class_ 272), (0, u "java/lang/Number"), (2, u "value"), (0, u "J"), (27, u "compare"), (0, u "(JJ)I"), (55, u "TYPE"), (0, u "Ljava/lang/Class;"), (0, .class_ 364), (0, u "java/lang/Comparable"), (0, .class_ 366), (0, u "java/lang/constant/Constable"), (0, .class_ 368), (0, u "java/lang/constant/ConstantDesc"), (0, u "MIN_VALUE"), (1, u "MAX_VALUE"), (4, u "SIZE"), (0, u "I"), (1, u "BYTES"), (1, u "serialVersionUID")] 142

def k10c0 : Code := { maxStack := 4, maxLocals := 4, code := jdk_35_method_42_code, exceptionTable := #[], attributes := #[] }
def k10m0 : Method := { name := "compare", desc := "(JJ)I", sig := { parameters := [.long, .long], returnType := some .int }, accessFlags := 9, code := some k10c0 }
/-- java/lang/Long -/
def k10 : Class := { plain "java/lang/Long" (some 7) with
  accessFlags := 49
  interfaces := #[3, 8, 9]
  cf := some (fileOf pool10 1 #[.nestMembers #[235]] #[{ accessFlags := 9, nameIndex := 304, descriptorIndex := 305, attributes := #[] }] 49 271 #[363, 365, 367] #[{ accessFlags := 25, nameIndex := 369, descriptorIndex := 276, attributes := #[] }, { accessFlags := 25, nameIndex := 371, descriptorIndex := 276, attributes := #[] }, { accessFlags := 25, nameIndex := 361, descriptorIndex := 362, attributes := #[] }, { accessFlags := 18, nameIndex := 275, descriptorIndex := 276, attributes := #[] }, { accessFlags := 25, nameIndex := 376, descriptorIndex := 377, attributes := #[] }, { accessFlags := 25, nameIndex := 379, descriptorIndex := 377, attributes := #[] }, { accessFlags := 26, nameIndex := 381, descriptorIndex := 276, attributes := #[] }])
  fields := #[{ name := "MIN_VALUE", type := .long, accessFlags := 25, slot := 0, constantValue := 0 }, { name := "MAX_VALUE", type := .long, accessFlags := 25, slot := 1, constantValue := 0 }, { name := "TYPE", type := (.object "java/lang/Class"), accessFlags := 25, slot := 2, constantValue := 0 }, { name := "value", type := .long, accessFlags := 18, slot := 0, constantValue := 0 }, { name := "SIZE", type := .int, accessFlags := 25, slot := 3, constantValue := 0 }, { name := "BYTES", type := .int, accessFlags := 25, slot := 4, constantValue := 0 }, { name := "serialVersionUID", type := .long, accessFlags := 26, slot := 5, constantValue := 0 }]
  methods := #[k10m0]
  instanceTypes := #[.long]
  staticTypes := #[.long, .long, (.object "java/lang/Class"), .int, .int, .long]
  resolved := Array.replicate 524 none
  statics := none }

def pool11 : Array CpInfo := pool [(1, .class_ 2), (0, u "java/lang/Integer"), (16, u "digits"), (0, u "[C"), (39, u "(II)I"), (24, u "DigitOnes"), (0, u "[B"), (2, u "DigitTens"), (99, .class_ 190), (0, u "java/lang/Integer$IntegerCache"), (3, u "I"), (8, .class_ 204), (0, u "java/lang/Number"), (2, u "value"), (53, u "compare"), (40, u "TYPE"), (0, u "Ljava/lang/Class;"), (0, .class_ 305), (0, u "java/lang/Comparable"), (0, .class_ 307), (0, u "java/lang/constant/Constable"), (0, .class_ 309), (0, u "java/lang/constant/ConstantDesc"), (0, u "MIN_VALUE"), (1, u "MAX_VALUE"), (3, u "SIZE"), (1, u "BYTES"), (1, u "serialVersionUID"), (0, u "J")] 131

def k11c0 : Code := { maxStack := 2, maxLocals := 2, code := jdk_33_method_40_code, exceptionTable := #[], attributes := #[] }
def k11m0 : Method := { name := "compare", desc := "(II)I", sig := { parameters := [.int, .int], returnType := some .int }, accessFlags := 9, code := some k11c0 }
/-- java/lang/Integer -/
def k11 : Class := { plain "java/lang/Integer" (some 7) with
  accessFlags := 49
  interfaces := #[3, 8, 9]
  cf := some (fileOf pool11 1 #[.nestMembers #[189]] #[{ accessFlags := 9, nameIndex := 261, descriptorIndex := 60, attributes := #[] }] 49 203 #[304, 306, 308] #[{ accessFlags := 25, nameIndex := 310, descriptorIndex := 194, attributes := #[] }, { accessFlags := 25, nameIndex := 312, descriptorIndex := 194, attributes := #[] }, { accessFlags := 25, nameIndex := 302, descriptorIndex := 303, attributes := #[] }, { accessFlags := 24, nameIndex := 19, descriptorIndex := 20, attributes := #[] }, { accessFlags := 24, nameIndex := 89, descriptorIndex := 86, attributes := #[] }, { accessFlags := 24, nameIndex := 85, descriptorIndex := 86, attributes := #[] }, { accessFlags := 18, nameIndex := 207, descriptorIndex := 194, attributes := #[] }, { accessFlags := 25, nameIndex := 316, descriptorIndex := 194, attributes := #[] }, { accessFlags := 25, nameIndex := 318, descriptorIndex := 194, attributes := #[] }, { accessFlags := 26, nameIndex := 320, descriptorIndex := 321, attributes := #[] }])
  fields := #[{ name := "MIN_VALUE", type := .int, accessFlags := 25, slot := 0, constantValue := 0 }, { name := "MAX_VALUE", type := .int, accessFlags := 25, slot := 1, constantValue := 0 }, { name := "TYPE", type := (.object "java/lang/Class"), accessFlags := 25, slot := 2, constantValue := 0 }, { name := "digits", type := (.array .char), accessFlags := 24, slot := 3, constantValue := 0 }, { name := "DigitTens", type := (.array .byte), accessFlags := 24, slot := 4, constantValue := 0 }, { name := "DigitOnes", type := (.array .byte), accessFlags := 24, slot := 5, constantValue := 0 }, { name := "value", type := .int, accessFlags := 18, slot := 0, constantValue := 0 }, { name := "SIZE", type := .int, accessFlags := 25, slot := 6, constantValue := 0 }, { name := "BYTES", type := .int, accessFlags := 25, slot := 7, constantValue := 0 }, { name := "serialVersionUID", type := .long, accessFlags := 26, slot := 8, constantValue := 0 }]
  methods := #[k11m0]
  instanceTypes := #[.int]
  staticTypes := #[.int, .int, (.object "java/lang/Class"), (.array .char), (.array .byte), (.array .byte), .int, .int, .long]
  resolved := Array.replicate 453 none
  statics := none }

def pool12 : Array CpInfo := pool [(1, u "java/lang/Cloneable"), (0, .class_ 1), (0, u "java/lang/Object"), (0, .class_ 3)] 3

/-- java/lang/Cloneable -/
def k12 : Class := { plain "java/lang/Cloneable" (some 0) with
  accessFlags := 1537
  interfaces := #[]
  cf := some (fileOf pool12 2 #[] #[] 1537 4 #[] #[])
  fields := #[]
  methods := #[]
  instanceTypes := #[]
  staticTypes := #[]
  resolved := Array.replicate 8 none
  statics := none }

/-- the primitive byte -/
def k13 : Class := { plain "byte" none with kind := .primitive 'B', accessFlags := 0x411 }
/-- [B -/
def k14 : Class := { plain "[B" (some 0) with kind := .array 13 .byte, interfaces := #[12, 6], accessFlags := 1041 }

/-- the primitive int -/
def k15 : Class := { plain "int" none with kind := .primitive 'I', accessFlags := 0x411 }
/-- [I -/
def k16 : Class := { plain "[I" (some 0) with kind := .array 15 .int, interfaces := #[12, 6], accessFlags := 1041 }

def heap : Heap := #[{ cls := 4, slots := #[.int 0, .ref 1], vm := .statics 4 },
  { cls := 4, slots := #[.long 0, .int (-1)], vm := .none }]
def classes : Array Class := #[k0, k1, k2, k3, k4, k5, k6, k7, k8, k9, k10, k11, k12, k13, k14, k15, k16]
def interned : List (Array UInt16 × Addr) := []
def slotsUsed : Nat := 4
def theMethod : MethodId := ⟨1, 2⟩
def args0 : Array Value := #[.long 5, .int 77, .long 2, .int 3, .int 1]
def aboutOver (below : List Frame) : State where
  vm := { classes := classes, interned := interned.toArray }
  heap := heap
  slotsUsed := slotsUsed
  threads := #[{ frames := .invoking theMethod args0 :: below }]
def below0 : List Frame := [.native { method := ⟨0, 0⟩, args := #[] }]
def about1 : State := aboutOver below0
def p0 : Program := .bare "" "" ""
def e0 : Env := launch0.env 0 0 0
theorem w_frames : about1.frames = Frame.invoking theMethod args0 :: below0 := rfl
set_option maxRecDepth 65536 in
theorem w_args : argsFit about1.vm theMethod args0 = true := by decide +kernel
set_option maxRecDepth 65536 in
theorem w_heap : heapFits about1 = true := by decide +kernel
set_option maxRecDepth 65536 in
theorem w_runnable : about1.curStatus? = some .runnable := by decide +kernel
set_option maxRecDepth 65536 in
theorem w_alone : about1.alone = true := by decide +kernel
set_option maxRecDepth 65536 in
theorem w_named : about1.methodNamed? x = some theMethod := by decide +kernel
set_option maxRecDepth 65536 in
theorem w_hears : about1.hears theMethod below0 = true := by decide +kernel
set_option maxRecDepth 65536 in
theorem w_ripe : about1.ripe theMethod args0 below0 = true := by decide +kernel
theorem w_running : about1.status = .running := rfl
set_option maxRecDepth 65536 in
theorem w_room : about1.hasRoom e0.platform room_1 = true :=
  launch0.hasRoom_least _ room_1 (by decide +kernel) (by decide +kernel) (by decide +kernel) (by decide +kernel) (by decide +kernel) (by decide +kernel)
theorem allAtoms_all (ts : List Jvm.Cond) (a : Array Jvm.Value) (st : Jvm.State) : (allAtoms ts).before a st = ts.all (fun c => c.before a st) := by
  induction ts with
  | nil => rfl
  | cons c t ih =>
    show (Jvm.Cond.and c (allAtoms t)).before a st = _
    rw [Jvm.Cond.before_and, ih, List.all_cons]
def words1 : List Jvm.Cond := Jvm.Cond.code x code maxLocals ret :: tables_1
/-- a 'code' word, met by the world's own term for the bytes: nothing is compared byte by byte -/
theorem code_word {y : MethodName} {bytes : ByteArray} {mx : Nat} {rt : Option FieldType} {a : Array Value} {s : State} {m : MethodId} {meth : Method} {c : Code} (h1 : s.methodNamed? y = some m) (h2 : s.vm.method? m = some meth) (h3 : meth.code = some c) (h4 : c.code = bytes)
    (h5 : (c.maxLocals == mx && c.exceptionTable.isEmpty && decide (c.maxStack ≤ mostOperands) && decide (meth.sig.returnType = rt) && !meth.locks && decide (parseMethodDescriptor y.desc = some meth.sig)) = true) : (Jvm.Cond.code y bytes mx rt).before a s = true := by
  simp only [Bool.and_eq_true, beq_iff_eq, Bool.not_eq_true', decide_eq_true_eq] at h5
  obtain ⟨⟨⟨⟨⟨g1, g2⟩, g3⟩, g4⟩, g5⟩, g6⟩ := h5
  simp [Cond.before, Cond.holds, Cond.value, h1, h2, h3, h4, g1, g2, g3, g4, g5, g6]
def isCode : Jvm.Cond → Bool
  | .code _ _ _ _ => true
  | _ => false
theorem all_split {L : List Jvm.Cond} {P : Jvm.Cond → Bool} (h1 : L.all (fun c => isCode c || P c) = true) (h2 : ∀ c ∈ L.filter isCode, P c = true) : L.all P = true := by
  refine List.all_eq_true.mpr fun c hc => ?_
  have h := List.all_eq_true.mp h1 c hc
  rcases Bool.eq_false_or_eq_true (isCode c) with hi | hi
  · exact h2 c (List.mem_filter.mpr ⟨hc, hi⟩)
  · simpa [hi] using h
set_option maxRecDepth 65536 in
theorem w_c0 : (Jvm.Cond.code x code maxLocals ret).before args0 about1 = true := code_word (m := ⟨1, 2⟩) (meth := k1m2) (c := k1c2) (by decide +kernel) rfl rfl rfl (by decide +kernel)
set_option maxRecDepth 65536 in
theorem w_c1 : (Jvm.Cond.code ({ cls := "java/lang/Math", name := "max", desc := "(JJ)J" } : Jvm.MethodName) jdk_29_method_66_code (4 : Nat) (Option.some Jvm.ClassFile.FieldType.long)).before args0 about1 = true := code_word (m := ⟨2, 1⟩) (meth := k2m1) (c := k2c1) (by decide +kernel) rfl rfl rfl (by decide +kernel)
set_option maxRecDepth 65536 in
theorem w_c2 : (Jvm.Cond.code ({ cls := "com/example/find_leader/findleader/election/Claim", name := "of", desc := "(JI)Lcom/example/find_leader/findleader/election/Claim;" } : Jvm.MethodName) prog_5_method_2_code (3 : Nat) (Option.some (Jvm.ClassFile.FieldType.object "com/example/find_leader/findleader/election/Claim"))).before args0 about1 = true := code_word (m := ⟨4, 1⟩) (meth := k4m1) (c := k4c1) (by decide +kernel) rfl rfl rfl (by decide +kernel)
set_option maxRecDepth 65536 in
theorem w_c3 : (Jvm.Cond.code ({ cls := "com/example/find_leader/findleader/election/Group", name := "checkId", desc := "(I)I" } : Jvm.MethodName) prog_9_method_3_code (1 : Nat) (Option.some Jvm.ClassFile.FieldType.int)).before args0 about1 = true := code_word (m := ⟨5, 0⟩) (meth := k5m0) (c := k5c0) (by decide +kernel) rfl rfl rfl (by decide +kernel)
set_option maxRecDepth 65536 in
theorem w_c4 : (Jvm.Cond.code ({ cls := "com/example/find_leader/findleader/election/Claim", name := "<init>", desc := "(JI)V" } : Jvm.MethodName) prog_5_method_1_code (4 : Nat) (Option.none : Option Jvm.ClassFile.FieldType)).before args0 about1 = true := code_word (m := ⟨4, 0⟩) (meth := k4m0) (c := k4c0) (by decide +kernel) rfl rfl rfl (by decide +kernel)
set_option maxRecDepth 65536 in
theorem w_c5 : (Jvm.Cond.code ({ cls := "java/lang/Object", name := "<init>", desc := "()V" } : Jvm.MethodName) object_method_1_code (1 : Nat) (Option.none : Option Jvm.ClassFile.FieldType)).before args0 about1 = true := code_word (m := ⟨0, 0⟩) (meth := k0m0) (c := k0c0) (by decide +kernel) rfl rfl rfl (by decide +kernel)
set_option maxRecDepth 65536 in
theorem w_c6 : (Jvm.Cond.code ({ cls := "com/example/find_leader/findleader/election/Claim", name := "getTerm", desc := "()J" } : Jvm.MethodName) prog_5_method_4_code (1 : Nat) (Option.some Jvm.ClassFile.FieldType.long)).before args0 about1 = true := code_word (m := ⟨4, 2⟩) (meth := k4m2) (c := k4c2) (by decide +kernel) rfl rfl rfl (by decide +kernel)
set_option maxRecDepth 65536 in
theorem w_c7 : (Jvm.Cond.code ({ cls := "com/example/find_leader/findleader/election/Claim", name := "getId", desc := "()I" } : Jvm.MethodName) prog_5_method_7_code (1 : Nat) (Option.some Jvm.ClassFile.FieldType.int)).before args0 about1 = true := code_word (m := ⟨4, 5⟩) (meth := k4m5) (c := k4c5) (by decide +kernel) rfl rfl rfl (by decide +kernel)
set_option maxRecDepth 65536 in
theorem w_c8 : (Jvm.Cond.code ({ cls := "com/example/find_leader/findleader/election/Claim", name := "isNone", desc := "()Z" } : Jvm.MethodName) prog_5_method_5_code (1 : Nat) (Option.some Jvm.ClassFile.FieldType.boolean)).before args0 about1 = true := code_word (m := ⟨4, 3⟩) (meth := k4m3) (c := k4c3) (by decide +kernel) rfl rfl rfl (by decide +kernel)
set_option maxRecDepth 65536 in
theorem w_c9 : (Jvm.Cond.code ({ cls := "com/example/find_leader/findleader/election/Claim", name := "names", desc := "(I)Z" } : Jvm.MethodName) prog_5_method_6_code (2 : Nat) (Option.some Jvm.ClassFile.FieldType.boolean)).before args0 about1 = true := code_word (m := ⟨4, 4⟩) (meth := k4m4) (c := k4c4) (by decide +kernel) rfl rfl rfl (by decide +kernel)
set_option maxRecDepth 65536 in
theorem w_c10 : (Jvm.Cond.code ({ cls := "com/example/find_leader/findleader/election/Claim", name := "compareTo", desc := "(Lcom/example/find_leader/findleader/election/Claim;)I" } : Jvm.MethodName) prog_5_method_8_code (3 : Nat) (Option.some Jvm.ClassFile.FieldType.int)).before args0 about1 = true := code_word (m := ⟨4, 6⟩) (meth := k4m6) (c := k4c6) (by decide +kernel) rfl rfl rfl (by decide +kernel)
set_option maxRecDepth 65536 in
theorem w_c11 : (Jvm.Cond.code ({ cls := "java/lang/Long", name := "compare", desc := "(JJ)I" } : Jvm.MethodName) jdk_35_method_42_code (4 : Nat) (Option.some Jvm.ClassFile.FieldType.int)).before args0 about1 = true := code_word (m := ⟨10, 0⟩) (meth := k10m0) (c := k10c0) (by decide +kernel) rfl rfl rfl (by decide +kernel)
set_option maxRecDepth 65536 in
theorem w_c12 : (Jvm.Cond.code ({ cls := "com/example/find_leader/findleader/election/ClaimOfPinLaw", name := "sign", desc := "(I)I" } : Jvm.MethodName) method_2_code (1 : Nat) (Option.some Jvm.ClassFile.FieldType.int)).before args0 about1 = true := code_word (m := ⟨1, 1⟩) (meth := k1m1) (c := k1c1) (by decide +kernel) rfl rfl rfl (by decide +kernel)
set_option maxRecDepth 65536 in
theorem w_c13 : (Jvm.Cond.code ({ cls := "com/example/find_leader/findleader/election/Claim", name := "equals", desc := "(Ljava/lang/Object;)Z" } : Jvm.MethodName) prog_5_method_9_code (3 : Nat) (Option.some Jvm.ClassFile.FieldType.boolean)).before args0 about1 = true := code_word (m := ⟨4, 7⟩) (meth := k4m7) (c := k4c7) (by decide +kernel) rfl rfl rfl (by decide +kernel)
set_option maxRecDepth 65536 in
theorem w_c14 : (Jvm.Cond.code ({ cls := "java/lang/Integer", name := "compare", desc := "(II)I" } : Jvm.MethodName) jdk_33_method_40_code (2 : Nat) (Option.some Jvm.ClassFile.FieldType.int)).before args0 about1 = true := code_word (m := ⟨11, 0⟩) (meth := k11m0) (c := k11c0) (by decide +kernel) rfl rfl rfl (by decide +kernel)
def codes1 : List Jvm.Cond := [Jvm.Cond.code x code maxLocals ret, Jvm.Cond.code ({ cls := "java/lang/Math", name := "max", desc := "(JJ)J" } : Jvm.MethodName) jdk_29_method_66_code (4 : Nat) (Option.some Jvm.ClassFile.FieldType.long), Jvm.Cond.code ({ cls := "com/example/find_leader/findleader/election/Claim", name := "of", desc := "(JI)Lcom/example/find_leader/findleader/election/Claim;" } : Jvm.MethodName) prog_5_method_2_code (3 : Nat) (Option.some (Jvm.ClassFile.FieldType.object "com/example/find_leader/findleader/election/Claim")), Jvm.Cond.code ({ cls := "com/example/find_leader/findleader/election/Group", name := "checkId", desc := "(I)I" } : Jvm.MethodName) prog_9_method_3_code (1 : Nat) (Option.some Jvm.ClassFile.FieldType.int), Jvm.Cond.code ({ cls := "com/example/find_leader/findleader/election/Claim", name := "<init>", desc := "(JI)V" } : Jvm.MethodName) prog_5_method_1_code (4 : Nat) (Option.none : Option Jvm.ClassFile.FieldType), Jvm.Cond.code ({ cls := "java/lang/Object", name := "<init>", desc := "()V" } : Jvm.MethodName) object_method_1_code (1 : Nat) (Option.none : Option Jvm.ClassFile.FieldType), Jvm.Cond.code ({ cls := "com/example/find_leader/findleader/election/Claim", name := "getTerm", desc := "()J" } : Jvm.MethodName) prog_5_method_4_code (1 : Nat) (Option.some Jvm.ClassFile.FieldType.long), Jvm.Cond.code ({ cls := "com/example/find_leader/findleader/election/Claim", name := "getId", desc := "()I" } : Jvm.MethodName) prog_5_method_7_code (1 : Nat) (Option.some Jvm.ClassFile.FieldType.int), Jvm.Cond.code ({ cls := "com/example/find_leader/findleader/election/Claim", name := "isNone", desc := "()Z" } : Jvm.MethodName) prog_5_method_5_code (1 : Nat) (Option.some Jvm.ClassFile.FieldType.boolean), Jvm.Cond.code ({ cls := "com/example/find_leader/findleader/election/Claim", name := "names", desc := "(I)Z" } : Jvm.MethodName) prog_5_method_6_code (2 : Nat) (Option.some Jvm.ClassFile.FieldType.boolean), Jvm.Cond.code ({ cls := "com/example/find_leader/findleader/election/Claim", name := "compareTo", desc := "(Lcom/example/find_leader/findleader/election/Claim;)I" } : Jvm.MethodName) prog_5_method_8_code (3 : Nat) (Option.some Jvm.ClassFile.FieldType.int), Jvm.Cond.code ({ cls := "java/lang/Long", name := "compare", desc := "(JJ)I" } : Jvm.MethodName) jdk_35_method_42_code (4 : Nat) (Option.some Jvm.ClassFile.FieldType.int), Jvm.Cond.code ({ cls := "com/example/find_leader/findleader/election/ClaimOfPinLaw", name := "sign", desc := "(I)I" } : Jvm.MethodName) method_2_code (1 : Nat) (Option.some Jvm.ClassFile.FieldType.int), Jvm.Cond.code ({ cls := "com/example/find_leader/findleader/election/Claim", name := "equals", desc := "(Ljava/lang/Object;)Z" } : Jvm.MethodName) prog_5_method_9_code (3 : Nat) (Option.some Jvm.ClassFile.FieldType.boolean), Jvm.Cond.code ({ cls := "java/lang/Integer", name := "compare", desc := "(II)I" } : Jvm.MethodName) jdk_33_method_40_code (2 : Nat) (Option.some Jvm.ClassFile.FieldType.int)]
set_option maxRecDepth 65536 in
theorem codes_eq : words1.filter isCode = codes1 := rfl
theorem w_codes : ∀ c ∈ words1.filter isCode, c.before args0 about1 = true := by
  rw [codes_eq]
  intro c hc
  simp only [codes1, List.mem_cons, List.not_mem_nil, or_false] at hc
  rcases hc with rfl | rfl | rfl | rfl | rfl | rfl | rfl | rfl | rfl | rfl | rfl | rfl | rfl | rfl | rfl
  · exact w_c0
  · exact w_c1
  · exact w_c2
  · exact w_c3
  · exact w_c4
  · exact w_c5
  · exact w_c6
  · exact w_c7
  · exact w_c8
  · exact w_c9
  · exact w_c10
  · exact w_c11
  · exact w_c12
  · exact w_c13
  · exact w_c14
set_option maxRecDepth 65536 in
theorem w_t1 : (words1.take 24).all (fun c => isCode c || c.before args0 about1) = true := by decide +kernel
set_option maxRecDepth 65536 in
theorem w_t2 : ((words1.drop 24).take 24).all (fun c => isCode c || c.before args0 about1) = true := by decide +kernel
set_option maxRecDepth 65536 in
theorem w_t3 : (((words1.drop 24).drop 24).take 24).all (fun c => isCode c || c.before args0 about1) = true := by decide +kernel
set_option maxRecDepth 65536 in
theorem w_t4 : (((words1.drop 24).drop 24).drop 24).all (fun c => isCode c || c.before args0 about1) = true := by decide +kernel
theorem w_tables : (allAtoms (Jvm.Cond.code x code maxLocals ret :: tables_1)).before args0 about1 = true := by
  rw [allAtoms_all]
  show words1.all (fun c => c.before args0 about1) = true
  refine all_split ?_ w_codes
  rw [← List.take_append_drop 24 words1, List.all_append, w_t1, ← List.take_append_drop 24 (words1.drop 24), List.all_append, w_t2, ← List.take_append_drop 24 ((words1.drop 24).drop 24), List.all_append, w_t3, w_t4]
  rfl
set_option maxRecDepth 65536 in
theorem w_case : (Jvm.Cond.and given_1 narrow_1).before args0 about1 = true := by decide +kernel
theorem w_applies : (headSpec (Jvm.Cond.code x code maxLocals ret :: tables_1) room_1).applies x e0.platform about1 = true :=
  (Spec.applies_iff w_frames).mpr ⟨w_running, w_runnable, w_alone, w_named, w_hears, w_ripe, w_room, w_tables⟩
theorem atStart : AtStart classFile x code maxLocals ret World_1 tables_1 room_1 Calls_1 rest_1 Pre_1 launch0 p0 e0 about1 theMethod args0 below0 :=
  ⟨lists_1, trivial, launch0.admits_env _ _ _, launch0.least_env, fairChoices_fair.cas, fairChoices_fair.clock, w_frames, w_args, w_heap, w_applies, trivial, trivial, w_case⟩
end start1
theorem witness_1 : WitnessClaimed_1 := ⟨start1.p0, start1.e0, start1.about1, start1.theMethod, start1.args0, start1.below0, start1.atStart⟩
end Jvm.Pilot.@@N@@
