import JvmDerived
import JvmDerived.Pilot.@@N@@Statement
import JvmDerived.Pilot.@@N@@Code
set_option linter.unusedVariables false
set_option linter.unusedSimpArgs false

namespace Jvm.RoadKit
open Sem ClassFile Op Lib Jvm.Stand Jvm.Free Jvm.LawKit
section New
variable {p : Program} {l : Launch} {e : Env} {R : Room} {s : State} {m : MethodId} {args : Array Value} {below : List Frame} {meth : Method} {c : Code} {T : State} {locs : List Loc} {cells slots : Nat}
theorem retI (X : Stand p l e R s m args below meth c T locs cells slots) (hx : p.tables.exec = Jvm.exec) {pc : Nat} {Ls : Array Slot} {z : Int32} {rest : List Value} (hret : meth.sig.returnType = some .int) (hd : decode c.code pc = .ok (.ireturn, 1)) {fs : List Frame}
    (hl : ∀ (f : JFrame) (acts : List Action), f.method = m → f.locked = none → f.entered = [] → (doReturn e (T.setTop f) acts (some (.int z))).1 = T.setFrames fs) : Steps p.tables e below (T.setTop (mkF m pc Ls (.int z :: rest))) (T.setFrames fs) := by
  have hm' : T.vm.method? m = some meth := X.method'
  have hn : narrow .int (.int z) = .int z := rfl
  show Steps p.tables e below (T.setTop { method := m, pc := pc, locals := Ls, stack := _ :: rest, locked := none }) _
  jvm_step X.here [X.here.top, hx, hd, hm', hret, hn]
  first | (intro acts; rw [hl _ acts rfl rfl rfl]) | rw [hl _ _ rfl rfl rfl]
  exact Steps.refl _
end New
end Jvm.RoadKit
namespace Jvm.Pilot.@@N@@
open Jvm Jvm.ClassFile Sem Op Lib Jvm.Free Jvm.Stand Jvm.LawKit Jvm.RoadKit Bundle Jvm.Pilot.@@N@@.Jvm.D

def own_vmn (p1 : Int32) (p2 : Int32) : Int32 :=
  if p2 < p1 then p2 else
  p1
theorem own_d1_0 : decode jdk_29_method_69_code 0 = .ok (.iload_n 0, 1) := by decide +kernel
theorem own_d1_1 : decode jdk_29_method_69_code 1 = .ok (.iload_n 1, 1) := by decide +kernel
theorem own_d1_2 : decode jdk_29_method_69_code 2 = .ok (.if_icmp .gt 7, 3) := by decide +kernel
theorem own_d1_5 : decode jdk_29_method_69_code 5 = .ok (.iload_n 0, 1) := by decide +kernel
theorem own_d1_6 : decode jdk_29_method_69_code 6 = .ok (.goto 4, 3) := by decide +kernel
theorem own_d1_9 : decode jdk_29_method_69_code 9 = .ok (.iload_n 1, 1) := by decide +kernel
theorem own_d1_10 : decode jdk_29_method_69_code 10 = .ok (.ireturn, 1) := by decide +kernel
theorem own_efmn (m : MethodId) (x0 : Int32) (x1 : Int32) : entryFrame m #[(.int x0), (.int x1)] 2 = mkF m 0 #[.val (.int x0), .val (.int x1)] [] := by first | (simp [entryFrame, mkF, argsToLocals, Value.category]; done) | rfl
def own_Qmn (Z : State) (p1 : Int32) (p2 : Int32) (h0 : Heap) (n0 : Nat) (v : Option Value) (h : Heap) (L : List Loc) : Prop := v = some (.int (own_vmn p1 p2)) ∧ Fr n0 L ∧ h = h0
set_option maxRecDepth 65536 in
set_option maxHeartbeats 40000000 in
theorem own_rmmn (l : Launch) (Z : State) (a0 : Array Value) (hw : ∀ d ∈ tables_1, d.before a0 Z = true) (ws : List Jvm.Cond) (p1 : Int32) (p2 : Int32) (h0 : Heap) (n0 : Nat) (Z0 : n0 ≤ h0.size) :
    MetFree l (⟨"java/lang/Math", "min", "(II)I"⟩ : MethodName) (head1 (Jvm.Cond.code (⟨"java/lang/Math", "min", "(II)I"⟩ : MethodName) jdk_29_method_69_code 2 (some .int) :: ws) ({ frames := 0, cells := 0, slots := 0, locals := 0 } : Room)) (fun aa U => aa = #[(.int p1), (.int p2)] ∧ Z.Warmed39 U.vm ∧ U.heap = h0) (fun _ _ _ _ _ => True) (fun _ U o U' => ∃ v L, o = .returned v ∧ own_Qmn Z p1 p2 h0 n0 v U'.heap L ∧ FrameEnd U o U' L ({ frames := 0, cells := 0, slots := 0, locals := 0 } : Room).cells ({ frames := 0, cells := 0, slots := 0, locals := 0 } : Room).slots) := by
  refine MetFree.of_bodySF (Jvm.Free.JP.mathPlain rfl (by decide +kernel)) hisR ?_
  intro p e s m args below meth c s₁ Bd hml0 hP hK
  obtain ⟨rfl, hZ, hh⟩ := hP
  have hx := Bd.exec
  have hby := Bd.bytes
  have hml : c.maxLocals = 2 := hml0
  have hown : s.vm.findClass "java/lang/Math" = some m.cls := findClass_of_methodNamed Bd.named
  have hnm := (name_of_methodNamed Bd.named Bd.method).1
  have X0 : Stand p l e ({ frames := 0, cells := 0, slots := 0, locals := 0 } : Room) s m #[(.int p1), (.int p2)] below meth c s₁ [] 0 0 := Stand.of_body Bd
  have e0 : s₁.heap = h0 := by rw [← hh, Bd.state]; rfl
  have N0 := Fr.nil n0
  have pre0 : ∀ t, Steps p.tables e below (s₁.setTop (mkF m 0 #[.val (.int p1), .val (.int p2)] [])) t → Steps p.tables e below (s₁.setTop (entryFrame m #[(.int p1), (.int p2)] 2)) t := fun t k => castTop (own_efmn m p1 p2) k
  have k1 : ∀ t, Steps p.tables e below (s₁.setTop (mkF m 2 #[.val (.int p1), .val (.int p2)] [(.int p2), (.int p1)])) t → Steps p.tables e below (s₁.setTop (entryFrame m #[(.int p1), (.int p2)] 2)) t := by
    intro t k
    refine pre0 t ?_
    show Steps p.tables e below (s₁.setTop (mkF m 0 #[.val (.int p1), .val (.int p2)] [])) _
    refine XS.iloadN X0.here hx rfl (hb hby own_d1_0) rfl ?_
    show Steps p.tables e below (s₁.setTop (mkF m 1 #[.val (.int p1), .val (.int p2)] [(.int p1)])) _
    refine XS.iloadN X0.here hx rfl (hb hby own_d1_1) rfl ?_
    exact k
  by_cases hc2_2 : p2 < p1
  · have k3 : ∀ t, Steps p.tables e below (s₁.setTop (mkF m 10 #[.val (.int p1), .val (.int p2)] [(.int p2)])) t → Steps p.tables e below (s₁.setTop (entryFrame m #[(.int p1), (.int p2)] 2)) t := by
      intro t k
      refine k1 t ?_
      show Steps p.tables e below (s₁.setTop (mkF m 2 #[.val (.int p1), .val (.int p2)] [(.int p2), (.int p1)])) _
      refine XS.icmpYes X0.here hx rfl (pc0 := 2) (pc' := 9) rfl (hb hby own_d1_2) rfl (tlt hc2_2).2.2.1 (by decide) (by decide) ?_
      show Steps p.tables e below (s₁.setTop (mkF m 9 #[.val (.int p1), .val (.int p2)] [])) _
      refine XS.iloadN X0.here hx rfl (hb hby own_d1_9) rfl ?_
      exact k
    obtain ⟨fs, hr, hrun, hended, hW, hsame⟩ := X0.leave (v := (some (.int p2))) (fun h => by rw [Bd.returns] at h; cases h)
    refine ⟨_, _, k3 _ ?_, hrun, hended, _, _, rfl, ?_, ⟨_, rfl⟩, hW, hsame.mono (by decide) (by decide)⟩
    · exact retI X0 hx Bd.returns (hb hby own_d1_10) hr
    · have hv : (own_vmn p1 p2) = p2 := (if_pos hc2_2)
      exact ⟨congrArg (fun z => some (Value.int z)) hv.symm, N0, e0⟩
  · have k4 : ∀ t, Steps p.tables e below (s₁.setTop (mkF m 10 #[.val (.int p1), .val (.int p2)] [(.int p1)])) t → Steps p.tables e below (s₁.setTop (entryFrame m #[(.int p1), (.int p2)] 2)) t := by
      intro t k
      refine k1 t ?_
      show Steps p.tables e below (s₁.setTop (mkF m 2 #[.val (.int p1), .val (.int p2)] [(.int p2), (.int p1)])) _
      refine XS.icmpNo X0.here hx rfl (hb hby own_d1_2) rfl (flt hc2_2).2.2.1 ?_
      show Steps p.tables e below (s₁.setTop (mkF m 5 #[.val (.int p1), .val (.int p2)] [])) _
      refine XS.iloadN X0.here hx rfl (hb hby own_d1_5) rfl ?_
      show Steps p.tables e below (s₁.setTop (mkF m 6 #[.val (.int p1), .val (.int p2)] [(.int p1)])) _
      refine XS.goto X0.here hx rfl (pc0 := 6) (pc' := 10) rfl (hb hby own_d1_6) (by decide) (by decide) ?_
      exact k
    obtain ⟨fs, hr, hrun, hended, hW, hsame⟩ := X0.leave (v := (some (.int p1))) (fun h => by rw [Bd.returns] at h; cases h)
    refine ⟨_, _, k4 _ ?_, hrun, hended, _, _, rfl, ?_, ⟨_, rfl⟩, hW, hsame.mono (by decide) (by decide)⟩
    · exact retI X0 hx Bd.returns (hb hby own_d1_10) hr
    · have hv : (own_vmn p1 p2) = p1 := (if_neg hc2_2)
      exact ⟨congrArg (fun z => some (Value.int z)) hv.symm, N0, e0⟩
def own_vmx (p1 : Int32) (p2 : Int32) : Int32 :=
  if p1 < p2 then p2 else
  p1
theorem own_d2_0 : decode jdk_29_method_65_code 0 = .ok (.iload_n 0, 1) := by decide +kernel
theorem own_d2_1 : decode jdk_29_method_65_code 1 = .ok (.iload_n 1, 1) := by decide +kernel
theorem own_d2_2 : decode jdk_29_method_65_code 2 = .ok (.if_icmp .lt 7, 3) := by decide +kernel
theorem own_d2_5 : decode jdk_29_method_65_code 5 = .ok (.iload_n 0, 1) := by decide +kernel
theorem own_d2_6 : decode jdk_29_method_65_code 6 = .ok (.goto 4, 3) := by decide +kernel
theorem own_d2_9 : decode jdk_29_method_65_code 9 = .ok (.iload_n 1, 1) := by decide +kernel
theorem own_d2_10 : decode jdk_29_method_65_code 10 = .ok (.ireturn, 1) := by decide +kernel
theorem own_efmx (m : MethodId) (x0 : Int32) (x1 : Int32) : entryFrame m #[(.int x0), (.int x1)] 2 = mkF m 0 #[.val (.int x0), .val (.int x1)] [] := by first | (simp [entryFrame, mkF, argsToLocals, Value.category]; done) | rfl
def own_Qmx (Z : State) (p1 : Int32) (p2 : Int32) (h0 : Heap) (n0 : Nat) (v : Option Value) (h : Heap) (L : List Loc) : Prop := v = some (.int (own_vmx p1 p2)) ∧ Fr n0 L ∧ h = h0
set_option maxRecDepth 65536 in
set_option maxHeartbeats 40000000 in
theorem own_rmmx (l : Launch) (Z : State) (a0 : Array Value) (hw : ∀ d ∈ tables_1, d.before a0 Z = true) (ws : List Jvm.Cond) (p1 : Int32) (p2 : Int32) (h0 : Heap) (n0 : Nat) (Z0 : n0 ≤ h0.size) :
    MetFree l (⟨"java/lang/Math", "max", "(II)I"⟩ : MethodName) (head1 (Jvm.Cond.code (⟨"java/lang/Math", "max", "(II)I"⟩ : MethodName) jdk_29_method_65_code 2 (some .int) :: ws) ({ frames := 0, cells := 0, slots := 0, locals := 0 } : Room)) (fun aa U => aa = #[(.int p1), (.int p2)] ∧ Z.Warmed39 U.vm ∧ U.heap = h0) (fun _ _ _ _ _ => True) (fun _ U o U' => ∃ v L, o = .returned v ∧ own_Qmx Z p1 p2 h0 n0 v U'.heap L ∧ FrameEnd U o U' L ({ frames := 0, cells := 0, slots := 0, locals := 0 } : Room).cells ({ frames := 0, cells := 0, slots := 0, locals := 0 } : Room).slots) := by
  refine MetFree.of_bodySF (Jvm.Free.JP.mathPlain rfl (by decide +kernel)) hisR ?_
  intro p e s m args below meth c s₁ Bd hml0 hP hK
  obtain ⟨rfl, hZ, hh⟩ := hP
  have hx := Bd.exec
  have hby := Bd.bytes
  have hml : c.maxLocals = 2 := hml0
  have hown : s.vm.findClass "java/lang/Math" = some m.cls := findClass_of_methodNamed Bd.named
  have hnm := (name_of_methodNamed Bd.named Bd.method).1
  have X0 : Stand p l e ({ frames := 0, cells := 0, slots := 0, locals := 0 } : Room) s m #[(.int p1), (.int p2)] below meth c s₁ [] 0 0 := Stand.of_body Bd
  have e0 : s₁.heap = h0 := by rw [← hh, Bd.state]; rfl
  have N0 := Fr.nil n0
  have pre0 : ∀ t, Steps p.tables e below (s₁.setTop (mkF m 0 #[.val (.int p1), .val (.int p2)] [])) t → Steps p.tables e below (s₁.setTop (entryFrame m #[(.int p1), (.int p2)] 2)) t := fun t k => castTop (own_efmx m p1 p2) k
  have k1 : ∀ t, Steps p.tables e below (s₁.setTop (mkF m 2 #[.val (.int p1), .val (.int p2)] [(.int p2), (.int p1)])) t → Steps p.tables e below (s₁.setTop (entryFrame m #[(.int p1), (.int p2)] 2)) t := by
    intro t k
    refine pre0 t ?_
    show Steps p.tables e below (s₁.setTop (mkF m 0 #[.val (.int p1), .val (.int p2)] [])) _
    refine XS.iloadN X0.here hx rfl (hb hby own_d2_0) rfl ?_
    show Steps p.tables e below (s₁.setTop (mkF m 1 #[.val (.int p1), .val (.int p2)] [(.int p1)])) _
    refine XS.iloadN X0.here hx rfl (hb hby own_d2_1) rfl ?_
    exact k
  by_cases hc2_2 : p1 < p2
  · have k3 : ∀ t, Steps p.tables e below (s₁.setTop (mkF m 10 #[.val (.int p1), .val (.int p2)] [(.int p2)])) t → Steps p.tables e below (s₁.setTop (entryFrame m #[(.int p1), (.int p2)] 2)) t := by
      intro t k
      refine k1 t ?_
      show Steps p.tables e below (s₁.setTop (mkF m 2 #[.val (.int p1), .val (.int p2)] [(.int p2), (.int p1)])) _
      refine XS.icmpYes X0.here hx rfl (pc0 := 2) (pc' := 9) rfl (hb hby own_d2_2) rfl (tlt hc2_2).1 (by decide) (by decide) ?_
      show Steps p.tables e below (s₁.setTop (mkF m 9 #[.val (.int p1), .val (.int p2)] [])) _
      refine XS.iloadN X0.here hx rfl (hb hby own_d2_9) rfl ?_
      exact k
    obtain ⟨fs, hr, hrun, hended, hW, hsame⟩ := X0.leave (v := (some (.int p2))) (fun h => by rw [Bd.returns] at h; cases h)
    refine ⟨_, _, k3 _ ?_, hrun, hended, _, _, rfl, ?_, ⟨_, rfl⟩, hW, hsame.mono (by decide) (by decide)⟩
    · exact retI X0 hx Bd.returns (hb hby own_d2_10) hr
    · have hv : (own_vmx p1 p2) = p2 := (if_pos hc2_2)
      exact ⟨congrArg (fun z => some (Value.int z)) hv.symm, N0, e0⟩
  · have k4 : ∀ t, Steps p.tables e below (s₁.setTop (mkF m 10 #[.val (.int p1), .val (.int p2)] [(.int p1)])) t → Steps p.tables e below (s₁.setTop (entryFrame m #[(.int p1), (.int p2)] 2)) t := by
      intro t k
      refine k1 t ?_
      show Steps p.tables e below (s₁.setTop (mkF m 2 #[.val (.int p1), .val (.int p2)] [(.int p2), (.int p1)])) _
      refine XS.icmpNo X0.here hx rfl (hb hby own_d2_2) rfl (flt hc2_2).1 ?_
      show Steps p.tables e below (s₁.setTop (mkF m 5 #[.val (.int p1), .val (.int p2)] [])) _
      refine XS.iloadN X0.here hx rfl (hb hby own_d2_5) rfl ?_
      show Steps p.tables e below (s₁.setTop (mkF m 6 #[.val (.int p1), .val (.int p2)] [(.int p1)])) _
      refine XS.goto X0.here hx rfl (pc0 := 6) (pc' := 10) rfl (hb hby own_d2_6) (by decide) (by decide) ?_
      exact k
    obtain ⟨fs, hr, hrun, hended, hW, hsame⟩ := X0.leave (v := (some (.int p1))) (fun h => by rw [Bd.returns] at h; cases h)
    refine ⟨_, _, k4 _ ?_, hrun, hended, _, _, rfl, ?_, ⟨_, rfl⟩, hW, hsame.mono (by decide) (by decide)⟩
    · exact retI X0 hx Bd.returns (hb hby own_d2_10) hr
    · have hv : (own_vmx p1 p2) = p1 := (if_neg hc2_2)
      exact ⟨congrArg (fun z => some (Value.int z)) hv.symm, N0, e0⟩
theorem own_d4_0 : decode jdk_30_method_1_code 0 = .ok (.aload_n 0, 1) := by decide +kernel
theorem own_d4_1 : decode jdk_30_method_1_code 1 = .ok (.invokespecial 1, 3) := by decide +kernel
theorem own_d4_4 : decode jdk_30_method_1_code 4 = .ok (.return_, 1) := by decide +kernel
theorem own_pn0 : plainName "java/lang/Record" = true := by first | (simp [plainName, overriddenIn]; done) | decide +kernel
theorem own_efrc (m : MethodId) (x0 : Addr) : entryFrame m #[(.ref x0)] 1 = mkF m 0 #[.val (.ref x0)] [] := by first | (simp [entryFrame, mkF, argsToLocals, Value.category]; done) | rfl
def own_Qrc (Z : State) (a : Addr) (h0 : Heap) (n0 : Nat) (v : Option Value) (h : Heap) (L : List Loc) : Prop := v = none ∧ Fr n0 L ∧ h = h0
set_option maxRecDepth 65536 in
set_option maxHeartbeats 40000000 in
theorem own_rmrc (l : Launch) (Z : State) (a0 : Array Value) (hw : ∀ d ∈ tables_1, d.before a0 Z = true) (ws : List Jvm.Cond) (a : Addr) (h0 : Heap) (n0 : Nat) (Z0 : n0 ≤ h0.size) :
    MetFree l (⟨"java/lang/Record", "<init>", "()V"⟩ : MethodName) (head1 (Jvm.Cond.code (⟨"java/lang/Record", "<init>", "()V"⟩ : MethodName) jdk_30_method_1_code 1 none :: ws) ({ frames := 1, cells := 0, slots := 0, locals := 12 } : Room)) (fun aa U => aa = #[(.ref a)] ∧ Z.Warmed39 U.vm ∧ U.heap = h0) (fun _ _ _ _ _ => True) (fun _ U o U' => ∃ v L, o = .returned v ∧ own_Qrc Z a h0 n0 v U'.heap L ∧ FrameEnd U o U' L ({ frames := 1, cells := 0, slots := 0, locals := 12 } : Room).cells ({ frames := 1, cells := 0, slots := 0, locals := 12 } : Room).slots) := by
  refine MetFree.of_bodySF (plainFor_of_name own_pn0) hisR ?_
  intro p e s m args below meth c s₁ Bd hml0 hP hK
  obtain ⟨rfl, hZ, hh⟩ := hP
  have hx := Bd.exec
  have hby := Bd.bytes
  have hml : c.maxLocals = 1 := hml0
  have hown : s.vm.findClass "java/lang/Record" = some m.cls := findClass_of_methodNamed Bd.named
  have hnm := (name_of_methodNamed Bd.named Bd.method).1
  have X0 : Stand p l e ({ frames := 1, cells := 0, slots := 0, locals := 12 } : Room) s m #[(.ref a)] below meth c s₁ [] 0 0 := Stand.of_body Bd
  have e0 : s₁.heap = h0 := by rw [← hh, Bd.state]; rfl
  have N0 := Fr.nil n0
  have pre0 : ∀ t, Steps p.tables e below (s₁.setTop (mkF m 0 #[.val (.ref a)] [])) t → Steps p.tables e below (s₁.setTop (entryFrame m #[(.ref a)] 1)) t := fun t k => castTop (own_efrc m a) k
  have k1 : ∀ t, Steps p.tables e below (s₁.setTop (mkF m 1 #[.val (.ref a)] [(.ref a)])) t → Steps p.tables e below (s₁.setTop (entryFrame m #[(.ref a)] 1)) t := by
    intro t k
    refine pre0 t ?_
    show Steps p.tables e below (s₁.setTop (mkF m 0 #[.val (.ref a)] [])) _
    refine XS.aloadN X0.here hx rfl (hb hby own_d4_0) rfl rfl ?_
    exact k
  obtain ⟨T2, X2, e2, st2⟩ := initO X0 hx hZ hown (hw _ (List.mem_of_getElem? (i := 19) rfl)) (hw _ (List.mem_of_getElem? (i := 20) rfl)) (hw _ (List.mem_of_getElem? (i := 21) rfl)) e0 (g := (mkF m 1 #[.val (.ref a)] [(.ref a)])) rfl (by rw [hml]; rfl) rfl (hb hby own_d4_1) (by decide) (W := 0) (by show 2 * 0 + _ ≤ _; exact Nat.le_of_eq rfl) (by decide)
  have k3 : ∀ t, Steps p.tables e below (T2.setTop (mkF m 4 #[.val (.ref a)] [])) t → Steps p.tables e below (s₁.setTop (entryFrame m #[(.ref a)] 1)) t := fun t k => k1 t (st2 t k)
  obtain ⟨fs, hr, hrun, hended, hW, hsame⟩ := X2.leave (v := none) (fun _ => rfl)
  refine ⟨_, _, k3 _ ?_, hrun, hended, _, _, rfl, ?_, ⟨_, rfl⟩, hW, hsame.mono (by decide) (by decide)⟩
  · exact X2.returnOut hx Bd.returns (hb hby own_d4_4) hr
  · exact ⟨rfl, N0, e2⟩
theorem own_d3_0 : decode prog_7_method_1_code 0 = .ok (.aload_n 0, 1) := by decide +kernel
theorem own_d3_1 : decode prog_7_method_1_code 1 = .ok (.invokespecial 1, 3) := by decide +kernel
theorem own_d3_4 : decode prog_7_method_1_code 4 = .ok (.iload_n 1, 1) := by decide +kernel
theorem own_d3_5 : decode prog_7_method_1_code 5 = .ok (.iconst 1, 1) := by decide +kernel
theorem own_d3_6 : decode prog_7_method_1_code 6 = .ok (.if_icmp .lt 8, 3) := by decide +kernel
theorem own_d3_9 : decode prog_7_method_1_code 9 = .ok (.iload_n 1, 1) := by decide +kernel
theorem own_d3_10 : decode prog_7_method_1_code 10 = .ok (.iload_n 2, 1) := by decide +kernel
theorem own_d3_11 : decode prog_7_method_1_code 11 = .ok (.if_icmp .le 18, 3) := by decide +kernel
theorem own_d3_29 : decode prog_7_method_1_code 29 = .ok (.iload_n 3, 1) := by decide +kernel
theorem own_d3_30 : decode prog_7_method_1_code 30 = .ok (.ifCond .ge 17, 3) := by decide +kernel
theorem own_d3_47 : decode prog_7_method_1_code 47 = .ok (.aload_n 0, 1) := by decide +kernel
theorem own_d3_48 : decode prog_7_method_1_code 48 = .ok (.iload_n 1, 1) := by decide +kernel
theorem own_d3_49 : decode prog_7_method_1_code 49 = .ok (.putfield 19, 3) := by decide +kernel
theorem own_d3_52 : decode prog_7_method_1_code 52 = .ok (.aload_n 0, 1) := by decide +kernel
theorem own_d3_53 : decode prog_7_method_1_code 53 = .ok (.iload_n 2, 1) := by decide +kernel
theorem own_d3_54 : decode prog_7_method_1_code 54 = .ok (.putfield 25, 3) := by decide +kernel
theorem own_d3_57 : decode prog_7_method_1_code 57 = .ok (.aload_n 0, 1) := by decide +kernel
theorem own_d3_58 : decode prog_7_method_1_code 58 = .ok (.iload_n 3, 1) := by decide +kernel
theorem own_d3_59 : decode prog_7_method_1_code 59 = .ok (.putfield 28, 3) := by decide +kernel
theorem own_d3_62 : decode prog_7_method_1_code 62 = .ok (.return_, 1) := by decide +kernel
theorem own_pd0 : parseMethodDescriptor "()V" = some ⟨[], none⟩ := by decide +kernel
theorem own_pn1 : plainName "com/example/even_keel/evenkeel/coordinator/GroupConfig" = true := by first | (simp [plainName, overriddenIn]; done) | decide +kernel
theorem own_efgc (m : MethodId) (x0 : Addr) (x1 : Int32) (x2 : Int32) (x3 : Int32) : entryFrame m #[(.ref x0), (.int x1), (.int x2), (.int x3)] 4 = mkF m 0 #[.val (.ref x0), .val (.int x1), .val (.int x2), .val (.int x3)] [] := by first | (simp [entryFrame, mkF, argsToLocals, Value.category]; done) | rfl
def own_Qgc (Z : State) (a : Addr) (p1 : Int32) (p2 : Int32) (p3 : Int32) (u1 : Value) (u2 : Value) (u3 : Value) (h0 : Heap) (n0 : Nat) (v : Option Value) (h : Heap) (L : List Loc) : Prop := v = none ∧ Fr n0 L ∧ Keep h0 h [a] ∧ Exa Z h a "com/example/even_keel/evenkeel/coordinator/GroupConfig" ∧ Fld Z h a "com/example/even_keel/evenkeel/coordinator/GroupConfig" "minSessionTimeoutMs" "I" (.int p1) ∧ Fld Z h a "com/example/even_keel/evenkeel/coordinator/GroupConfig" "maxSessionTimeoutMs" "I" (.int p2) ∧ Fld Z h a "com/example/even_keel/evenkeel/coordinator/GroupConfig" "initialRebalanceDelayMs" "I" (.int p3)
set_option maxRecDepth 65536 in
set_option maxHeartbeats 40000000 in
theorem own_rmgc (l : Launch) (Z : State) (a0 : Array Value) (hw : ∀ d ∈ tables_1, d.before a0 Z = true) (ws : List Jvm.Cond) (a : Addr) (p1 : Int32) (p2 : Int32) (p3 : Int32) (u1 : Value) (u2 : Value) (u3 : Value) (h0 : Heap) (n0 : Nat) (Z0 : n0 ≤ h0.size) (Ea : Exa Z h0 a "com/example/even_keel/evenkeel/coordinator/GroupConfig") (F1 : Fld Z h0 a "com/example/even_keel/evenkeel/coordinator/GroupConfig" "minSessionTimeoutMs" "I" u1) (F2 : Fld Z h0 a "com/example/even_keel/evenkeel/coordinator/GroupConfig" "maxSessionTimeoutMs" "I" u2) (F3 : Fld Z h0 a "com/example/even_keel/evenkeel/coordinator/GroupConfig" "initialRebalanceDelayMs" "I" u3) (ga : n0 ≤ a) (hs6 : ¬ (p1 < (1 : Int32))) (hs11 : ¬ (p2 < p1)) (hs30 : ¬ (p3 < (0 : Int32))) :
    MetFree l (⟨"com/example/even_keel/evenkeel/coordinator/GroupConfig", "<init>", "(III)V"⟩ : MethodName) (head1 (Jvm.Cond.code (⟨"com/example/even_keel/evenkeel/coordinator/GroupConfig", "<init>", "(III)V"⟩ : MethodName) prog_7_method_1_code 4 none :: ws) ({ frames := 2, cells := 0, slots := 0, locals := 24 } : Room)) (fun aa U => aa = #[(.ref a), (.int p1), (.int p2), (.int p3)] ∧ Z.Warmed39 U.vm ∧ U.heap = h0) (fun _ _ _ _ _ => True) (fun _ U o U' => ∃ v L, o = .returned v ∧ own_Qgc Z a p1 p2 p3 u1 u2 u3 h0 n0 v U'.heap L ∧ FrameEnd U o U' L ({ frames := 2, cells := 0, slots := 0, locals := 24 } : Room).cells ({ frames := 2, cells := 0, slots := 0, locals := 24 } : Room).slots) := by
  refine MetFree.of_bodySF (plainFor_of_name own_pn1) hisR ?_
  intro p e s m args below meth c s₁ Bd hml0 hP hK
  obtain ⟨rfl, hZ, hh⟩ := hP
  have hx := Bd.exec
  have hby := Bd.bytes
  have hml : c.maxLocals = 4 := hml0
  have hown : s.vm.findClass "com/example/even_keel/evenkeel/coordinator/GroupConfig" = some m.cls := findClass_of_methodNamed Bd.named
  have hnm := (name_of_methodNamed Bd.named Bd.method).1
  have X0 : Stand p l e ({ frames := 2, cells := 0, slots := 0, locals := 24 } : Room) s m #[(.ref a), (.int p1), (.int p2), (.int p3)] below meth c s₁ [] 0 0 := Stand.of_body Bd
  have e0 : s₁.heap = h0 := by rw [← hh, Bd.state]; rfl
  have N0 := Fr.nil n0
  have pre0 : ∀ t, Steps p.tables e below (s₁.setTop (mkF m 0 #[.val (.ref a), .val (.int p1), .val (.int p2), .val (.int p3)] [])) t → Steps p.tables e below (s₁.setTop (entryFrame m #[(.ref a), (.int p1), (.int p2), (.int p3)] 4)) t := fun t k => castTop (own_efgc m a p1 p2 p3) k
  have k1 : ∀ t, Steps p.tables e below (s₁.setTop (mkF m 1 #[.val (.ref a), .val (.int p1), .val (.int p2), .val (.int p3)] [(.ref a)])) t → Steps p.tables e below (s₁.setTop (entryFrame m #[(.ref a), (.int p1), (.int p2), (.int p3)] 4)) t := by
    intro t k
    refine pre0 t ?_
    show Steps p.tables e below (s₁.setTop (mkF m 0 #[.val (.ref a), .val (.int p1), .val (.int p2), .val (.int p3)] [])) _
    refine XS.aloadN X0.here hx rfl (hb hby own_d3_0) rfl rfl ?_
    exact k
  obtain ⟨_, _, ⟨T2, L2, k2c, n2⟩, -, X2, ⟨Lc2, hQ2, l2, y2, z2⟩, st2⟩ := X0.specialBack hx (y := (⟨"java/lang/Record", "<init>", "()V"⟩ : MethodName)) rfl hown (mvT hZ (hw _ (List.mem_of_getElem? (i := 14) rfl))) (mvT hZ (hw _ (List.mem_of_getElem? (i := 15) rfl))) (mvT hZ (hw _ (List.mem_of_getElem? (i := 18) rfl))) (by decide) (backOf (W := 0) (own_rmrc l Z a0 hw [] a h0 n0 Z0) hZ (hw _ (List.mem_of_getElem? (i := 18) rfl)) (hw _ (List.mem_of_getElem? (i := 17) rfl)) (by decide) (by decide)) (g := (mkF m 1 #[.val (.ref a), .val (.int p1), .val (.int p2), .val (.int p3)] [(.ref a)])) rfl (by rw [hml]; rfl) (Steps.refl _) (a := a) (argsL := []) (rest := []) (lenOf own_pd0 rfl) rfl (by show 2 * 0 + _ ≤ _; exact Nat.le_of_eq rfl) (hb hby own_d3_1) (fun _ _ => ⟨rfl, e0, (by decide : 0 + 0 ≤ _), (by decide : 0 + 0 ≤ _)⟩)
  dsimp only [Pt.U, Pt.locs, Pt.cells, Pt.slots] at X2 l2 y2 z2 st2 hQ2
  subst l2 y2 z2
  obtain ⟨rfl, N2q, e2⟩ := hQ2
  have N2 := Fr.app N0 N2q
  have k3 : ∀ t, Steps p.tables e below (T2.setTop (mkF m 4 #[.val (.ref a), .val (.int p1), .val (.int p2), .val (.int p3)] [])) t → Steps p.tables e below (s₁.setTop (entryFrame m #[(.ref a), (.int p1), (.int p2), (.int p3)] 4)) t := fun t k => k1 t (st2.trans k)
  have k4 : ∀ t, Steps p.tables e below (T2.setTop (mkF m 49 #[.val (.ref a), .val (.int p1), .val (.int p2), .val (.int p3)] [(.int p1), (.ref a)])) t → Steps p.tables e below (s₁.setTop (entryFrame m #[(.ref a), (.int p1), (.int p2), (.int p3)] 4)) t := by
    intro t k
    refine k3 t ?_
    show Steps p.tables e below (T2.setTop (mkF m 4 #[.val (.ref a), .val (.int p1), .val (.int p2), .val (.int p3)] [])) _
    refine XS.iloadN X2.here hx rfl (hb hby own_d3_4) rfl ?_
    show Steps p.tables e below (T2.setTop (mkF m 5 #[.val (.ref a), .val (.int p1), .val (.int p2), .val (.int p3)] [(.int p1)])) _
    refine XS.iconst X2.here hx rfl (hb hby own_d3_5) ?_
    show Steps p.tables e below (T2.setTop (mkF m 6 #[.val (.ref a), .val (.int p1), .val (.int p2), .val (.int p3)] [(.int (1 : Int32)), (.int p1)])) _
    refine XS.icmpNo X2.here hx rfl (hb hby own_d3_6) rfl (flt hs6).1 ?_
    show Steps p.tables e below (T2.setTop (mkF m 9 #[.val (.ref a), .val (.int p1), .val (.int p2), .val (.int p3)] [])) _
    refine XS.iloadN X2.here hx rfl (hb hby own_d3_9) rfl ?_
    show Steps p.tables e below (T2.setTop (mkF m 10 #[.val (.ref a), .val (.int p1), .val (.int p2), .val (.int p3)] [(.int p1)])) _
    refine XS.iloadN X2.here hx rfl (hb hby own_d3_10) rfl ?_
    show Steps p.tables e below (T2.setTop (mkF m 11 #[.val (.ref a), .val (.int p1), .val (.int p2), .val (.int p3)] [(.int p2), (.int p1)])) _
    refine XS.icmpYes X2.here hx rfl (pc0 := 11) (pc' := 29) rfl (hb hby own_d3_11) rfl (flt hs11).2.2.2 (by decide) (by decide) ?_
    show Steps p.tables e below (T2.setTop (mkF m 29 #[.val (.ref a), .val (.int p1), .val (.int p2), .val (.int p3)] [])) _
    refine XS.iloadN X2.here hx rfl (hb hby own_d3_29) rfl ?_
    show Steps p.tables e below (T2.setTop (mkF m 30 #[.val (.ref a), .val (.int p1), .val (.int p2), .val (.int p3)] [(.int p3)])) _
    refine XS.ifYes X2.here hx rfl (pc0 := 30) (pc' := 47) rfl (hb hby own_d3_30) rfl ((if0 _ _).trans (flt hs30).2.1) (by decide) (by decide) ?_
    show Steps p.tables e below (T2.setTop (mkF m 47 #[.val (.ref a), .val (.int p1), .val (.int p2), .val (.int p3)] [])) _
    refine XS.aloadN X2.here hx rfl (hb hby own_d3_47) rfl rfl ?_
    show Steps p.tables e below (T2.setTop (mkF m 48 #[.val (.ref a), .val (.int p1), .val (.int p2), .val (.int p3)] [(.ref a)])) _
    refine XS.iloadN X2.here hx rfl (hb hby own_d3_48) rfl ?_
    exact k
  obtain ⟨T5, h5, X5, e5, W5, st5⟩ := putF X2 hx hZ hown (host := "") (Or.inl (hw _ (List.mem_of_getElem? (i := 22) rfl))) Via.refl e2 F1 Ea (Or.inr ⟨(hw _ (List.mem_of_getElem? (i := 23) rfl)), rfl, hnm⟩) (hw _ (List.mem_of_getElem? (i := 9) rfl)) (ty := .int) (by decide) rfl rfl (g := (mkF m 49 #[.val (.ref a), .val (.int p1), .val (.int p2), .val (.int p3)] [(.int p1), (.ref a)])) rfl rfl (hb hby own_d3_49)
  have f6 := Ea.wr W5
  have f7 := F2.other W5 (Or.inr (slot_ne (Or.inr (hw _ (List.mem_of_getElem? (i := 25) rfl))) (Or.inr (hw _ (List.mem_of_getElem? (i := 23) rfl))) (by decide) (t := .int) (t' := .int) (by decide) (by decide)))
  have f8 := F3.other W5 (Or.inr (slot_ne (Or.inr (hw _ (List.mem_of_getElem? (i := 27) rfl))) (Or.inr (hw _ (List.mem_of_getElem? (i := 23) rfl))) (by decide) (t := .int) (t' := .int) (by decide) (by decide)))
  have f9 := F1.same W5
  have N5 := Fr.snoc X5 N2 ga
  have K5 : Keep h0 h5 [a] := (Keep.refl h0 [a]).wr W5 (Or.inl (List.mem_of_getElem? (i := 0) rfl))
  have Z5 : n0 ≤ h5.size := Nat.le_trans Z0 (Keep.of_wr W5).1
  have k10 : ∀ t, Steps p.tables e below (T5.setTop (mkF m 52 #[.val (.ref a), .val (.int p1), .val (.int p2), .val (.int p3)] [])) t → Steps p.tables e below (s₁.setTop (entryFrame m #[(.ref a), (.int p1), (.int p2), (.int p3)] 4)) t := fun t k => k4 t (st5 t k)
  have k11 : ∀ t, Steps p.tables e below (T5.setTop (mkF m 54 #[.val (.ref a), .val (.int p1), .val (.int p2), .val (.int p3)] [(.int p2), (.ref a)])) t → Steps p.tables e below (s₁.setTop (entryFrame m #[(.ref a), (.int p1), (.int p2), (.int p3)] 4)) t := by
    intro t k
    refine k10 t ?_
    show Steps p.tables e below (T5.setTop (mkF m 52 #[.val (.ref a), .val (.int p1), .val (.int p2), .val (.int p3)] [])) _
    refine XS.aloadN X5.here hx rfl (hb hby own_d3_52) rfl rfl ?_
    show Steps p.tables e below (T5.setTop (mkF m 53 #[.val (.ref a), .val (.int p1), .val (.int p2), .val (.int p3)] [(.ref a)])) _
    refine XS.iloadN X5.here hx rfl (hb hby own_d3_53) rfl ?_
    exact k
  obtain ⟨T12, h12, X12, e12, W12, st12⟩ := putF X5 hx hZ hown (host := "") (Or.inl (hw _ (List.mem_of_getElem? (i := 24) rfl))) Via.refl e5 f7 f6 (Or.inr ⟨(hw _ (List.mem_of_getElem? (i := 25) rfl)), rfl, hnm⟩) (hw _ (List.mem_of_getElem? (i := 9) rfl)) (ty := .int) (by decide) rfl rfl (g := (mkF m 54 #[.val (.ref a), .val (.int p1), .val (.int p2), .val (.int p3)] [(.int p2), (.ref a)])) rfl rfl (hb hby own_d3_54)
  have f13 := f6.wr W12
  have f14 := f9.other W12 (Or.inr (slot_ne (Or.inr (hw _ (List.mem_of_getElem? (i := 23) rfl))) (Or.inr (hw _ (List.mem_of_getElem? (i := 25) rfl))) (by decide) (t := .int) (t' := .int) (by decide) (by decide)))
  have f15 := f8.other W12 (Or.inr (slot_ne (Or.inr (hw _ (List.mem_of_getElem? (i := 27) rfl))) (Or.inr (hw _ (List.mem_of_getElem? (i := 25) rfl))) (by decide) (t := .int) (t' := .int) (by decide) (by decide)))
  have f16 := f7.same W12
  have N12 := Fr.snoc X12 N5 ga
  have K12 : Keep h0 h12 [a] := K5.wr W12 (Or.inl (List.mem_of_getElem? (i := 0) rfl))
  have Z12 : n0 ≤ h12.size := Nat.le_trans Z5 (Keep.of_wr W12).1
  have k17 : ∀ t, Steps p.tables e below (T12.setTop (mkF m 57 #[.val (.ref a), .val (.int p1), .val (.int p2), .val (.int p3)] [])) t → Steps p.tables e below (s₁.setTop (entryFrame m #[(.ref a), (.int p1), (.int p2), (.int p3)] 4)) t := fun t k => k11 t (st12 t k)
  have k18 : ∀ t, Steps p.tables e below (T12.setTop (mkF m 59 #[.val (.ref a), .val (.int p1), .val (.int p2), .val (.int p3)] [(.int p3), (.ref a)])) t → Steps p.tables e below (s₁.setTop (entryFrame m #[(.ref a), (.int p1), (.int p2), (.int p3)] 4)) t := by
    intro t k
    refine k17 t ?_
    show Steps p.tables e below (T12.setTop (mkF m 57 #[.val (.ref a), .val (.int p1), .val (.int p2), .val (.int p3)] [])) _
    refine XS.aloadN X12.here hx rfl (hb hby own_d3_57) rfl rfl ?_
    show Steps p.tables e below (T12.setTop (mkF m 58 #[.val (.ref a), .val (.int p1), .val (.int p2), .val (.int p3)] [(.ref a)])) _
    refine XS.iloadN X12.here hx rfl (hb hby own_d3_58) rfl ?_
    exact k
  obtain ⟨T19, h19, X19, e19, W19, st19⟩ := putF X12 hx hZ hown (host := "") (Or.inl (hw _ (List.mem_of_getElem? (i := 26) rfl))) Via.refl e12 f15 f13 (Or.inr ⟨(hw _ (List.mem_of_getElem? (i := 27) rfl)), rfl, hnm⟩) (hw _ (List.mem_of_getElem? (i := 9) rfl)) (ty := .int) (by decide) rfl rfl (g := (mkF m 59 #[.val (.ref a), .val (.int p1), .val (.int p2), .val (.int p3)] [(.int p3), (.ref a)])) rfl rfl (hb hby own_d3_59)
  have f20 := f13.wr W19
  have f21 := f14.other W19 (Or.inr (slot_ne (Or.inr (hw _ (List.mem_of_getElem? (i := 23) rfl))) (Or.inr (hw _ (List.mem_of_getElem? (i := 27) rfl))) (by decide) (t := .int) (t' := .int) (by decide) (by decide)))
  have f22 := f16.other W19 (Or.inr (slot_ne (Or.inr (hw _ (List.mem_of_getElem? (i := 25) rfl))) (Or.inr (hw _ (List.mem_of_getElem? (i := 27) rfl))) (by decide) (t := .int) (t' := .int) (by decide) (by decide)))
  have f23 := f15.same W19
  have N19 := Fr.snoc X19 N12 ga
  have K19 : Keep h0 h19 [a] := K12.wr W19 (Or.inl (List.mem_of_getElem? (i := 0) rfl))
  have Z19 : n0 ≤ h19.size := Nat.le_trans Z12 (Keep.of_wr W19).1
  have k24 : ∀ t, Steps p.tables e below (T19.setTop (mkF m 62 #[.val (.ref a), .val (.int p1), .val (.int p2), .val (.int p3)] [])) t → Steps p.tables e below (s₁.setTop (entryFrame m #[(.ref a), (.int p1), (.int p2), (.int p3)] 4)) t := fun t k => k18 t (st19 t k)
  obtain ⟨fs, hr, hrun, hended, hW, hsame⟩ := X19.leave (v := none) (fun _ => rfl)
  refine ⟨_, _, k24 _ ?_, hrun, hended, _, _, rfl, ?_, ⟨_, rfl⟩, hW, hsame.mono (by decide) (by decide)⟩
  · exact X19.returnOut hx Bd.returns (hb hby own_d3_62) hr
  · show own_Qgc Z a p1 p2 p3 u1 u2 u3 h0 n0 _ T19.heap _
    rw [e19]
    exact ⟨rfl, N19, K19, f20, f21, f22, f23⟩
def own_vas (p1 : Int32) (w1 : Int32) (w2 : Int32) : Int32 :=
  if p1 < w1 then (0 : Int32) else
  if w2 < p1 then (0 : Int32) else
  (1 : Int32)
theorem own_d6_0 : decode prog_7_method_2_code 0 = .ok (.iload_n 1, 1) := by decide +kernel
theorem own_d6_1 : decode prog_7_method_2_code 1 = .ok (.aload_n 0, 1) := by decide +kernel
theorem own_d6_2 : decode prog_7_method_2_code 2 = .ok (.getfield 19, 3) := by decide +kernel
theorem own_d6_5 : decode prog_7_method_2_code 5 = .ok (.if_icmp .lt 15, 3) := by decide +kernel
theorem own_d6_8 : decode prog_7_method_2_code 8 = .ok (.iload_n 1, 1) := by decide +kernel
theorem own_d6_9 : decode prog_7_method_2_code 9 = .ok (.aload_n 0, 1) := by decide +kernel
theorem own_d6_10 : decode prog_7_method_2_code 10 = .ok (.getfield 25, 3) := by decide +kernel
theorem own_d6_13 : decode prog_7_method_2_code 13 = .ok (.if_icmp .gt 7, 3) := by decide +kernel
theorem own_d6_16 : decode prog_7_method_2_code 16 = .ok (.iconst 1, 1) := by decide +kernel
theorem own_d6_17 : decode prog_7_method_2_code 17 = .ok (.goto 4, 3) := by decide +kernel
theorem own_d6_20 : decode prog_7_method_2_code 20 = .ok (.iconst 0, 1) := by decide +kernel
theorem own_d6_21 : decode prog_7_method_2_code 21 = .ok (.ireturn, 1) := by decide +kernel
theorem own_efas (m : MethodId) (x0 : Addr) (x1 : Int32) : entryFrame m #[(.ref x0), (.int x1)] 2 = mkF m 0 #[.val (.ref x0), .val (.int x1)] [] := by first | (simp [entryFrame, mkF, argsToLocals, Value.category]; done) | rfl
def own_Qas (Z : State) (a : Addr) (p1 : Int32) (w1 : Int32) (w2 : Int32) (h0 : Heap) (n0 : Nat) (v : Option Value) (h : Heap) (L : List Loc) : Prop := v = some (.int (own_vas p1 w1 w2)) ∧ Fr n0 L ∧ h = h0
set_option maxRecDepth 65536 in
set_option maxHeartbeats 40000000 in
theorem own_rmas (l : Launch) (Z : State) (a0 : Array Value) (hw : ∀ d ∈ tables_1, d.before a0 Z = true) (ws : List Jvm.Cond) (a : Addr) (p1 : Int32) (w1 : Int32) (w2 : Int32) (h0 : Heap) (n0 : Nat) (Z0 : n0 ≤ h0.size) (F1 : Fld Z h0 a "com/example/even_keel/evenkeel/coordinator/GroupConfig" "minSessionTimeoutMs" "I" (.int w1)) (F2 : Fld Z h0 a "com/example/even_keel/evenkeel/coordinator/GroupConfig" "maxSessionTimeoutMs" "I" (.int w2)) :
    MetFree l (⟨"com/example/even_keel/evenkeel/coordinator/GroupConfig", "allowsSessionTimeout", "(I)Z"⟩ : MethodName) (head1 (Jvm.Cond.code (⟨"com/example/even_keel/evenkeel/coordinator/GroupConfig", "allowsSessionTimeout", "(I)Z"⟩ : MethodName) prog_7_method_2_code 2 (some .boolean) :: ws) ({ frames := 0, cells := 0, slots := 0, locals := 0 } : Room)) (fun aa U => aa = #[(.ref a), (.int p1)] ∧ Z.Warmed39 U.vm ∧ U.heap = h0) (fun _ _ _ _ _ => True) (fun _ U o U' => ∃ v L, o = .returned v ∧ own_Qas Z a p1 w1 w2 h0 n0 v U'.heap L ∧ FrameEnd U o U' L ({ frames := 0, cells := 0, slots := 0, locals := 0 } : Room).cells ({ frames := 0, cells := 0, slots := 0, locals := 0 } : Room).slots) := by
  refine MetFree.of_bodySF (plainFor_of_name own_pn1) hisR ?_
  intro p e s m args below meth c s₁ Bd hml0 hP hK
  obtain ⟨rfl, hZ, hh⟩ := hP
  have hx := Bd.exec
  have hby := Bd.bytes
  have hml : c.maxLocals = 2 := hml0
  have hown : s.vm.findClass "com/example/even_keel/evenkeel/coordinator/GroupConfig" = some m.cls := findClass_of_methodNamed Bd.named
  have hnm := (name_of_methodNamed Bd.named Bd.method).1
  have X0 : Stand p l e ({ frames := 0, cells := 0, slots := 0, locals := 0 } : Room) s m #[(.ref a), (.int p1)] below meth c s₁ [] 0 0 := Stand.of_body Bd
  have e0 : s₁.heap = h0 := by rw [← hh, Bd.state]; rfl
  have N0 := Fr.nil n0
  have pre0 : ∀ t, Steps p.tables e below (s₁.setTop (mkF m 0 #[.val (.ref a), .val (.int p1)] [])) t → Steps p.tables e below (s₁.setTop (entryFrame m #[(.ref a), (.int p1)] 2)) t := fun t k => castTop (own_efas m a p1) k
  have k1 : ∀ t, Steps p.tables e below (s₁.setTop (mkF m 2 #[.val (.ref a), .val (.int p1)] [(.ref a), (.int p1)])) t → Steps p.tables e below (s₁.setTop (entryFrame m #[(.ref a), (.int p1)] 2)) t := by
    intro t k
    refine pre0 t ?_
    show Steps p.tables e below (s₁.setTop (mkF m 0 #[.val (.ref a), .val (.int p1)] [])) _
    refine XS.iloadN X0.here hx rfl (hb hby own_d6_0) rfl ?_
    show Steps p.tables e below (s₁.setTop (mkF m 1 #[.val (.ref a), .val (.int p1)] [(.int p1)])) _
    refine XS.aloadN X0.here hx rfl (hb hby own_d6_1) rfl rfl ?_
    exact k
  obtain ⟨T2, X2, e2, st2⟩ := getF X0 hx hZ hown (host := "") (Or.inl (hw _ (List.mem_of_getElem? (i := 22) rfl))) Via.refl e0 F1 (g := (mkF m 2 #[.val (.ref a), .val (.int p1)] [(.ref a), (.int p1)])) rfl rfl (hb hby own_d6_2)
  have k3 : ∀ t, Steps p.tables e below (T2.setTop (mkF m 5 #[.val (.ref a), .val (.int p1)] [(.int w1), (.int p1)])) t → Steps p.tables e below (s₁.setTop (entryFrame m #[(.ref a), (.int p1)] 2)) t := fun t k => k1 t (st2 t k)
  by_cases hc5_4 : p1 < w1
  · have k5 : ∀ t, Steps p.tables e below (T2.setTop (mkF m 21 #[.val (.ref a), .val (.int p1)] [(.int (0 : Int32))])) t → Steps p.tables e below (s₁.setTop (entryFrame m #[(.ref a), (.int p1)] 2)) t := by
      intro t k
      refine k3 t ?_
      show Steps p.tables e below (T2.setTop (mkF m 5 #[.val (.ref a), .val (.int p1)] [(.int w1), (.int p1)])) _
      refine XS.icmpYes X2.here hx rfl (pc0 := 5) (pc' := 20) rfl (hb hby own_d6_5) rfl (tlt hc5_4).1 (by decide) (by decide) ?_
      show Steps p.tables e below (T2.setTop (mkF m 20 #[.val (.ref a), .val (.int p1)] [])) _
      refine XS.iconst X2.here hx rfl (hb hby own_d6_20) ?_
      exact k
    obtain ⟨fs, hr, hrun, hended, hW, hsame⟩ := X2.leave (v := (some (.int (0 : Int32)))) (fun h => by rw [Bd.returns] at h; cases h)
    refine ⟨_, _, k5 _ ?_, hrun, hended, _, _, rfl, ?_, ⟨_, rfl⟩, hW, hsame.mono (by decide) (by decide)⟩
    · exact retN X2 hx (t := .boolean) Bd.returns (by simp) (hb hby own_d6_21) hr
    · have hv : (own_vas p1 w1 w2) = (0 : Int32) := (if_pos hc5_4)
      exact ⟨congrArg (fun z => some (Value.int z)) hv.symm, N0, e2⟩
  · have k6 : ∀ t, Steps p.tables e below (T2.setTop (mkF m 10 #[.val (.ref a), .val (.int p1)] [(.ref a), (.int p1)])) t → Steps p.tables e below (s₁.setTop (entryFrame m #[(.ref a), (.int p1)] 2)) t := by
      intro t k
      refine k3 t ?_
      show Steps p.tables e below (T2.setTop (mkF m 5 #[.val (.ref a), .val (.int p1)] [(.int w1), (.int p1)])) _
      refine XS.icmpNo X2.here hx rfl (hb hby own_d6_5) rfl (flt hc5_4).1 ?_
      show Steps p.tables e below (T2.setTop (mkF m 8 #[.val (.ref a), .val (.int p1)] [])) _
      refine XS.iloadN X2.here hx rfl (hb hby own_d6_8) rfl ?_
      show Steps p.tables e below (T2.setTop (mkF m 9 #[.val (.ref a), .val (.int p1)] [(.int p1)])) _
      refine XS.aloadN X2.here hx rfl (hb hby own_d6_9) rfl rfl ?_
      exact k
    obtain ⟨T7, X7, e7, st7⟩ := getF X2 hx hZ hown (host := "") (Or.inl (hw _ (List.mem_of_getElem? (i := 24) rfl))) Via.refl e2 F2 (g := (mkF m 10 #[.val (.ref a), .val (.int p1)] [(.ref a), (.int p1)])) rfl rfl (hb hby own_d6_10)
    have k8 : ∀ t, Steps p.tables e below (T7.setTop (mkF m 13 #[.val (.ref a), .val (.int p1)] [(.int w2), (.int p1)])) t → Steps p.tables e below (s₁.setTop (entryFrame m #[(.ref a), (.int p1)] 2)) t := fun t k => k6 t (st7 t k)
    by_cases hc13_9 : w2 < p1
    · have k10 : ∀ t, Steps p.tables e below (T7.setTop (mkF m 21 #[.val (.ref a), .val (.int p1)] [(.int (0 : Int32))])) t → Steps p.tables e below (s₁.setTop (entryFrame m #[(.ref a), (.int p1)] 2)) t := by
        intro t k
        refine k8 t ?_
        show Steps p.tables e below (T7.setTop (mkF m 13 #[.val (.ref a), .val (.int p1)] [(.int w2), (.int p1)])) _
        refine XS.icmpYes X7.here hx rfl (pc0 := 13) (pc' := 20) rfl (hb hby own_d6_13) rfl (tlt hc13_9).2.2.1 (by decide) (by decide) ?_
        show Steps p.tables e below (T7.setTop (mkF m 20 #[.val (.ref a), .val (.int p1)] [])) _
        refine XS.iconst X7.here hx rfl (hb hby own_d6_20) ?_
        exact k
      obtain ⟨fs, hr, hrun, hended, hW, hsame⟩ := X7.leave (v := (some (.int (0 : Int32)))) (fun h => by rw [Bd.returns] at h; cases h)
      refine ⟨_, _, k10 _ ?_, hrun, hended, _, _, rfl, ?_, ⟨_, rfl⟩, hW, hsame.mono (by decide) (by decide)⟩
      · exact retN X7 hx (t := .boolean) Bd.returns (by simp) (hb hby own_d6_21) hr
      · have hv : (own_vas p1 w1 w2) = (0 : Int32) := ((if_neg hc5_4).trans (if_pos hc13_9))
        exact ⟨congrArg (fun z => some (Value.int z)) hv.symm, N0, e7⟩
    · have k11 : ∀ t, Steps p.tables e below (T7.setTop (mkF m 21 #[.val (.ref a), .val (.int p1)] [(.int (1 : Int32))])) t → Steps p.tables e below (s₁.setTop (entryFrame m #[(.ref a), (.int p1)] 2)) t := by
        intro t k
        refine k8 t ?_
        show Steps p.tables e below (T7.setTop (mkF m 13 #[.val (.ref a), .val (.int p1)] [(.int w2), (.int p1)])) _
        refine XS.icmpNo X7.here hx rfl (hb hby own_d6_13) rfl (flt hc13_9).2.2.1 ?_
        show Steps p.tables e below (T7.setTop (mkF m 16 #[.val (.ref a), .val (.int p1)] [])) _
        refine XS.iconst X7.here hx rfl (hb hby own_d6_16) ?_
        show Steps p.tables e below (T7.setTop (mkF m 17 #[.val (.ref a), .val (.int p1)] [(.int (1 : Int32))])) _
        refine XS.goto X7.here hx rfl (pc0 := 17) (pc' := 21) rfl (hb hby own_d6_17) (by decide) (by decide) ?_
        exact k
      obtain ⟨fs, hr, hrun, hended, hW, hsame⟩ := X7.leave (v := (some (.int (1 : Int32)))) (fun h => by rw [Bd.returns] at h; cases h)
      refine ⟨_, _, k11 _ ?_, hrun, hended, _, _, rfl, ?_, ⟨_, rfl⟩, hW, hsame.mono (by decide) (by decide)⟩
      · exact retN X7 hx (t := .boolean) Bd.returns (by simp) (hb hby own_d6_21) hr
      · have hv : (own_vas p1 w1 w2) = (1 : Int32) := ((if_neg hc5_4).trans (if_neg hc13_9))
        exact ⟨congrArg (fun z => some (Value.int z)) hv.symm, N0, e7⟩
def own_a (p1 : Int32) : Int32 := (p1 &&& (2147483647 : Int32))
def own_b (p2 : Int32) : Int32 := (p2 &&& (2147483647 : Int32))
def own_lo (p1 : Int32) (p2 : Int32) : Int32 := (own_vmx (1 : Int32) (own_vmn (own_a p1) (own_b p2)))
def own_hi (p1 : Int32) (p2 : Int32) : Int32 := (own_vmx (own_lo p1 p2) (own_vmx (own_a p1) (own_b p2)))
def own_ex (p1 : Int32) (p2 : Int32) (p4 : Int32) : Int32 := if (lcmpW ((p4.toInt64) - ((own_lo p1 p2).toInt64)) (0 : Int64)) < (0 : Int32) then (0 : Int32) else if (lcmpW (((own_hi p1 p2).toInt64) - (p4.toInt64)) (0 : Int64)) < (0 : Int32) then (0 : Int32) else (1 : Int32)
def own_v0 (p1 : Int32) (p2 : Int32) (p3 : Int32) (p4 : Int32) : Int32 :=
  if (own_vas p4 (own_lo p1 p2) (own_hi p1 p2)) = (own_ex p1 p2 p4) then (if (own_vas (own_lo p1 p2) (own_lo p1 p2) (own_hi p1 p2)) = (0 : Int32) then (0 : Int32) else
  if (own_vas (own_hi p1 p2) (own_lo p1 p2) (own_hi p1 p2)) = (0 : Int32) then (0 : Int32) else
  if (own_vas ((own_lo p1 p2) - (1 : Int32)) (own_lo p1 p2) (own_hi p1 p2)) = (0 : Int32) then (if (own_hi p1 p2) < (2147483647 : Int32) then (if (own_vas ((own_hi p1 p2) + (1 : Int32)) (own_lo p1 p2) (own_hi p1 p2)) = (0 : Int32) then (1 : Int32) else
  (0 : Int32)) else
  (1 : Int32)) else
  (0 : Int32)) else
  (0 : Int32)
theorem own_mx (x y : Int32) : (own_vmx x y).toInt = max x.toInt y.toInt := by
  unfold own_vmx; simp only [Int32.lt_iff_toInt_lt]; split <;> omega
theorem own_mn (x y : Int32) : (own_vmn x y).toInt = min x.toInt y.toInt := by
  unfold own_vmn; simp only [Int32.lt_iff_toInt_lt]; split <;> omega
theorem own_le1 (p1 p2 : Int32) : 1 ≤ (own_lo p1 p2).toInt := by
  unfold own_lo; rw [own_mx, show (1 : Int32).toInt = 1 from rfl]; omega
theorem own_le2 (p1 p2 : Int32) : (own_lo p1 p2).toInt ≤ (own_hi p1 p2).toInt := by
  unfold own_hi; rw [own_mx]; omega
theorem own_c1 (p1 p2 : Int32) : ¬ ((own_lo p1 p2) < (1 : Int32)) := by
  have h := own_le1 p1 p2
  rw [Int32.lt_iff_toInt_lt, show (1 : Int32).toInt = 1 from rfl]; omega
theorem own_c2 (p1 p2 : Int32) : ¬ ((own_hi p1 p2) < (own_lo p1 p2)) := by
  have h := own_le2 p1 p2
  rw [Int32.lt_iff_toInt_lt]; omega
theorem own_c3 (p3 : Int32) : ¬ ((p3 &&& (2147483647 : Int32)) < (0 : Int32)) := by
  have h := c_mask p3 2147483647 31 (by decide) (by decide)
  rw [Int32.lt_iff_toInt_lt, show (0 : Int32).toInt = 0 from rfl]; omega
theorem own_as (t lo hi : Int32) : own_vas t lo hi = if lo.toInt ≤ t.toInt ∧ t.toInt ≤ hi.toInt then 1 else 0 := by
  unfold own_vas; simp only [Int32.lt_iff_toInt_lt]
  by_cases h1 : t.toInt < lo.toInt
  · rw [if_pos h1, if_neg (by omega)]
  · rw [if_neg h1]
    by_cases h2 : hi.toInt < t.toInt
    · rw [if_pos h2, if_neg (by omega)]
    · rw [if_neg h2, if_pos (by omega)]
theorem own_exv (p1 p2 p4 : Int32) : own_ex p1 p2 p4 = if (own_lo p1 p2).toInt ≤ p4.toInt ∧ p4.toInt ≤ (own_hi p1 p2).toInt then 1 else 0 := by
  unfold own_ex
  generalize own_lo p1 p2 = lo
  generalize own_hi p1 p2 = hi
  simp only [lw_lt, Int64.lt_iff_toInt_lt, show (0 : Int64).toInt = 0 from rfl]
  have r1 := rng32 p4; have r2 := rng32 lo; have r3 := rng32 hi
  have e1 : (p4.toInt64 - lo.toInt64).toInt = p4.toInt - lo.toInt := by
    have q := c_lsub p4.toInt64 lo.toInt64; have q1 := c_i2l p4; have q2 := c_i2l lo; have q3 := rng64 (p4.toInt64 - lo.toInt64); omega
  have e2 : (hi.toInt64 - p4.toInt64).toInt = hi.toInt - p4.toInt := by
    have q := c_lsub hi.toInt64 p4.toInt64; have q1 := c_i2l p4; have q2 := c_i2l hi; have q3 := rng64 (hi.toInt64 - p4.toInt64); omega
  rw [e1, e2]
  by_cases h1 : p4.toInt - lo.toInt < 0
  · rw [if_pos h1, if_neg (by omega)]
  · rw [if_neg h1]
    by_cases h2 : hi.toInt - p4.toInt < 0
    · rw [if_pos h2, if_neg (by omega)]
    · rw [if_neg h2, if_pos (by omega)]

theorem own_one (p1 p2 p3 p4 : Int32) : own_v0 p1 p2 p3 p4 = 1 := by
  have h1 := own_le1 p1 p2
  have h2 := own_le2 p1 p2
  unfold own_v0
  rw [own_exv]
  generalize own_lo p1 p2 = lo at *
  generalize own_hi p1 p2 = hi at *
  have r2 := rng32 lo; have r3 := rng32 hi
  have q1 : (lo - 1).toInt = lo.toInt - 1 := by
    have q := c_isub lo 1; have q' := rng32 (lo - 1); rw [show (1 : Int32).toInt = 1 from rfl] at q; omega
  simp only [own_as, Int32.lt_iff_toInt_lt, show (2147483647 : Int32).toInt = 2147483647 from rfl]
  rw [if_pos trivial, if_pos (show lo.toInt ≤ lo.toInt ∧ lo.toInt ≤ hi.toInt by omega), if_neg (show ¬ ((1 : Int32) = 0) by decide), if_pos (show lo.toInt ≤ hi.toInt ∧ hi.toInt ≤ hi.toInt by omega), if_neg (show ¬ ((1 : Int32) = 0) by decide), if_neg (show ¬ (lo.toInt ≤ (lo - 1).toInt ∧ (lo - 1).toInt ≤ hi.toInt) by omega), if_pos rfl]
  by_cases h3 : hi.toInt < 2147483647
  · have q2 : (hi + 1).toInt = hi.toInt + 1 := by
      have q := c_iadd hi 1; have q' := rng32 (hi + 1); rw [show (1 : Int32).toInt = 1 from rfl] at q; omega
    rw [if_pos h3, if_neg (show ¬ (lo.toInt ≤ (hi + 1).toInt ∧ (hi + 1).toInt ≤ hi.toInt) by omega), if_pos rfl]
  · rw [if_neg h3]
theorem own_pd1 : parseMethodDescriptor "(II)I" = some ⟨[.int, .int], some .int⟩ := by decide +kernel
theorem own_pd2 : parseMethodDescriptor "(III)V" = some ⟨[.int, .int, .int], none⟩ := by decide +kernel
theorem own_pd3 : parseMethodDescriptor "(I)Z" = some ⟨[.int], some .boolean⟩ := by decide +kernel
theorem own_pn2 : plainName "com/example/even_keel/evenkeel/coordinator/GroupConfigAllowsSessionTimeoutPinLaw" = true := by first | (simp [plainName, overriddenIn]; done) | decide +kernel
theorem own_ef0 (m : MethodId) (x0 : Int32) (x1 : Int32) (x2 : Int32) (x3 : Int32) : entryFrame m #[(.int x0), (.int x1), (.int x2), (.int x3)] maxLocals = mkF m 0 #[.val (.int x0), .val (.int x1), .val (.int x2), .val (.int x3), .unset, .unset, .unset, .unset, .unset, .unset, .unset, .unset, .unset, .unset, .unset] [] := by first | (simp [entryFrame, mkF, argsToLocals, Value.category, maxLocals]; done) | rfl
def own_Q0 (Z : State) (p1 : Int32) (p2 : Int32) (p3 : Int32) (p4 : Int32) (h0 : Heap) (n0 : Nat) (v : Option Value) (h : Heap) (L : List Loc) : Prop := v = some (.int (1 : Int32)) ∧ Fr n0 L
set_option maxRecDepth 65536 in
set_option maxHeartbeats 40000000 in
theorem own_rm0 (l : Launch) (Z : State) (a0 : Array Value) (hw : ∀ d ∈ tables_1, d.before a0 Z = true) (ws : List Jvm.Cond) (p1 : Int32) (p2 : Int32) (p3 : Int32) (p4 : Int32) (h0 : Heap) (n0 : Nat) (Z0 : n0 ≤ h0.size) (hone : (own_v0 p1 p2 p3 p4) = (1 : Int32)) :
    MetFree l x (head1 (Jvm.Cond.code x code maxLocals ret :: ws) room_1) (fun aa U => aa = #[(.int p1), (.int p2), (.int p3), (.int p4)] ∧ Z.Warmed39 U.vm ∧ U.heap = h0) (fun _ _ _ _ _ => True) (fun _ U o U' => ∃ v L, o = .returned v ∧ own_Q0 Z p1 p2 p3 p4 h0 n0 v U'.heap L ∧ FrameEnd U o U' L room_1.cells room_1.slots) := by
  refine MetFree.of_bodySF (plainFor_of_name own_pn2) hisR ?_
  intro p e s m args below meth c s₁ Bd hml0 hP hK
  obtain ⟨rfl, hZ, hh⟩ := hP
  have hx := Bd.exec
  have hby := Bd.bytes
  have hml : c.maxLocals = 15 := hml0
  have hown : s.vm.findClass "com/example/even_keel/evenkeel/coordinator/GroupConfigAllowsSessionTimeoutPinLaw" = some m.cls := findClass_of_methodNamed Bd.named
  have hnm := (name_of_methodNamed Bd.named Bd.method).1
  have X0 : Stand p l e room_1 s m #[(.int p1), (.int p2), (.int p3), (.int p4)] below meth c s₁ [] 0 0 := Stand.of_body Bd
  have e0 : s₁.heap = h0 := by rw [← hh, Bd.state]; rfl
  have N0 := Fr.nil n0
  have pre0 : ∀ t, Steps p.tables e below (s₁.setTop (mkF m 0 #[.val (.int p1), .val (.int p2), .val (.int p3), .val (.int p4), .unset, .unset, .unset, .unset, .unset, .unset, .unset, .unset, .unset, .unset, .unset] [])) t → Steps p.tables e below (s₁.setTop (entryFrame m #[(.int p1), (.int p2), (.int p3), (.int p4)] maxLocals)) t := fun t k => castTop (own_ef0 m p1 p2 p3 p4) k
  have k1 : ∀ t, Steps p.tables e below (s₁.setTop (mkF m 12 #[.val (.int p1), .val (.int p2), .val (.int p3), .val (.int p4), .val (.int (own_a p1)), .val (.int (own_b p2)), .unset, .unset, .unset, .unset, .unset, .unset, .unset, .unset, .unset] [])) t → Steps p.tables e below (s₁.setTop (entryFrame m #[(.int p1), (.int p2), (.int p3), (.int p4)] maxLocals)) t := by
    intro t k
    refine pre0 t ?_
    show Steps p.tables e below (s₁.setTop (mkF m 0 #[.val (.int p1), .val (.int p2), .val (.int p3), .val (.int p4), .unset, .unset, .unset, .unset, .unset, .unset, .unset, .unset, .unset, .unset, .unset] [])) _
    refine XS.iloadN X0.here hx rfl (hb hby at_0) rfl ?_
    show Steps p.tables e below (s₁.setTop (mkF m 1 #[.val (.int p1), .val (.int p2), .val (.int p3), .val (.int p4), .unset, .unset, .unset, .unset, .unset, .unset, .unset, .unset, .unset, .unset, .unset] [(.int p1)])) _
    refine X0.ldcInt hx hown (mvT hZ (hw _ (List.mem_of_getElem? (i := 0) rfl))) (g := (mkF m 1 #[.val (.int p1), .val (.int p2), .val (.int p3), .val (.int p4), .unset, .unset, .unset, .unset, .unset, .unset, .unset, .unset, .unset, .unset, .unset] [(.int p1)])) rfl (hb hby at_1) _ ?_
    show Steps p.tables e below (s₁.setTop (mkF m 3 #[.val (.int p1), .val (.int p2), .val (.int p3), .val (.int p4), .unset, .unset, .unset, .unset, .unset, .unset, .unset, .unset, .unset, .unset, .unset] [(.int (2147483647 : Int32)), (.int p1)])) _
    refine XS.iand X0.here hx rfl (hb hby at_3) rfl ?_
    show Steps p.tables e below (s₁.setTop (mkF m 4 #[.val (.int p1), .val (.int p2), .val (.int p3), .val (.int p4), .unset, .unset, .unset, .unset, .unset, .unset, .unset, .unset, .unset, .unset, .unset] [(.int (p1 &&& (2147483647 : Int32)))])) _
    refine XS.istore X0.here hx rfl (hb hby at_4) rfl (l' := #[.val (.int p1), .val (.int p2), .val (.int p3), .val (.int p4), .val (.int (p1 &&& (2147483647 : Int32))), .unset, .unset, .unset, .unset, .unset, .unset, .unset, .unset, .unset, .unset]) rfl ?_
    show Steps p.tables e below (s₁.setTop (mkF m 6 #[.val (.int p1), .val (.int p2), .val (.int p3), .val (.int p4), .val (.int (p1 &&& (2147483647 : Int32))), .unset, .unset, .unset, .unset, .unset, .unset, .unset, .unset, .unset, .unset] [])) _
    refine XS.iloadN X0.here hx rfl (hb hby at_6) rfl ?_
    show Steps p.tables e below (s₁.setTop (mkF m 7 #[.val (.int p1), .val (.int p2), .val (.int p3), .val (.int p4), .val (.int (p1 &&& (2147483647 : Int32))), .unset, .unset, .unset, .unset, .unset, .unset, .unset, .unset, .unset, .unset] [(.int p2)])) _
    refine X0.ldcInt hx hown (mvT hZ (hw _ (List.mem_of_getElem? (i := 0) rfl))) (g := (mkF m 7 #[.val (.int p1), .val (.int p2), .val (.int p3), .val (.int p4), .val (.int (p1 &&& (2147483647 : Int32))), .unset, .unset, .unset, .unset, .unset, .unset, .unset, .unset, .unset, .unset] [(.int p2)])) rfl (hb hby at_7) _ ?_
    show Steps p.tables e below (s₁.setTop (mkF m 9 #[.val (.int p1), .val (.int p2), .val (.int p3), .val (.int p4), .val (.int (p1 &&& (2147483647 : Int32))), .unset, .unset, .unset, .unset, .unset, .unset, .unset, .unset, .unset, .unset] [(.int (2147483647 : Int32)), (.int p2)])) _
    refine XS.iand X0.here hx rfl (hb hby at_9) rfl ?_
    show Steps p.tables e below (s₁.setTop (mkF m 10 #[.val (.int p1), .val (.int p2), .val (.int p3), .val (.int p4), .val (.int (p1 &&& (2147483647 : Int32))), .unset, .unset, .unset, .unset, .unset, .unset, .unset, .unset, .unset, .unset] [(.int (p2 &&& (2147483647 : Int32)))])) _
    refine XS.istore X0.here hx rfl (hb hby at_10) rfl (l' := #[.val (.int p1), .val (.int p2), .val (.int p3), .val (.int p4), .val (.int (p1 &&& (2147483647 : Int32))), .val (.int (p2 &&& (2147483647 : Int32))), .unset, .unset, .unset, .unset, .unset, .unset, .unset, .unset, .unset]) rfl ?_
    exact k
  have k2 : ∀ t, Steps p.tables e below (s₁.setTop (mkF m 17 #[.val (.int p1), .val (.int p2), .val (.int p3), .val (.int p4), .val (.int (own_a p1)), .val (.int (own_b p2)), .unset, .unset, .unset, .unset, .unset, .unset, .unset, .unset, .unset] [(.int (own_b p2)), (.int (own_a p1)), (.int (1 : Int32))])) t → Steps p.tables e below (s₁.setTop (entryFrame m #[(.int p1), (.int p2), (.int p3), (.int p4)] maxLocals)) t := by
    intro t k
    refine k1 t ?_
    show Steps p.tables e below (s₁.setTop (mkF m 12 #[.val (.int p1), .val (.int p2), .val (.int p3), .val (.int p4), .val (.int (own_a p1)), .val (.int (own_b p2)), .unset, .unset, .unset, .unset, .unset, .unset, .unset, .unset, .unset] [])) _
    refine XS.iconst X0.here hx rfl (hb hby at_12) ?_
    show Steps p.tables e below (s₁.setTop (mkF m 13 #[.val (.int p1), .val (.int p2), .val (.int p3), .val (.int p4), .val (.int (own_a p1)), .val (.int (own_b p2)), .unset, .unset, .unset, .unset, .unset, .unset, .unset, .unset, .unset] [(.int (1 : Int32))])) _
    refine XS.iload X0.here hx rfl (hb hby at_13) rfl ?_
    show Steps p.tables e below (s₁.setTop (mkF m 15 #[.val (.int p1), .val (.int p2), .val (.int p3), .val (.int p4), .val (.int (own_a p1)), .val (.int (own_b p2)), .unset, .unset, .unset, .unset, .unset, .unset, .unset, .unset, .unset] [(.int (own_a p1)), (.int (1 : Int32))])) _
    refine XS.iload X0.here hx rfl (hb hby at_15) rfl ?_
    exact k
  obtain ⟨_, _, ⟨T3, L3, k3c, n3⟩, -, X3, ⟨Lc3, hQ3, l3, y3, z3⟩, st3⟩ := Jvm.LawKit.callS X0 hx (y := (⟨"java/lang/Math", "min", "(II)I"⟩ : MethodName)) hown (mvT hZ (hw _ (List.mem_of_getElem? (i := 1) rfl))) (mvT hZ (hw _ (List.mem_of_getElem? (i := 2) rfl))) (mvT hZ (hw _ (List.mem_of_getElem? (i := 3) rfl))) (mvT hZ (hw _ (List.mem_of_getElem? (i := 4) rfl))) (by decide) (backOf (W := 1) (own_rmmn l Z a0 hw [] (own_a p1) (own_b p2) h0 n0 Z0) hZ (hw _ (List.mem_of_getElem? (i := 4) rfl)) (hw _ (List.mem_of_getElem? (i := 3) rfl)) (by decide) (by decide)) (g := (mkF m 17 #[.val (.int p1), .val (.int p2), .val (.int p3), .val (.int p4), .val (.int (own_a p1)), .val (.int (own_b p2)), .unset, .unset, .unset, .unset, .unset, .unset, .unset, .unset, .unset] [(.int (own_b p2)), (.int (own_a p1)), (.int (1 : Int32))])) rfl (by rw [hml]; rfl) (argsL := [(.int (own_a p1)), (.int (own_b p2))]) (rest := [(.int (1 : Int32))]) (lenOf own_pd1 rfl) rfl (by show 2 * 0 + _ ≤ _; exact Nat.le_of_eq rfl) (hb hby at_17) (fun _ _ => ⟨rfl, e0, (by decide : 0 + 0 ≤ _), (by decide : 0 + 0 ≤ _)⟩)
  dsimp only [Pt.U, Pt.locs, Pt.cells, Pt.slots] at X3 l3 y3 z3 st3 hQ3
  subst l3 y3 z3
  obtain ⟨rfl, N3q, e3⟩ := hQ3
  have N3 := Fr.app N0 N3q
  have k4 : ∀ t, Steps p.tables e below (T3.setTop (mkF m 20 #[.val (.int p1), .val (.int p2), .val (.int p3), .val (.int p4), .val (.int (own_a p1)), .val (.int (own_b p2)), .unset, .unset, .unset, .unset, .unset, .unset, .unset, .unset, .unset] [(.int (own_vmn (own_a p1) (own_b p2))), (.int (1 : Int32))])) t → Steps p.tables e below (s₁.setTop (entryFrame m #[(.int p1), (.int p2), (.int p3), (.int p4)] maxLocals)) t := fun t k => k2 t (st3 t k)
  obtain ⟨_, _, ⟨T5, L5, k5c, n5⟩, -, X5, ⟨Lc5, hQ5, l5, y5, z5⟩, st5⟩ := Jvm.LawKit.callS X3 hx (y := (⟨"java/lang/Math", "max", "(II)I"⟩ : MethodName)) hown (mvT hZ (hw _ (List.mem_of_getElem? (i := 5) rfl))) (mvT hZ (hw _ (List.mem_of_getElem? (i := 6) rfl))) (mvT hZ (hw _ (List.mem_of_getElem? (i := 3) rfl))) (mvT hZ (hw _ (List.mem_of_getElem? (i := 7) rfl))) (by decide) (backOf (W := 0) (own_rmmx l Z a0 hw [] (1 : Int32) (own_vmn (own_a p1) (own_b p2)) h0 n0 Z0) hZ (hw _ (List.mem_of_getElem? (i := 7) rfl)) (hw _ (List.mem_of_getElem? (i := 3) rfl)) (by decide) (by decide)) (g := (mkF m 20 #[.val (.int p1), .val (.int p2), .val (.int p3), .val (.int p4), .val (.int (own_a p1)), .val (.int (own_b p2)), .unset, .unset, .unset, .unset, .unset, .unset, .unset, .unset, .unset] [(.int (own_vmn (own_a p1) (own_b p2))), (.int (1 : Int32))])) rfl (by rw [hml]; rfl) (argsL := [(.int (1 : Int32)), (.int (own_vmn (own_a p1) (own_b p2)))]) (rest := []) (lenOf own_pd1 rfl) rfl (by show 2 * 0 + _ ≤ _; exact Nat.le_of_eq rfl) (hb hby at_20) (fun _ _ => ⟨rfl, e3, (by decide : 0 + 0 ≤ _), (by decide : 0 + 0 ≤ _)⟩)
  dsimp only [Pt.U, Pt.locs, Pt.cells, Pt.slots] at X5 l5 y5 z5 st5 hQ5
  subst l5 y5 z5
  obtain ⟨rfl, N5q, e5⟩ := hQ5
  have N5 := Fr.app N3 N5q
  have k6 : ∀ t, Steps p.tables e below (T5.setTop (mkF m 23 #[.val (.int p1), .val (.int p2), .val (.int p3), .val (.int p4), .val (.int (own_a p1)), .val (.int (own_b p2)), .unset, .unset, .unset, .unset, .unset, .unset, .unset, .unset, .unset] [(.int (own_vmx (1 : Int32) (own_vmn (own_a p1) (own_b p2))))])) t → Steps p.tables e below (s₁.setTop (entryFrame m #[(.int p1), (.int p2), (.int p3), (.int p4)] maxLocals)) t := fun t k => k4 t (st5 t k)
  have k7 : ∀ t, Steps p.tables e below (T5.setTop (mkF m 25 #[.val (.int p1), .val (.int p2), .val (.int p3), .val (.int p4), .val (.int (own_a p1)), .val (.int (own_b p2)), .val (.int (own_lo p1 p2)), .unset, .unset, .unset, .unset, .unset, .unset, .unset, .unset] [])) t → Steps p.tables e below (s₁.setTop (entryFrame m #[(.int p1), (.int p2), (.int p3), (.int p4)] maxLocals)) t := by
    intro t k
    refine k6 t ?_
    show Steps p.tables e below (T5.setTop (mkF m 23 #[.val (.int p1), .val (.int p2), .val (.int p3), .val (.int p4), .val (.int (own_a p1)), .val (.int (own_b p2)), .unset, .unset, .unset, .unset, .unset, .unset, .unset, .unset, .unset] [(.int (own_vmx (1 : Int32) (own_vmn (own_a p1) (own_b p2))))])) _
    refine XS.istore X5.here hx rfl (hb hby at_23) rfl (l' := #[.val (.int p1), .val (.int p2), .val (.int p3), .val (.int p4), .val (.int (own_a p1)), .val (.int (own_b p2)), .val (.int (own_vmx (1 : Int32) (own_vmn (own_a p1) (own_b p2)))), .unset, .unset, .unset, .unset, .unset, .unset, .unset, .unset]) rfl ?_
    exact k
  have k8 : ∀ t, Steps p.tables e below (T5.setTop (mkF m 31 #[.val (.int p1), .val (.int p2), .val (.int p3), .val (.int p4), .val (.int (own_a p1)), .val (.int (own_b p2)), .val (.int (own_lo p1 p2)), .unset, .unset, .unset, .unset, .unset, .unset, .unset, .unset] [(.int (own_b p2)), (.int (own_a p1)), (.int (own_lo p1 p2))])) t → Steps p.tables e below (s₁.setTop (entryFrame m #[(.int p1), (.int p2), (.int p3), (.int p4)] maxLocals)) t := by
    intro t k
    refine k7 t ?_
    show Steps p.tables e below (T5.setTop (mkF m 25 #[.val (.int p1), .val (.int p2), .val (.int p3), .val (.int p4), .val (.int (own_a p1)), .val (.int (own_b p2)), .val (.int (own_lo p1 p2)), .unset, .unset, .unset, .unset, .unset, .unset, .unset, .unset] [])) _
    refine XS.iload X5.here hx rfl (hb hby at_25) rfl ?_
    show Steps p.tables e below (T5.setTop (mkF m 27 #[.val (.int p1), .val (.int p2), .val (.int p3), .val (.int p4), .val (.int (own_a p1)), .val (.int (own_b p2)), .val (.int (own_lo p1 p2)), .unset, .unset, .unset, .unset, .unset, .unset, .unset, .unset] [(.int (own_lo p1 p2))])) _
    refine XS.iload X5.here hx rfl (hb hby at_27) rfl ?_
    show Steps p.tables e below (T5.setTop (mkF m 29 #[.val (.int p1), .val (.int p2), .val (.int p3), .val (.int p4), .val (.int (own_a p1)), .val (.int (own_b p2)), .val (.int (own_lo p1 p2)), .unset, .unset, .unset, .unset, .unset, .unset, .unset, .unset] [(.int (own_a p1)), (.int (own_lo p1 p2))])) _
    refine XS.iload X5.here hx rfl (hb hby at_29) rfl ?_
    exact k
  obtain ⟨_, _, ⟨T9, L9, k9c, n9⟩, -, X9, ⟨Lc9, hQ9, l9, y9, z9⟩, st9⟩ := Jvm.LawKit.callS X5 hx (y := (⟨"java/lang/Math", "max", "(II)I"⟩ : MethodName)) hown (mvT hZ (hw _ (List.mem_of_getElem? (i := 5) rfl))) (mvT hZ (hw _ (List.mem_of_getElem? (i := 6) rfl))) (mvT hZ (hw _ (List.mem_of_getElem? (i := 3) rfl))) (mvT hZ (hw _ (List.mem_of_getElem? (i := 7) rfl))) (by decide) (backOf (W := 1) (own_rmmx l Z a0 hw [] (own_a p1) (own_b p2) h0 n0 Z0) hZ (hw _ (List.mem_of_getElem? (i := 7) rfl)) (hw _ (List.mem_of_getElem? (i := 3) rfl)) (by decide) (by decide)) (g := (mkF m 31 #[.val (.int p1), .val (.int p2), .val (.int p3), .val (.int p4), .val (.int (own_a p1)), .val (.int (own_b p2)), .val (.int (own_lo p1 p2)), .unset, .unset, .unset, .unset, .unset, .unset, .unset, .unset] [(.int (own_b p2)), (.int (own_a p1)), (.int (own_lo p1 p2))])) rfl (by rw [hml]; rfl) (argsL := [(.int (own_a p1)), (.int (own_b p2))]) (rest := [(.int (own_lo p1 p2))]) (lenOf own_pd1 rfl) rfl (by show 2 * 0 + _ ≤ _; exact Nat.le_of_eq rfl) (hb hby at_31) (fun _ _ => ⟨rfl, e5, (by decide : 0 + 0 ≤ _), (by decide : 0 + 0 ≤ _)⟩)
  dsimp only [Pt.U, Pt.locs, Pt.cells, Pt.slots] at X9 l9 y9 z9 st9 hQ9
  subst l9 y9 z9
  obtain ⟨rfl, N9q, e9⟩ := hQ9
  have N9 := Fr.app N5 N9q
  have k10 : ∀ t, Steps p.tables e below (T9.setTop (mkF m 34 #[.val (.int p1), .val (.int p2), .val (.int p3), .val (.int p4), .val (.int (own_a p1)), .val (.int (own_b p2)), .val (.int (own_lo p1 p2)), .unset, .unset, .unset, .unset, .unset, .unset, .unset, .unset] [(.int (own_vmx (own_a p1) (own_b p2))), (.int (own_lo p1 p2))])) t → Steps p.tables e below (s₁.setTop (entryFrame m #[(.int p1), (.int p2), (.int p3), (.int p4)] maxLocals)) t := fun t k => k8 t (st9 t k)
  obtain ⟨_, _, ⟨T11, L11, k11c, n11⟩, -, X11, ⟨Lc11, hQ11, l11, y11, z11⟩, st11⟩ := Jvm.LawKit.callS X9 hx (y := (⟨"java/lang/Math", "max", "(II)I"⟩ : MethodName)) hown (mvT hZ (hw _ (List.mem_of_getElem? (i := 5) rfl))) (mvT hZ (hw _ (List.mem_of_getElem? (i := 6) rfl))) (mvT hZ (hw _ (List.mem_of_getElem? (i := 3) rfl))) (mvT hZ (hw _ (List.mem_of_getElem? (i := 7) rfl))) (by decide) (backOf (W := 0) (own_rmmx l Z a0 hw [] (own_lo p1 p2) (own_vmx (own_a p1) (own_b p2)) h0 n0 Z0) hZ (hw _ (List.mem_of_getElem? (i := 7) rfl)) (hw _ (List.mem_of_getElem? (i := 3) rfl)) (by decide) (by decide)) (g := (mkF m 34 #[.val (.int p1), .val (.int p2), .val (.int p3), .val (.int p4), .val (.int (own_a p1)), .val (.int (own_b p2)), .val (.int (own_lo p1 p2)), .unset, .unset, .unset, .unset, .unset, .unset, .unset, .unset] [(.int (own_vmx (own_a p1) (own_b p2))), (.int (own_lo p1 p2))])) rfl (by rw [hml]; rfl) (argsL := [(.int (own_lo p1 p2)), (.int (own_vmx (own_a p1) (own_b p2)))]) (rest := []) (lenOf own_pd1 rfl) rfl (by show 2 * 0 + _ ≤ _; exact Nat.le_of_eq rfl) (hb hby at_34) (fun _ _ => ⟨rfl, e9, (by decide : 0 + 0 ≤ _), (by decide : 0 + 0 ≤ _)⟩)
  dsimp only [Pt.U, Pt.locs, Pt.cells, Pt.slots] at X11 l11 y11 z11 st11 hQ11
  subst l11 y11 z11
  obtain ⟨rfl, N11q, e11⟩ := hQ11
  have N11 := Fr.app N9 N11q
  have k12 : ∀ t, Steps p.tables e below (T11.setTop (mkF m 37 #[.val (.int p1), .val (.int p2), .val (.int p3), .val (.int p4), .val (.int (own_a p1)), .val (.int (own_b p2)), .val (.int (own_lo p1 p2)), .unset, .unset, .unset, .unset, .unset, .unset, .unset, .unset] [(.int (own_vmx (own_lo p1 p2) (own_vmx (own_a p1) (own_b p2))))])) t → Steps p.tables e below (s₁.setTop (entryFrame m #[(.int p1), (.int p2), (.int p3), (.int p4)] maxLocals)) t := fun t k => k10 t (st11 t k)
  have k13 : ∀ t, Steps p.tables e below (T11.setTop (mkF m 39 #[.val (.int p1), .val (.int p2), .val (.int p3), .val (.int p4), .val (.int (own_a p1)), .val (.int (own_b p2)), .val (.int (own_lo p1 p2)), .val (.int (own_hi p1 p2)), .unset, .unset, .unset, .unset, .unset, .unset, .unset] [])) t → Steps p.tables e below (s₁.setTop (entryFrame m #[(.int p1), (.int p2), (.int p3), (.int p4)] maxLocals)) t := by
    intro t k
    refine k12 t ?_
    show Steps p.tables e below (T11.setTop (mkF m 37 #[.val (.int p1), .val (.int p2), .val (.int p3), .val (.int p4), .val (.int (own_a p1)), .val (.int (own_b p2)), .val (.int (own_lo p1 p2)), .unset, .unset, .unset, .unset, .unset, .unset, .unset, .unset] [(.int (own_vmx (own_lo p1 p2) (own_vmx (own_a p1) (own_b p2))))])) _
    refine XS.istore X11.here hx rfl (hb hby at_37) rfl (l' := #[.val (.int p1), .val (.int p2), .val (.int p3), .val (.int p4), .val (.int (own_a p1)), .val (.int (own_b p2)), .val (.int (own_lo p1 p2)), .val (.int (own_vmx (own_lo p1 p2) (own_vmx (own_a p1) (own_b p2)))), .unset, .unset, .unset, .unset, .unset, .unset, .unset]) rfl ?_
    exact k
  have k14 : ∀ t, Steps p.tables e below (T11.setTop (mkF m 45 #[.val (.int p1), .val (.int p2), .val (.int p3), .val (.int p4), .val (.int (own_a p1)), .val (.int (own_b p2)), .val (.int (own_lo p1 p2)), .val (.int (own_hi p1 p2)), .val (.int (p3 &&& (2147483647 : Int32))), .unset, .unset, .unset, .unset, .unset, .unset] [])) t → Steps p.tables e below (s₁.setTop (entryFrame m #[(.int p1), (.int p2), (.int p3), (.int p4)] maxLocals)) t := by
    intro t k
    refine k13 t ?_
    show Steps p.tables e below (T11.setTop (mkF m 39 #[.val (.int p1), .val (.int p2), .val (.int p3), .val (.int p4), .val (.int (own_a p1)), .val (.int (own_b p2)), .val (.int (own_lo p1 p2)), .val (.int (own_hi p1 p2)), .unset, .unset, .unset, .unset, .unset, .unset, .unset] [])) _
    refine XS.iloadN X11.here hx rfl (hb hby at_39) rfl ?_
    show Steps p.tables e below (T11.setTop (mkF m 40 #[.val (.int p1), .val (.int p2), .val (.int p3), .val (.int p4), .val (.int (own_a p1)), .val (.int (own_b p2)), .val (.int (own_lo p1 p2)), .val (.int (own_hi p1 p2)), .unset, .unset, .unset, .unset, .unset, .unset, .unset] [(.int p3)])) _
    refine X11.ldcInt hx hown (mvT hZ (hw _ (List.mem_of_getElem? (i := 0) rfl))) (g := (mkF m 40 #[.val (.int p1), .val (.int p2), .val (.int p3), .val (.int p4), .val (.int (own_a p1)), .val (.int (own_b p2)), .val (.int (own_lo p1 p2)), .val (.int (own_hi p1 p2)), .unset, .unset, .unset, .unset, .unset, .unset, .unset] [(.int p3)])) rfl (hb hby at_40) _ ?_
    show Steps p.tables e below (T11.setTop (mkF m 42 #[.val (.int p1), .val (.int p2), .val (.int p3), .val (.int p4), .val (.int (own_a p1)), .val (.int (own_b p2)), .val (.int (own_lo p1 p2)), .val (.int (own_hi p1 p2)), .unset, .unset, .unset, .unset, .unset, .unset, .unset] [(.int (2147483647 : Int32)), (.int p3)])) _
    refine XS.iand X11.here hx rfl (hb hby at_42) rfl ?_
    show Steps p.tables e below (T11.setTop (mkF m 43 #[.val (.int p1), .val (.int p2), .val (.int p3), .val (.int p4), .val (.int (own_a p1)), .val (.int (own_b p2)), .val (.int (own_lo p1 p2)), .val (.int (own_hi p1 p2)), .unset, .unset, .unset, .unset, .unset, .unset, .unset] [(.int (p3 &&& (2147483647 : Int32)))])) _
    refine XS.istore X11.here hx rfl (hb hby at_43) rfl (l' := #[.val (.int p1), .val (.int p2), .val (.int p3), .val (.int p4), .val (.int (own_a p1)), .val (.int (own_b p2)), .val (.int (own_lo p1 p2)), .val (.int (own_hi p1 p2)), .val (.int (p3 &&& (2147483647 : Int32))), .unset, .unset, .unset, .unset, .unset, .unset]) rfl ?_
    exact k
  obtain ⟨T15, h15, X15, e15, E15, A15, D15, -, st15⟩ := newO X11 hx hZ hown (hw _ (List.mem_of_getElem? (i := 8) rfl)) (hw _ (List.mem_of_getElem? (i := 9) rfl)) (hw _ (List.mem_of_getElem? (i := 10) rfl)) e11 (g := (mkF m 45 #[.val (.int p1), .val (.int p2), .val (.int p3), .val (.int p4), .val (.int (own_a p1)), .val (.int (own_b p2)), .val (.int (own_lo p1 p2)), .val (.int (own_hi p1 p2)), .val (.int (p3 &&& (2147483647 : Int32))), .unset, .unset, .unset, .unset, .unset, .unset] [])) rfl (hb hby at_45) (by decide) (by decide)
  obtain ⟨b15, g15⟩ : ∃ z, z = h0.size := ⟨_, rfl⟩
  rw [← g15] at A15 D15 st15
  have ge15 : n0 ≤ b15 := Nat.le_trans Z0 (Nat.le_of_eq g15.symm)
  have bo15 : h0.size ≤ b15 := Nat.le_trans (Keep.refl h0 []).1 (Nat.le_of_eq g15.symm)
  have Z15 : n0 ≤ h15.size := Nat.le_trans Z0 E15.1
  have K15 : Keep h0 h15 [] := (Keep.refl h0 []).ext E15
  have f16 : Fld Z h15 b15 "com/example/even_keel/evenkeel/coordinator/GroupConfig" "minSessionTimeoutMs" "I" (.int (0 : Int32)) := D15 (Or.inr (hw _ (List.mem_of_getElem? (i := 23) rfl))) (ty := .int) (by decide)
  have f17 : Fld Z h15 b15 "com/example/even_keel/evenkeel/coordinator/GroupConfig" "maxSessionTimeoutMs" "I" (.int (0 : Int32)) := D15 (Or.inr (hw _ (List.mem_of_getElem? (i := 25) rfl))) (ty := .int) (by decide)
  have f18 : Fld Z h15 b15 "com/example/even_keel/evenkeel/coordinator/GroupConfig" "initialRebalanceDelayMs" "I" (.int (0 : Int32)) := D15 (Or.inr (hw _ (List.mem_of_getElem? (i := 27) rfl))) (ty := .int) (by decide)
  have k19 : ∀ t, Steps p.tables e below (T15.setTop (mkF m 48 #[.val (.int p1), .val (.int p2), .val (.int p3), .val (.int p4), .val (.int (own_a p1)), .val (.int (own_b p2)), .val (.int (own_lo p1 p2)), .val (.int (own_hi p1 p2)), .val (.int (p3 &&& (2147483647 : Int32))), .unset, .unset, .unset, .unset, .unset, .unset] [(.ref b15)])) t → Steps p.tables e below (s₁.setTop (entryFrame m #[(.int p1), (.int p2), (.int p3), (.int p4)] maxLocals)) t := fun t k => k14 t (st15 t k)
  have k20 : ∀ t, Steps p.tables e below (T15.setTop (mkF m 55 #[.val (.int p1), .val (.int p2), .val (.int p3), .val (.int p4), .val (.int (own_a p1)), .val (.int (own_b p2)), .val (.int (own_lo p1 p2)), .val (.int (own_hi p1 p2)), .val (.int (p3 &&& (2147483647 : Int32))), .unset, .unset, .unset, .unset, .unset, .unset] [(.int (p3 &&& (2147483647 : Int32))), (.int (own_hi p1 p2)), (.int (own_lo p1 p2)), (.ref b15), (.ref b15)])) t → Steps p.tables e below (s₁.setTop (entryFrame m #[(.int p1), (.int p2), (.int p3), (.int p4)] maxLocals)) t := by
    intro t k
    refine k19 t ?_
    show Steps p.tables e below (T15.setTop (mkF m 48 #[.val (.int p1), .val (.int p2), .val (.int p3), .val (.int p4), .val (.int (own_a p1)), .val (.int (own_b p2)), .val (.int (own_lo p1 p2)), .val (.int (own_hi p1 p2)), .val (.int (p3 &&& (2147483647 : Int32))), .unset, .unset, .unset, .unset, .unset, .unset] [(.ref b15)])) _
    refine XS.dup X15.here hx rfl (hb hby at_48) rfl rfl ?_
    show Steps p.tables e below (T15.setTop (mkF m 49 #[.val (.int p1), .val (.int p2), .val (.int p3), .val (.int p4), .val (.int (own_a p1)), .val (.int (own_b p2)), .val (.int (own_lo p1 p2)), .val (.int (own_hi p1 p2)), .val (.int (p3 &&& (2147483647 : Int32))), .unset, .unset, .unset, .unset, .unset, .unset] [(.ref b15), (.ref b15)])) _
    refine XS.iload X15.here hx rfl (hb hby at_49) rfl ?_
    show Steps p.tables e below (T15.setTop (mkF m 51 #[.val (.int p1), .val (.int p2), .val (.int p3), .val (.int p4), .val (.int (own_a p1)), .val (.int (own_b p2)), .val (.int (own_lo p1 p2)), .val (.int (own_hi p1 p2)), .val (.int (p3 &&& (2147483647 : Int32))), .unset, .unset, .unset, .unset, .unset, .unset] [(.int (own_lo p1 p2)), (.ref b15), (.ref b15)])) _
    refine XS.iload X15.here hx rfl (hb hby at_51) rfl ?_
    show Steps p.tables e below (T15.setTop (mkF m 53 #[.val (.int p1), .val (.int p2), .val (.int p3), .val (.int p4), .val (.int (own_a p1)), .val (.int (own_b p2)), .val (.int (own_lo p1 p2)), .val (.int (own_hi p1 p2)), .val (.int (p3 &&& (2147483647 : Int32))), .unset, .unset, .unset, .unset, .unset, .unset] [(.int (own_hi p1 p2)), (.int (own_lo p1 p2)), (.ref b15), (.ref b15)])) _
    refine XS.iload X15.here hx rfl (hb hby at_53) rfl ?_
    exact k
  obtain ⟨_, _, ⟨T21, L21, k21c, n21⟩, -, X21, ⟨Lc21, hQ21, l21, y21, z21⟩, st21⟩ := X15.specialBack hx (y := (⟨"com/example/even_keel/evenkeel/coordinator/GroupConfig", "<init>", "(III)V"⟩ : MethodName)) rfl hown (mvT hZ (hw _ (List.mem_of_getElem? (i := 11) rfl))) (mvT hZ (hw _ (List.mem_of_getElem? (i := 12) rfl))) (mvT hZ (hw _ (List.mem_of_getElem? (i := 13) rfl))) (by decide) (backOf (W := 1) (own_rmgc l Z a0 hw [] b15 (own_lo p1 p2) (own_hi p1 p2) (p3 &&& (2147483647 : Int32)) (.int (0 : Int32)) (.int (0 : Int32)) (.int (0 : Int32)) h15 n0 Z15 A15 f16 f17 f18 ge15 (own_c1 p1 p2) (own_c2 p1 p2) (own_c3 p3)) hZ (hw _ (List.mem_of_getElem? (i := 13) rfl)) (hw _ (List.mem_of_getElem? (i := 10) rfl)) (by decide) (by decide)) (g := (mkF m 55 #[.val (.int p1), .val (.int p2), .val (.int p3), .val (.int p4), .val (.int (own_a p1)), .val (.int (own_b p2)), .val (.int (own_lo p1 p2)), .val (.int (own_hi p1 p2)), .val (.int (p3 &&& (2147483647 : Int32))), .unset, .unset, .unset, .unset, .unset, .unset] [(.int (p3 &&& (2147483647 : Int32))), (.int (own_hi p1 p2)), (.int (own_lo p1 p2)), (.ref b15), (.ref b15)])) rfl (by rw [hml]; rfl) (Steps.refl _) (a := b15) (argsL := [(.int (own_lo p1 p2)), (.int (own_hi p1 p2)), (.int (p3 &&& (2147483647 : Int32)))]) (rest := [(.ref b15)]) (lenOf own_pd2 rfl) rfl (by show 2 * 0 + _ ≤ _; exact Nat.le_of_eq rfl) (hb hby at_55) (fun _ _ => ⟨rfl, e15, (by decide : 1 + 0 ≤ _), (by decide : 3 + 0 ≤ _)⟩)
  dsimp only [Pt.U, Pt.locs, Pt.cells, Pt.slots] at X21 l21 y21 z21 st21 hQ21
  subst l21 y21 z21
  obtain ⟨rfl, N21q, Kq21, Eq21, Fa21, Fb21, Fc21⟩ := hQ21
  have N21 := Fr.app N11 N21q
  have Z21 : n0 ≤ T21.heap.size := Nat.le_trans Z15 Kq21.1
  have k22 : ∀ t, Steps p.tables e below (T21.setTop (mkF m 58 #[.val (.int p1), .val (.int p2), .val (.int p3), .val (.int p4), .val (.int (own_a p1)), .val (.int (own_b p2)), .val (.int (own_lo p1 p2)), .val (.int (own_hi p1 p2)), .val (.int (p3 &&& (2147483647 : Int32))), .unset, .unset, .unset, .unset, .unset, .unset] [(.ref b15)])) t → Steps p.tables e below (s₁.setTop (entryFrame m #[(.int p1), (.int p2), (.int p3), (.int p4)] maxLocals)) t := fun t k => k20 t (st21.trans k)
  have k23 : ∀ t, Steps p.tables e below (T21.setTop (mkF m 76 #[.val (.int p1), .val (.int p2), .val (.int p3), .val (.int p4), .val (.int (own_a p1)), .val (.int (own_b p2)), .val (.int (own_lo p1 p2)), .val (.int (own_hi p1 p2)), .val (.int (p3 &&& (2147483647 : Int32))), .val (.ref b15), .val (.long ((p4.toInt64) - ((own_lo p1 p2).toInt64))), .second, .val (.long (((own_hi p1 p2).toInt64) - (p4.toInt64))), .second, .unset] [])) t → Steps p.tables e below (s₁.setTop (entryFrame m #[(.int p1), (.int p2), (.int p3), (.int p4)] maxLocals)) t := by
    intro t k
    refine k22 t ?_
    show Steps p.tables e below (T21.setTop (mkF m 58 #[.val (.int p1), .val (.int p2), .val (.int p3), .val (.int p4), .val (.int (own_a p1)), .val (.int (own_b p2)), .val (.int (own_lo p1 p2)), .val (.int (own_hi p1 p2)), .val (.int (p3 &&& (2147483647 : Int32))), .unset, .unset, .unset, .unset, .unset, .unset] [(.ref b15)])) _
    refine XS.astore X21.here hx rfl (hb hby at_58) rfl rfl (l' := #[.val (.int p1), .val (.int p2), .val (.int p3), .val (.int p4), .val (.int (own_a p1)), .val (.int (own_b p2)), .val (.int (own_lo p1 p2)), .val (.int (own_hi p1 p2)), .val (.int (p3 &&& (2147483647 : Int32))), .val (.ref b15), .unset, .unset, .unset, .unset, .unset]) rfl ?_
    show Steps p.tables e below (T21.setTop (mkF m 60 #[.val (.int p1), .val (.int p2), .val (.int p3), .val (.int p4), .val (.int (own_a p1)), .val (.int (own_b p2)), .val (.int (own_lo p1 p2)), .val (.int (own_hi p1 p2)), .val (.int (p3 &&& (2147483647 : Int32))), .val (.ref b15), .unset, .unset, .unset, .unset, .unset] [])) _
    refine XS.iloadN X21.here hx rfl (hb hby at_60) rfl ?_
    show Steps p.tables e below (T21.setTop (mkF m 61 #[.val (.int p1), .val (.int p2), .val (.int p3), .val (.int p4), .val (.int (own_a p1)), .val (.int (own_b p2)), .val (.int (own_lo p1 p2)), .val (.int (own_hi p1 p2)), .val (.int (p3 &&& (2147483647 : Int32))), .val (.ref b15), .unset, .unset, .unset, .unset, .unset] [(.int p4)])) _
    refine XS.i2l X21.here hx rfl (hb hby at_61) rfl ?_
    show Steps p.tables e below (T21.setTop (mkF m 62 #[.val (.int p1), .val (.int p2), .val (.int p3), .val (.int p4), .val (.int (own_a p1)), .val (.int (own_b p2)), .val (.int (own_lo p1 p2)), .val (.int (own_hi p1 p2)), .val (.int (p3 &&& (2147483647 : Int32))), .val (.ref b15), .unset, .unset, .unset, .unset, .unset] [(.long (p4.toInt64))])) _
    refine XS.iload X21.here hx rfl (hb hby at_62) rfl ?_
    show Steps p.tables e below (T21.setTop (mkF m 64 #[.val (.int p1), .val (.int p2), .val (.int p3), .val (.int p4), .val (.int (own_a p1)), .val (.int (own_b p2)), .val (.int (own_lo p1 p2)), .val (.int (own_hi p1 p2)), .val (.int (p3 &&& (2147483647 : Int32))), .val (.ref b15), .unset, .unset, .unset, .unset, .unset] [(.int (own_lo p1 p2)), (.long (p4.toInt64))])) _
    refine XS.i2l X21.here hx rfl (hb hby at_64) rfl ?_
    show Steps p.tables e below (T21.setTop (mkF m 65 #[.val (.int p1), .val (.int p2), .val (.int p3), .val (.int p4), .val (.int (own_a p1)), .val (.int (own_b p2)), .val (.int (own_lo p1 p2)), .val (.int (own_hi p1 p2)), .val (.int (p3 &&& (2147483647 : Int32))), .val (.ref b15), .unset, .unset, .unset, .unset, .unset] [(.long ((own_lo p1 p2).toInt64)), (.long (p4.toInt64))])) _
    refine XS.lsub X21.here hx rfl (hb hby at_65) rfl ?_
    show Steps p.tables e below (T21.setTop (mkF m 66 #[.val (.int p1), .val (.int p2), .val (.int p3), .val (.int p4), .val (.int (own_a p1)), .val (.int (own_b p2)), .val (.int (own_lo p1 p2)), .val (.int (own_hi p1 p2)), .val (.int (p3 &&& (2147483647 : Int32))), .val (.ref b15), .unset, .unset, .unset, .unset, .unset] [(.long ((p4.toInt64) - ((own_lo p1 p2).toInt64)))])) _
    refine XS.lstore X21.here hx rfl (hb hby at_66) rfl (l' := #[.val (.int p1), .val (.int p2), .val (.int p3), .val (.int p4), .val (.int (own_a p1)), .val (.int (own_b p2)), .val (.int (own_lo p1 p2)), .val (.int (own_hi p1 p2)), .val (.int (p3 &&& (2147483647 : Int32))), .val (.ref b15), .val (.long ((p4.toInt64) - ((own_lo p1 p2).toInt64))), .second, .unset, .unset, .unset]) rfl ?_
    show Steps p.tables e below (T21.setTop (mkF m 68 #[.val (.int p1), .val (.int p2), .val (.int p3), .val (.int p4), .val (.int (own_a p1)), .val (.int (own_b p2)), .val (.int (own_lo p1 p2)), .val (.int (own_hi p1 p2)), .val (.int (p3 &&& (2147483647 : Int32))), .val (.ref b15), .val (.long ((p4.toInt64) - ((own_lo p1 p2).toInt64))), .second, .unset, .unset, .unset] [])) _
    refine XS.iload X21.here hx rfl (hb hby at_68) rfl ?_
    show Steps p.tables e below (T21.setTop (mkF m 70 #[.val (.int p1), .val (.int p2), .val (.int p3), .val (.int p4), .val (.int (own_a p1)), .val (.int (own_b p2)), .val (.int (own_lo p1 p2)), .val (.int (own_hi p1 p2)), .val (.int (p3 &&& (2147483647 : Int32))), .val (.ref b15), .val (.long ((p4.toInt64) - ((own_lo p1 p2).toInt64))), .second, .unset, .unset, .unset] [(.int (own_hi p1 p2))])) _
    refine XS.i2l X21.here hx rfl (hb hby at_70) rfl ?_
    show Steps p.tables e below (T21.setTop (mkF m 71 #[.val (.int p1), .val (.int p2), .val (.int p3), .val (.int p4), .val (.int (own_a p1)), .val (.int (own_b p2)), .val (.int (own_lo p1 p2)), .val (.int (own_hi p1 p2)), .val (.int (p3 &&& (2147483647 : Int32))), .val (.ref b15), .val (.long ((p4.toInt64) - ((own_lo p1 p2).toInt64))), .second, .unset, .unset, .unset] [(.long ((own_hi p1 p2).toInt64))])) _
    refine XS.iloadN X21.here hx rfl (hb hby at_71) rfl ?_
    show Steps p.tables e below (T21.setTop (mkF m 72 #[.val (.int p1), .val (.int p2), .val (.int p3), .val (.int p4), .val (.int (own_a p1)), .val (.int (own_b p2)), .val (.int (own_lo p1 p2)), .val (.int (own_hi p1 p2)), .val (.int (p3 &&& (2147483647 : Int32))), .val (.ref b15), .val (.long ((p4.toInt64) - ((own_lo p1 p2).toInt64))), .second, .unset, .unset, .unset] [(.int p4), (.long ((own_hi p1 p2).toInt64))])) _
    refine XS.i2l X21.here hx rfl (hb hby at_72) rfl ?_
    show Steps p.tables e below (T21.setTop (mkF m 73 #[.val (.int p1), .val (.int p2), .val (.int p3), .val (.int p4), .val (.int (own_a p1)), .val (.int (own_b p2)), .val (.int (own_lo p1 p2)), .val (.int (own_hi p1 p2)), .val (.int (p3 &&& (2147483647 : Int32))), .val (.ref b15), .val (.long ((p4.toInt64) - ((own_lo p1 p2).toInt64))), .second, .unset, .unset, .unset] [(.long (p4.toInt64)), (.long ((own_hi p1 p2).toInt64))])) _
    refine XS.lsub X21.here hx rfl (hb hby at_73) rfl ?_
    show Steps p.tables e below (T21.setTop (mkF m 74 #[.val (.int p1), .val (.int p2), .val (.int p3), .val (.int p4), .val (.int (own_a p1)), .val (.int (own_b p2)), .val (.int (own_lo p1 p2)), .val (.int (own_hi p1 p2)), .val (.int (p3 &&& (2147483647 : Int32))), .val (.ref b15), .val (.long ((p4.toInt64) - ((own_lo p1 p2).toInt64))), .second, .unset, .unset, .unset] [(.long (((own_hi p1 p2).toInt64) - (p4.toInt64)))])) _
    refine XS.lstore X21.here hx rfl (hb hby at_74) rfl (l' := #[.val (.int p1), .val (.int p2), .val (.int p3), .val (.int p4), .val (.int (own_a p1)), .val (.int (own_b p2)), .val (.int (own_lo p1 p2)), .val (.int (own_hi p1 p2)), .val (.int (p3 &&& (2147483647 : Int32))), .val (.ref b15), .val (.long ((p4.toInt64) - ((own_lo p1 p2).toInt64))), .second, .val (.long (((own_hi p1 p2).toInt64) - (p4.toInt64))), .second, .unset]) rfl ?_
    exact k
  have k24 : ∀ t, Steps p.tables e below (T21.setTop (mkF m 97 #[.val (.int p1), .val (.int p2), .val (.int p3), .val (.int p4), .val (.int (own_a p1)), .val (.int (own_b p2)), .val (.int (own_lo p1 p2)), .val (.int (own_hi p1 p2)), .val (.int (p3 &&& (2147483647 : Int32))), .val (.ref b15), .val (.long ((p4.toInt64) - ((own_lo p1 p2).toInt64))), .second, .val (.long (((own_hi p1 p2).toInt64) - (p4.toInt64))), .second, .val (.int (own_ex p1 p2 p4))] [])) t → Steps p.tables e below (s₁.setTop (entryFrame m #[(.int p1), (.int p2), (.int p3), (.int p4)] maxLocals)) t := by
    intro t k
    refine k23 t ?_
    show Steps p.tables e below (T21.setTop (mkF m 76 #[.val (.int p1), .val (.int p2), .val (.int p3), .val (.int p4), .val (.int (own_a p1)), .val (.int (own_b p2)), .val (.int (own_lo p1 p2)), .val (.int (own_hi p1 p2)), .val (.int (p3 &&& (2147483647 : Int32))), .val (.ref b15), .val (.long ((p4.toInt64) - ((own_lo p1 p2).toInt64))), .second, .val (.long (((own_hi p1 p2).toInt64) - (p4.toInt64))), .second, .unset] [])) _
    refine XS.lload X21.here hx rfl (hb hby at_76) rfl ?_
    show Steps p.tables e below (T21.setTop (mkF m 78 #[.val (.int p1), .val (.int p2), .val (.int p3), .val (.int p4), .val (.int (own_a p1)), .val (.int (own_b p2)), .val (.int (own_lo p1 p2)), .val (.int (own_hi p1 p2)), .val (.int (p3 &&& (2147483647 : Int32))), .val (.ref b15), .val (.long ((p4.toInt64) - ((own_lo p1 p2).toInt64))), .second, .val (.long (((own_hi p1 p2).toInt64) - (p4.toInt64))), .second, .unset] [(.long ((p4.toInt64) - ((own_lo p1 p2).toInt64)))])) _
    refine XS.lconst X21.here hx rfl (hb hby at_78) ?_
    show Steps p.tables e below (T21.setTop (mkF m 79 #[.val (.int p1), .val (.int p2), .val (.int p3), .val (.int p4), .val (.int (own_a p1)), .val (.int (own_b p2)), .val (.int (own_lo p1 p2)), .val (.int (own_hi p1 p2)), .val (.int (p3 &&& (2147483647 : Int32))), .val (.ref b15), .val (.long ((p4.toInt64) - ((own_lo p1 p2).toInt64))), .second, .val (.long (((own_hi p1 p2).toInt64) - (p4.toInt64))), .second, .unset] [(.long (0 : Int64)), (.long ((p4.toInt64) - ((own_lo p1 p2).toInt64)))])) _
    refine XS.lcmp X21.here hx rfl (hb hby at_79) rfl ?_
    by_cases hc80_25 : (lcmpW ((p4.toInt64) - ((own_lo p1 p2).toInt64)) (0 : Int64)) < (0 : Int32)
    · show Steps p.tables e below (T21.setTop (mkF m 80 #[.val (.int p1), .val (.int p2), .val (.int p3), .val (.int p4), .val (.int (own_a p1)), .val (.int (own_b p2)), .val (.int (own_lo p1 p2)), .val (.int (own_hi p1 p2)), .val (.int (p3 &&& (2147483647 : Int32))), .val (.ref b15), .val (.long ((p4.toInt64) - ((own_lo p1 p2).toInt64))), .second, .val (.long (((own_hi p1 p2).toInt64) - (p4.toInt64))), .second, .unset] [(.int (lcmpW ((p4.toInt64) - ((own_lo p1 p2).toInt64)) (0 : Int64)))])) _
      refine XS.ifYes X21.here hx rfl (pc0 := 80) (pc' := 94) rfl (hb hby at_80) rfl ((if0 _ _).trans (tlt hc80_25).1) (by decide) (by decide) ?_
      show Steps p.tables e below (T21.setTop (mkF m 94 #[.val (.int p1), .val (.int p2), .val (.int p3), .val (.int p4), .val (.int (own_a p1)), .val (.int (own_b p2)), .val (.int (own_lo p1 p2)), .val (.int (own_hi p1 p2)), .val (.int (p3 &&& (2147483647 : Int32))), .val (.ref b15), .val (.long ((p4.toInt64) - ((own_lo p1 p2).toInt64))), .second, .val (.long (((own_hi p1 p2).toInt64) - (p4.toInt64))), .second, .unset] [])) _
      refine XS.iconst X21.here hx rfl (hb hby at_94) ?_
      show Steps p.tables e below (T21.setTop (mkF m 95 #[.val (.int p1), .val (.int p2), .val (.int p3), .val (.int p4), .val (.int (own_a p1)), .val (.int (own_b p2)), .val (.int (own_lo p1 p2)), .val (.int (own_hi p1 p2)), .val (.int (p3 &&& (2147483647 : Int32))), .val (.ref b15), .val (.long ((p4.toInt64) - ((own_lo p1 p2).toInt64))), .second, .val (.long (((own_hi p1 p2).toInt64) - (p4.toInt64))), .second, .unset] [(.int (0 : Int32))])) _
      refine XS.istore X21.here hx rfl (hb hby at_95) rfl (l' := #[.val (.int p1), .val (.int p2), .val (.int p3), .val (.int p4), .val (.int (own_a p1)), .val (.int (own_b p2)), .val (.int (own_lo p1 p2)), .val (.int (own_hi p1 p2)), .val (.int (p3 &&& (2147483647 : Int32))), .val (.ref b15), .val (.long ((p4.toInt64) - ((own_lo p1 p2).toInt64))), .second, .val (.long (((own_hi p1 p2).toInt64) - (p4.toInt64))), .second, .val (.int (0 : Int32))]) rfl ?_
      have q0 : (own_ex p1 p2 p4) = (0 : Int32) := (if_pos hc80_25)
      rw [q0] at k
      exact k
    · show Steps p.tables e below (T21.setTop (mkF m 80 #[.val (.int p1), .val (.int p2), .val (.int p3), .val (.int p4), .val (.int (own_a p1)), .val (.int (own_b p2)), .val (.int (own_lo p1 p2)), .val (.int (own_hi p1 p2)), .val (.int (p3 &&& (2147483647 : Int32))), .val (.ref b15), .val (.long ((p4.toInt64) - ((own_lo p1 p2).toInt64))), .second, .val (.long (((own_hi p1 p2).toInt64) - (p4.toInt64))), .second, .unset] [(.int (lcmpW ((p4.toInt64) - ((own_lo p1 p2).toInt64)) (0 : Int64)))])) _
      refine XS.ifNo X21.here hx rfl (hb hby at_80) rfl ((if0 _ _).trans (flt hc80_25).1) ?_
      show Steps p.tables e below (T21.setTop (mkF m 83 #[.val (.int p1), .val (.int p2), .val (.int p3), .val (.int p4), .val (.int (own_a p1)), .val (.int (own_b p2)), .val (.int (own_lo p1 p2)), .val (.int (own_hi p1 p2)), .val (.int (p3 &&& (2147483647 : Int32))), .val (.ref b15), .val (.long ((p4.toInt64) - ((own_lo p1 p2).toInt64))), .second, .val (.long (((own_hi p1 p2).toInt64) - (p4.toInt64))), .second, .unset] [])) _
      refine XS.lload X21.here hx rfl (hb hby at_83) rfl ?_
      show Steps p.tables e below (T21.setTop (mkF m 85 #[.val (.int p1), .val (.int p2), .val (.int p3), .val (.int p4), .val (.int (own_a p1)), .val (.int (own_b p2)), .val (.int (own_lo p1 p2)), .val (.int (own_hi p1 p2)), .val (.int (p3 &&& (2147483647 : Int32))), .val (.ref b15), .val (.long ((p4.toInt64) - ((own_lo p1 p2).toInt64))), .second, .val (.long (((own_hi p1 p2).toInt64) - (p4.toInt64))), .second, .unset] [(.long (((own_hi p1 p2).toInt64) - (p4.toInt64)))])) _
      refine XS.lconst X21.here hx rfl (hb hby at_85) ?_
      show Steps p.tables e below (T21.setTop (mkF m 86 #[.val (.int p1), .val (.int p2), .val (.int p3), .val (.int p4), .val (.int (own_a p1)), .val (.int (own_b p2)), .val (.int (own_lo p1 p2)), .val (.int (own_hi p1 p2)), .val (.int (p3 &&& (2147483647 : Int32))), .val (.ref b15), .val (.long ((p4.toInt64) - ((own_lo p1 p2).toInt64))), .second, .val (.long (((own_hi p1 p2).toInt64) - (p4.toInt64))), .second, .unset] [(.long (0 : Int64)), (.long (((own_hi p1 p2).toInt64) - (p4.toInt64)))])) _
      refine XS.lcmp X21.here hx rfl (hb hby at_86) rfl ?_
      by_cases hc87_26 : (lcmpW (((own_hi p1 p2).toInt64) - (p4.toInt64)) (0 : Int64)) < (0 : Int32)
      · show Steps p.tables e below (T21.setTop (mkF m 87 #[.val (.int p1), .val (.int p2), .val (.int p3), .val (.int p4), .val (.int (own_a p1)), .val (.int (own_b p2)), .val (.int (own_lo p1 p2)), .val (.int (own_hi p1 p2)), .val (.int (p3 &&& (2147483647 : Int32))), .val (.ref b15), .val (.long ((p4.toInt64) - ((own_lo p1 p2).toInt64))), .second, .val (.long (((own_hi p1 p2).toInt64) - (p4.toInt64))), .second, .unset] [(.int (lcmpW (((own_hi p1 p2).toInt64) - (p4.toInt64)) (0 : Int64)))])) _
        refine XS.ifYes X21.here hx rfl (pc0 := 87) (pc' := 94) rfl (hb hby at_87) rfl ((if0 _ _).trans (tlt hc87_26).1) (by decide) (by decide) ?_
        show Steps p.tables e below (T21.setTop (mkF m 94 #[.val (.int p1), .val (.int p2), .val (.int p3), .val (.int p4), .val (.int (own_a p1)), .val (.int (own_b p2)), .val (.int (own_lo p1 p2)), .val (.int (own_hi p1 p2)), .val (.int (p3 &&& (2147483647 : Int32))), .val (.ref b15), .val (.long ((p4.toInt64) - ((own_lo p1 p2).toInt64))), .second, .val (.long (((own_hi p1 p2).toInt64) - (p4.toInt64))), .second, .unset] [])) _
        refine XS.iconst X21.here hx rfl (hb hby at_94) ?_
        show Steps p.tables e below (T21.setTop (mkF m 95 #[.val (.int p1), .val (.int p2), .val (.int p3), .val (.int p4), .val (.int (own_a p1)), .val (.int (own_b p2)), .val (.int (own_lo p1 p2)), .val (.int (own_hi p1 p2)), .val (.int (p3 &&& (2147483647 : Int32))), .val (.ref b15), .val (.long ((p4.toInt64) - ((own_lo p1 p2).toInt64))), .second, .val (.long (((own_hi p1 p2).toInt64) - (p4.toInt64))), .second, .unset] [(.int (0 : Int32))])) _
        refine XS.istore X21.here hx rfl (hb hby at_95) rfl (l' := #[.val (.int p1), .val (.int p2), .val (.int p3), .val (.int p4), .val (.int (own_a p1)), .val (.int (own_b p2)), .val (.int (own_lo p1 p2)), .val (.int (own_hi p1 p2)), .val (.int (p3 &&& (2147483647 : Int32))), .val (.ref b15), .val (.long ((p4.toInt64) - ((own_lo p1 p2).toInt64))), .second, .val (.long (((own_hi p1 p2).toInt64) - (p4.toInt64))), .second, .val (.int (0 : Int32))]) rfl ?_
        have q0 : (own_ex p1 p2 p4) = (0 : Int32) := ((if_neg hc80_25).trans (if_pos hc87_26))
        rw [q0] at k
        exact k
      · show Steps p.tables e below (T21.setTop (mkF m 87 #[.val (.int p1), .val (.int p2), .val (.int p3), .val (.int p4), .val (.int (own_a p1)), .val (.int (own_b p2)), .val (.int (own_lo p1 p2)), .val (.int (own_hi p1 p2)), .val (.int (p3 &&& (2147483647 : Int32))), .val (.ref b15), .val (.long ((p4.toInt64) - ((own_lo p1 p2).toInt64))), .second, .val (.long (((own_hi p1 p2).toInt64) - (p4.toInt64))), .second, .unset] [(.int (lcmpW (((own_hi p1 p2).toInt64) - (p4.toInt64)) (0 : Int64)))])) _
        refine XS.ifNo X21.here hx rfl (hb hby at_87) rfl ((if0 _ _).trans (flt hc87_26).1) ?_
        show Steps p.tables e below (T21.setTop (mkF m 90 #[.val (.int p1), .val (.int p2), .val (.int p3), .val (.int p4), .val (.int (own_a p1)), .val (.int (own_b p2)), .val (.int (own_lo p1 p2)), .val (.int (own_hi p1 p2)), .val (.int (p3 &&& (2147483647 : Int32))), .val (.ref b15), .val (.long ((p4.toInt64) - ((own_lo p1 p2).toInt64))), .second, .val (.long (((own_hi p1 p2).toInt64) - (p4.toInt64))), .second, .unset] [])) _
        refine XS.iconst X21.here hx rfl (hb hby at_90) ?_
        show Steps p.tables e below (T21.setTop (mkF m 91 #[.val (.int p1), .val (.int p2), .val (.int p3), .val (.int p4), .val (.int (own_a p1)), .val (.int (own_b p2)), .val (.int (own_lo p1 p2)), .val (.int (own_hi p1 p2)), .val (.int (p3 &&& (2147483647 : Int32))), .val (.ref b15), .val (.long ((p4.toInt64) - ((own_lo p1 p2).toInt64))), .second, .val (.long (((own_hi p1 p2).toInt64) - (p4.toInt64))), .second, .unset] [(.int (1 : Int32))])) _
        refine XS.goto X21.here hx rfl (pc0 := 91) (pc' := 95) rfl (hb hby at_91) (by decide) (by decide) ?_
        show Steps p.tables e below (T21.setTop (mkF m 95 #[.val (.int p1), .val (.int p2), .val (.int p3), .val (.int p4), .val (.int (own_a p1)), .val (.int (own_b p2)), .val (.int (own_lo p1 p2)), .val (.int (own_hi p1 p2)), .val (.int (p3 &&& (2147483647 : Int32))), .val (.ref b15), .val (.long ((p4.toInt64) - ((own_lo p1 p2).toInt64))), .second, .val (.long (((own_hi p1 p2).toInt64) - (p4.toInt64))), .second, .unset] [(.int (1 : Int32))])) _
        refine XS.istore X21.here hx rfl (hb hby at_95) rfl (l' := #[.val (.int p1), .val (.int p2), .val (.int p3), .val (.int p4), .val (.int (own_a p1)), .val (.int (own_b p2)), .val (.int (own_lo p1 p2)), .val (.int (own_hi p1 p2)), .val (.int (p3 &&& (2147483647 : Int32))), .val (.ref b15), .val (.long ((p4.toInt64) - ((own_lo p1 p2).toInt64))), .second, .val (.long (((own_hi p1 p2).toInt64) - (p4.toInt64))), .second, .val (.int (1 : Int32))]) rfl ?_
        have q0 : (own_ex p1 p2 p4) = (1 : Int32) := ((if_neg hc80_25).trans (if_neg hc87_26))
        rw [q0] at k
        exact k
  have k27 : ∀ t, Steps p.tables e below (T21.setTop (mkF m 100 #[.val (.int p1), .val (.int p2), .val (.int p3), .val (.int p4), .val (.int (own_a p1)), .val (.int (own_b p2)), .val (.int (own_lo p1 p2)), .val (.int (own_hi p1 p2)), .val (.int (p3 &&& (2147483647 : Int32))), .val (.ref b15), .val (.long ((p4.toInt64) - ((own_lo p1 p2).toInt64))), .second, .val (.long (((own_hi p1 p2).toInt64) - (p4.toInt64))), .second, .val (.int (own_ex p1 p2 p4))] [(.int p4), (.ref b15)])) t → Steps p.tables e below (s₁.setTop (entryFrame m #[(.int p1), (.int p2), (.int p3), (.int p4)] maxLocals)) t := by
    intro t k
    refine k24 t ?_
    show Steps p.tables e below (T21.setTop (mkF m 97 #[.val (.int p1), .val (.int p2), .val (.int p3), .val (.int p4), .val (.int (own_a p1)), .val (.int (own_b p2)), .val (.int (own_lo p1 p2)), .val (.int (own_hi p1 p2)), .val (.int (p3 &&& (2147483647 : Int32))), .val (.ref b15), .val (.long ((p4.toInt64) - ((own_lo p1 p2).toInt64))), .second, .val (.long (((own_hi p1 p2).toInt64) - (p4.toInt64))), .second, .val (.int (own_ex p1 p2 p4))] [])) _
    refine XS.aload X21.here hx rfl (hb hby at_97) rfl rfl ?_
    show Steps p.tables e below (T21.setTop (mkF m 99 #[.val (.int p1), .val (.int p2), .val (.int p3), .val (.int p4), .val (.int (own_a p1)), .val (.int (own_b p2)), .val (.int (own_lo p1 p2)), .val (.int (own_hi p1 p2)), .val (.int (p3 &&& (2147483647 : Int32))), .val (.ref b15), .val (.long ((p4.toInt64) - ((own_lo p1 p2).toInt64))), .second, .val (.long (((own_hi p1 p2).toInt64) - (p4.toInt64))), .second, .val (.int (own_ex p1 p2 p4))] [(.ref b15)])) _
    refine XS.iloadN X21.here hx rfl (hb hby at_99) rfl ?_
    exact k
  obtain ⟨cq28, kq28, q28a, q28b, q28c⟩ := isOf hZ rfl Eq21
  obtain ⟨_, _, ⟨T28, L28, k28c, n28⟩, -, X28, ⟨Lc28, hQ28, l28, y28, z28⟩, st28⟩ := X21.virtualBack hx (y := (⟨"com/example/even_keel/evenkeel/coordinator/GroupConfig", "allowsSessionTimeout", "(I)Z"⟩ : MethodName)) (z := (⟨"com/example/even_keel/evenkeel/coordinator/GroupConfig", "allowsSessionTimeout", "(I)Z"⟩ : MethodName)) hown (mvT hZ (hw _ (List.mem_of_getElem? (i := 28) rfl))) (mvT hZ (hw _ (List.mem_of_getElem? (i := 29) rfl))) (notFace_of_selects (args := #[]) (mvT hZ (hw _ (List.mem_of_getElem? (i := 31) rfl)))) (mvT hZ (hw _ (List.mem_of_getElem? (i := 31) rfl))) (mvT hZ (hw _ (List.mem_of_getElem? (i := 30) rfl))) (by decide) (backOf (W := 0) (own_rmas l Z a0 hw [] b15 p4 (own_lo p1 p2) (own_hi p1 p2) T21.heap n0 Z21 Fa21 Fb21) hZ (hw _ (List.mem_of_getElem? (i := 32) rfl)) (hw _ (List.mem_of_getElem? (i := 10) rfl)) (by decide) (by decide)) q28a q28c (g := (mkF m 100 #[.val (.int p1), .val (.int p2), .val (.int p3), .val (.int p4), .val (.int (own_a p1)), .val (.int (own_b p2)), .val (.int (own_lo p1 p2)), .val (.int (own_hi p1 p2)), .val (.int (p3 &&& (2147483647 : Int32))), .val (.ref b15), .val (.long ((p4.toInt64) - ((own_lo p1 p2).toInt64))), .second, .val (.long (((own_hi p1 p2).toInt64) - (p4.toInt64))), .second, .val (.int (own_ex p1 p2 p4))] [(.int p4), (.ref b15)])) rfl (by rw [hml]; rfl) (Steps.refl _) (argsL := [(.int p4)]) (rest := []) (lenOf own_pd3 rfl) rfl (by show 2 * 0 + _ ≤ _; exact Nat.le_of_eq rfl) (hb hby at_100) (fun _ _ => ⟨rfl, rfl, (by decide : 1 + 0 ≤ _), (by decide : 3 + 0 ≤ _)⟩)
  dsimp only [Pt.U, Pt.locs, Pt.cells, Pt.slots] at X28 l28 y28 z28 st28 hQ28
  subst l28 y28 z28
  obtain ⟨rfl, N28q, e28⟩ := hQ28
  have N28 := Fr.app N21 N28q
  have k29 : ∀ t, Steps p.tables e below (T28.setTop (mkF m 103 #[.val (.int p1), .val (.int p2), .val (.int p3), .val (.int p4), .val (.int (own_a p1)), .val (.int (own_b p2)), .val (.int (own_lo p1 p2)), .val (.int (own_hi p1 p2)), .val (.int (p3 &&& (2147483647 : Int32))), .val (.ref b15), .val (.long ((p4.toInt64) - ((own_lo p1 p2).toInt64))), .second, .val (.long (((own_hi p1 p2).toInt64) - (p4.toInt64))), .second, .val (.int (own_ex p1 p2 p4))] [(.int (own_vas p4 (own_lo p1 p2) (own_hi p1 p2)))])) t → Steps p.tables e below (s₁.setTop (entryFrame m #[(.int p1), (.int p2), (.int p3), (.int p4)] maxLocals)) t := fun t k => k27 t (st28.trans k)
  have k30 : ∀ t, Steps p.tables e below (T28.setTop (mkF m 105 #[.val (.int p1), .val (.int p2), .val (.int p3), .val (.int p4), .val (.int (own_a p1)), .val (.int (own_b p2)), .val (.int (own_lo p1 p2)), .val (.int (own_hi p1 p2)), .val (.int (p3 &&& (2147483647 : Int32))), .val (.ref b15), .val (.long ((p4.toInt64) - ((own_lo p1 p2).toInt64))), .second, .val (.long (((own_hi p1 p2).toInt64) - (p4.toInt64))), .second, .val (.int (own_ex p1 p2 p4))] [(.int (own_ex p1 p2 p4)), (.int (own_vas p4 (own_lo p1 p2) (own_hi p1 p2)))])) t → Steps p.tables e below (s₁.setTop (entryFrame m #[(.int p1), (.int p2), (.int p3), (.int p4)] maxLocals)) t := by
    intro t k
    refine k29 t ?_
    show Steps p.tables e below (T28.setTop (mkF m 103 #[.val (.int p1), .val (.int p2), .val (.int p3), .val (.int p4), .val (.int (own_a p1)), .val (.int (own_b p2)), .val (.int (own_lo p1 p2)), .val (.int (own_hi p1 p2)), .val (.int (p3 &&& (2147483647 : Int32))), .val (.ref b15), .val (.long ((p4.toInt64) - ((own_lo p1 p2).toInt64))), .second, .val (.long (((own_hi p1 p2).toInt64) - (p4.toInt64))), .second, .val (.int (own_ex p1 p2 p4))] [(.int (own_vas p4 (own_lo p1 p2) (own_hi p1 p2)))])) _
    refine XS.iload X28.here hx rfl (hb hby at_103) rfl ?_
    exact k
  by_cases hc105_31 : (own_vas p4 (own_lo p1 p2) (own_hi p1 p2)) = (own_ex p1 p2 p4)
  · have k32 : ∀ t, Steps p.tables e below (T28.setTop (mkF m 114 #[.val (.int p1), .val (.int p2), .val (.int p3), .val (.int p4), .val (.int (own_a p1)), .val (.int (own_b p2)), .val (.int (own_lo p1 p2)), .val (.int (own_hi p1 p2)), .val (.int (p3 &&& (2147483647 : Int32))), .val (.ref b15), .val (.long ((p4.toInt64) - ((own_lo p1 p2).toInt64))), .second, .val (.long (((own_hi p1 p2).toInt64) - (p4.toInt64))), .second, .val (.int (own_ex p1 p2 p4))] [(.int (own_lo p1 p2)), (.ref b15)])) t → Steps p.tables e below (s₁.setTop (entryFrame m #[(.int p1), (.int p2), (.int p3), (.int p4)] maxLocals)) t := by
      intro t k
      refine k30 t ?_
      show Steps p.tables e below (T28.setTop (mkF m 105 #[.val (.int p1), .val (.int p2), .val (.int p3), .val (.int p4), .val (.int (own_a p1)), .val (.int (own_b p2)), .val (.int (own_lo p1 p2)), .val (.int (own_hi p1 p2)), .val (.int (p3 &&& (2147483647 : Int32))), .val (.ref b15), .val (.long ((p4.toInt64) - ((own_lo p1 p2).toInt64))), .second, .val (.long (((own_hi p1 p2).toInt64) - (p4.toInt64))), .second, .val (.int (own_ex p1 p2 p4))] [(.int (own_ex p1 p2 p4)), (.int (own_vas p4 (own_lo p1 p2) (own_hi p1 p2)))])) _
      refine XS.icmpYes X28.here hx rfl (pc0 := 105) (pc' := 110) rfl (hb hby at_105) rfl (teq hc105_31).1 (by decide) (by decide) ?_
      show Steps p.tables e below (T28.setTop (mkF m 110 #[.val (.int p1), .val (.int p2), .val (.int p3), .val (.int p4), .val (.int (own_a p1)), .val (.int (own_b p2)), .val (.int (own_lo p1 p2)), .val (.int (own_hi p1 p2)), .val (.int (p3 &&& (2147483647 : Int32))), .val (.ref b15), .val (.long ((p4.toInt64) - ((own_lo p1 p2).toInt64))), .second, .val (.long (((own_hi p1 p2).toInt64) - (p4.toInt64))), .second, .val (.int (own_ex p1 p2 p4))] [])) _
      refine XS.aload X28.here hx rfl (hb hby at_110) rfl rfl ?_
      show Steps p.tables e below (T28.setTop (mkF m 112 #[.val (.int p1), .val (.int p2), .val (.int p3), .val (.int p4), .val (.int (own_a p1)), .val (.int (own_b p2)), .val (.int (own_lo p1 p2)), .val (.int (own_hi p1 p2)), .val (.int (p3 &&& (2147483647 : Int32))), .val (.ref b15), .val (.long ((p4.toInt64) - ((own_lo p1 p2).toInt64))), .second, .val (.long (((own_hi p1 p2).toInt64) - (p4.toInt64))), .second, .val (.int (own_ex p1 p2 p4))] [(.ref b15)])) _
      refine XS.iload X28.here hx rfl (hb hby at_112) rfl ?_
      exact k
    obtain ⟨cq33, kq33, q33a, q33b, q33c⟩ := isOf hZ e28 Eq21
    obtain ⟨_, _, ⟨T33, L33, k33c, n33⟩, -, X33, ⟨Lc33, hQ33, l33, y33, z33⟩, st33⟩ := X28.virtualBack hx (y := (⟨"com/example/even_keel/evenkeel/coordinator/GroupConfig", "allowsSessionTimeout", "(I)Z"⟩ : MethodName)) (z := (⟨"com/example/even_keel/evenkeel/coordinator/GroupConfig", "allowsSessionTimeout", "(I)Z"⟩ : MethodName)) hown (mvT hZ (hw _ (List.mem_of_getElem? (i := 28) rfl))) (mvT hZ (hw _ (List.mem_of_getElem? (i := 29) rfl))) (notFace_of_selects (args := #[]) (mvT hZ (hw _ (List.mem_of_getElem? (i := 31) rfl)))) (mvT hZ (hw _ (List.mem_of_getElem? (i := 31) rfl))) (mvT hZ (hw _ (List.mem_of_getElem? (i := 30) rfl))) (by decide) (backOf (W := 0) (own_rmas l Z a0 hw [] b15 (own_lo p1 p2) (own_lo p1 p2) (own_hi p1 p2) T21.heap n0 Z21 Fa21 Fb21) hZ (hw _ (List.mem_of_getElem? (i := 32) rfl)) (hw _ (List.mem_of_getElem? (i := 10) rfl)) (by decide) (by decide)) q33a q33c (g := (mkF m 114 #[.val (.int p1), .val (.int p2), .val (.int p3), .val (.int p4), .val (.int (own_a p1)), .val (.int (own_b p2)), .val (.int (own_lo p1 p2)), .val (.int (own_hi p1 p2)), .val (.int (p3 &&& (2147483647 : Int32))), .val (.ref b15), .val (.long ((p4.toInt64) - ((own_lo p1 p2).toInt64))), .second, .val (.long (((own_hi p1 p2).toInt64) - (p4.toInt64))), .second, .val (.int (own_ex p1 p2 p4))] [(.int (own_lo p1 p2)), (.ref b15)])) rfl (by rw [hml]; rfl) (Steps.refl _) (argsL := [(.int (own_lo p1 p2))]) (rest := []) (lenOf own_pd3 rfl) rfl (by show 2 * 0 + _ ≤ _; exact Nat.le_of_eq rfl) (hb hby at_114) (fun _ _ => ⟨rfl, e28, (by decide : 1 + 0 ≤ _), (by decide : 3 + 0 ≤ _)⟩)
    dsimp only [Pt.U, Pt.locs, Pt.cells, Pt.slots] at X33 l33 y33 z33 st33 hQ33
    subst l33 y33 z33
    obtain ⟨rfl, N33q, e33⟩ := hQ33
    have N33 := Fr.app N28 N33q
    have k34 : ∀ t, Steps p.tables e below (T33.setTop (mkF m 117 #[.val (.int p1), .val (.int p2), .val (.int p3), .val (.int p4), .val (.int (own_a p1)), .val (.int (own_b p2)), .val (.int (own_lo p1 p2)), .val (.int (own_hi p1 p2)), .val (.int (p3 &&& (2147483647 : Int32))), .val (.ref b15), .val (.long ((p4.toInt64) - ((own_lo p1 p2).toInt64))), .second, .val (.long (((own_hi p1 p2).toInt64) - (p4.toInt64))), .second, .val (.int (own_ex p1 p2 p4))] [(.int (own_vas (own_lo p1 p2) (own_lo p1 p2) (own_hi p1 p2)))])) t → Steps p.tables e below (s₁.setTop (entryFrame m #[(.int p1), (.int p2), (.int p3), (.int p4)] maxLocals)) t := fun t k => k32 t (st33.trans k)
    by_cases hc117_35 : (own_vas (own_lo p1 p2) (own_lo p1 p2) (own_hi p1 p2)) = (0 : Int32)
    · have k36 : ∀ t, Steps p.tables e below (T33.setTop (mkF m 121 #[.val (.int p1), .val (.int p2), .val (.int p3), .val (.int p4), .val (.int (own_a p1)), .val (.int (own_b p2)), .val (.int (own_lo p1 p2)), .val (.int (own_hi p1 p2)), .val (.int (p3 &&& (2147483647 : Int32))), .val (.ref b15), .val (.long ((p4.toInt64) - ((own_lo p1 p2).toInt64))), .second, .val (.long (((own_hi p1 p2).toInt64) - (p4.toInt64))), .second, .val (.int (own_ex p1 p2 p4))] [(.int (0 : Int32))])) t → Steps p.tables e below (s₁.setTop (entryFrame m #[(.int p1), (.int p2), (.int p3), (.int p4)] maxLocals)) t := by
        intro t k
        refine k34 t ?_
        show Steps p.tables e below (T33.setTop (mkF m 117 #[.val (.int p1), .val (.int p2), .val (.int p3), .val (.int p4), .val (.int (own_a p1)), .val (.int (own_b p2)), .val (.int (own_lo p1 p2)), .val (.int (own_hi p1 p2)), .val (.int (p3 &&& (2147483647 : Int32))), .val (.ref b15), .val (.long ((p4.toInt64) - ((own_lo p1 p2).toInt64))), .second, .val (.long (((own_hi p1 p2).toInt64) - (p4.toInt64))), .second, .val (.int (own_ex p1 p2 p4))] [(.int (own_vas (own_lo p1 p2) (own_lo p1 p2) (own_hi p1 p2)))])) _
        refine XS.ifNo X33.here hx rfl (hb hby at_117) rfl ((if0 _ _).trans (teq hc117_35).2) ?_
        show Steps p.tables e below (T33.setTop (mkF m 120 #[.val (.int p1), .val (.int p2), .val (.int p3), .val (.int p4), .val (.int (own_a p1)), .val (.int (own_b p2)), .val (.int (own_lo p1 p2)), .val (.int (own_hi p1 p2)), .val (.int (p3 &&& (2147483647 : Int32))), .val (.ref b15), .val (.long ((p4.toInt64) - ((own_lo p1 p2).toInt64))), .second, .val (.long (((own_hi p1 p2).toInt64) - (p4.toInt64))), .second, .val (.int (own_ex p1 p2 p4))] [])) _
        refine XS.iconst X33.here hx rfl (hb hby at_120) ?_
        exact k
      obtain ⟨fs, hr, hrun, hended, hW, hsame⟩ := X33.leave (v := (some (.int (0 : Int32)))) (fun h => by rw [Bd.returns] at h; cases h)
      refine ⟨_, _, k36 _ ?_, hrun, hended, _, _, rfl, ?_, ⟨_, rfl⟩, hW, hsame.mono (by decide) (by decide)⟩
      · exact retN X33 hx (t := .boolean) Bd.returns (by simp) (hb hby at_121) hr
      · have hv : (own_v0 p1 p2 p3 p4) = (0 : Int32) := ((if_pos hc105_31).trans (if_pos hc117_35))
        have h1 : (0 : Int32) = (1 : Int32) := hv.symm.trans hone
        exact ⟨congrArg (fun z => some (Value.int z)) h1, N33⟩
    · have k37 : ∀ t, Steps p.tables e below (T33.setTop (mkF m 126 #[.val (.int p1), .val (.int p2), .val (.int p3), .val (.int p4), .val (.int (own_a p1)), .val (.int (own_b p2)), .val (.int (own_lo p1 p2)), .val (.int (own_hi p1 p2)), .val (.int (p3 &&& (2147483647 : Int32))), .val (.ref b15), .val (.long ((p4.toInt64) - ((own_lo p1 p2).toInt64))), .second, .val (.long (((own_hi p1 p2).toInt64) - (p4.toInt64))), .second, .val (.int (own_ex p1 p2 p4))] [(.int (own_hi p1 p2)), (.ref b15)])) t → Steps p.tables e below (s₁.setTop (entryFrame m #[(.int p1), (.int p2), (.int p3), (.int p4)] maxLocals)) t := by
        intro t k
        refine k34 t ?_
        show Steps p.tables e below (T33.setTop (mkF m 117 #[.val (.int p1), .val (.int p2), .val (.int p3), .val (.int p4), .val (.int (own_a p1)), .val (.int (own_b p2)), .val (.int (own_lo p1 p2)), .val (.int (own_hi p1 p2)), .val (.int (p3 &&& (2147483647 : Int32))), .val (.ref b15), .val (.long ((p4.toInt64) - ((own_lo p1 p2).toInt64))), .second, .val (.long (((own_hi p1 p2).toInt64) - (p4.toInt64))), .second, .val (.int (own_ex p1 p2 p4))] [(.int (own_vas (own_lo p1 p2) (own_lo p1 p2) (own_hi p1 p2)))])) _
        refine XS.ifYes X33.here hx rfl (pc0 := 117) (pc' := 122) rfl (hb hby at_117) rfl ((if0 _ _).trans (feq hc117_35).2) (by decide) (by decide) ?_
        show Steps p.tables e below (T33.setTop (mkF m 122 #[.val (.int p1), .val (.int p2), .val (.int p3), .val (.int p4), .val (.int (own_a p1)), .val (.int (own_b p2)), .val (.int (own_lo p1 p2)), .val (.int (own_hi p1 p2)), .val (.int (p3 &&& (2147483647 : Int32))), .val (.ref b15), .val (.long ((p4.toInt64) - ((own_lo p1 p2).toInt64))), .second, .val (.long (((own_hi p1 p2).toInt64) - (p4.toInt64))), .second, .val (.int (own_ex p1 p2 p4))] [])) _
        refine XS.aload X33.here hx rfl (hb hby at_122) rfl rfl ?_
        show Steps p.tables e below (T33.setTop (mkF m 124 #[.val (.int p1), .val (.int p2), .val (.int p3), .val (.int p4), .val (.int (own_a p1)), .val (.int (own_b p2)), .val (.int (own_lo p1 p2)), .val (.int (own_hi p1 p2)), .val (.int (p3 &&& (2147483647 : Int32))), .val (.ref b15), .val (.long ((p4.toInt64) - ((own_lo p1 p2).toInt64))), .second, .val (.long (((own_hi p1 p2).toInt64) - (p4.toInt64))), .second, .val (.int (own_ex p1 p2 p4))] [(.ref b15)])) _
        refine XS.iload X33.here hx rfl (hb hby at_124) rfl ?_
        exact k
      obtain ⟨cq38, kq38, q38a, q38b, q38c⟩ := isOf hZ e33 Eq21
      obtain ⟨_, _, ⟨T38, L38, k38c, n38⟩, -, X38, ⟨Lc38, hQ38, l38, y38, z38⟩, st38⟩ := X33.virtualBack hx (y := (⟨"com/example/even_keel/evenkeel/coordinator/GroupConfig", "allowsSessionTimeout", "(I)Z"⟩ : MethodName)) (z := (⟨"com/example/even_keel/evenkeel/coordinator/GroupConfig", "allowsSessionTimeout", "(I)Z"⟩ : MethodName)) hown (mvT hZ (hw _ (List.mem_of_getElem? (i := 28) rfl))) (mvT hZ (hw _ (List.mem_of_getElem? (i := 29) rfl))) (notFace_of_selects (args := #[]) (mvT hZ (hw _ (List.mem_of_getElem? (i := 31) rfl)))) (mvT hZ (hw _ (List.mem_of_getElem? (i := 31) rfl))) (mvT hZ (hw _ (List.mem_of_getElem? (i := 30) rfl))) (by decide) (backOf (W := 0) (own_rmas l Z a0 hw [] b15 (own_hi p1 p2) (own_lo p1 p2) (own_hi p1 p2) T21.heap n0 Z21 Fa21 Fb21) hZ (hw _ (List.mem_of_getElem? (i := 32) rfl)) (hw _ (List.mem_of_getElem? (i := 10) rfl)) (by decide) (by decide)) q38a q38c (g := (mkF m 126 #[.val (.int p1), .val (.int p2), .val (.int p3), .val (.int p4), .val (.int (own_a p1)), .val (.int (own_b p2)), .val (.int (own_lo p1 p2)), .val (.int (own_hi p1 p2)), .val (.int (p3 &&& (2147483647 : Int32))), .val (.ref b15), .val (.long ((p4.toInt64) - ((own_lo p1 p2).toInt64))), .second, .val (.long (((own_hi p1 p2).toInt64) - (p4.toInt64))), .second, .val (.int (own_ex p1 p2 p4))] [(.int (own_hi p1 p2)), (.ref b15)])) rfl (by rw [hml]; rfl) (Steps.refl _) (argsL := [(.int (own_hi p1 p2))]) (rest := []) (lenOf own_pd3 rfl) rfl (by show 2 * 0 + _ ≤ _; exact Nat.le_of_eq rfl) (hb hby at_126) (fun _ _ => ⟨rfl, e33, (by decide : 1 + 0 ≤ _), (by decide : 3 + 0 ≤ _)⟩)
      dsimp only [Pt.U, Pt.locs, Pt.cells, Pt.slots] at X38 l38 y38 z38 st38 hQ38
      subst l38 y38 z38
      obtain ⟨rfl, N38q, e38⟩ := hQ38
      have N38 := Fr.app N33 N38q
      have k39 : ∀ t, Steps p.tables e below (T38.setTop (mkF m 129 #[.val (.int p1), .val (.int p2), .val (.int p3), .val (.int p4), .val (.int (own_a p1)), .val (.int (own_b p2)), .val (.int (own_lo p1 p2)), .val (.int (own_hi p1 p2)), .val (.int (p3 &&& (2147483647 : Int32))), .val (.ref b15), .val (.long ((p4.toInt64) - ((own_lo p1 p2).toInt64))), .second, .val (.long (((own_hi p1 p2).toInt64) - (p4.toInt64))), .second, .val (.int (own_ex p1 p2 p4))] [(.int (own_vas (own_hi p1 p2) (own_lo p1 p2) (own_hi p1 p2)))])) t → Steps p.tables e below (s₁.setTop (entryFrame m #[(.int p1), (.int p2), (.int p3), (.int p4)] maxLocals)) t := fun t k => k37 t (st38.trans k)
      by_cases hc129_40 : (own_vas (own_hi p1 p2) (own_lo p1 p2) (own_hi p1 p2)) = (0 : Int32)
      · have k41 : ∀ t, Steps p.tables e below (T38.setTop (mkF m 133 #[.val (.int p1), .val (.int p2), .val (.int p3), .val (.int p4), .val (.int (own_a p1)), .val (.int (own_b p2)), .val (.int (own_lo p1 p2)), .val (.int (own_hi p1 p2)), .val (.int (p3 &&& (2147483647 : Int32))), .val (.ref b15), .val (.long ((p4.toInt64) - ((own_lo p1 p2).toInt64))), .second, .val (.long (((own_hi p1 p2).toInt64) - (p4.toInt64))), .second, .val (.int (own_ex p1 p2 p4))] [(.int (0 : Int32))])) t → Steps p.tables e below (s₁.setTop (entryFrame m #[(.int p1), (.int p2), (.int p3), (.int p4)] maxLocals)) t := by
          intro t k
          refine k39 t ?_
          show Steps p.tables e below (T38.setTop (mkF m 129 #[.val (.int p1), .val (.int p2), .val (.int p3), .val (.int p4), .val (.int (own_a p1)), .val (.int (own_b p2)), .val (.int (own_lo p1 p2)), .val (.int (own_hi p1 p2)), .val (.int (p3 &&& (2147483647 : Int32))), .val (.ref b15), .val (.long ((p4.toInt64) - ((own_lo p1 p2).toInt64))), .second, .val (.long (((own_hi p1 p2).toInt64) - (p4.toInt64))), .second, .val (.int (own_ex p1 p2 p4))] [(.int (own_vas (own_hi p1 p2) (own_lo p1 p2) (own_hi p1 p2)))])) _
          refine XS.ifNo X38.here hx rfl (hb hby at_129) rfl ((if0 _ _).trans (teq hc129_40).2) ?_
          show Steps p.tables e below (T38.setTop (mkF m 132 #[.val (.int p1), .val (.int p2), .val (.int p3), .val (.int p4), .val (.int (own_a p1)), .val (.int (own_b p2)), .val (.int (own_lo p1 p2)), .val (.int (own_hi p1 p2)), .val (.int (p3 &&& (2147483647 : Int32))), .val (.ref b15), .val (.long ((p4.toInt64) - ((own_lo p1 p2).toInt64))), .second, .val (.long (((own_hi p1 p2).toInt64) - (p4.toInt64))), .second, .val (.int (own_ex p1 p2 p4))] [])) _
          refine XS.iconst X38.here hx rfl (hb hby at_132) ?_
          exact k
        obtain ⟨fs, hr, hrun, hended, hW, hsame⟩ := X38.leave (v := (some (.int (0 : Int32)))) (fun h => by rw [Bd.returns] at h; cases h)
        refine ⟨_, _, k41 _ ?_, hrun, hended, _, _, rfl, ?_, ⟨_, rfl⟩, hW, hsame.mono (by decide) (by decide)⟩
        · exact retN X38 hx (t := .boolean) Bd.returns (by simp) (hb hby at_133) hr
        · have hv : (own_v0 p1 p2 p3 p4) = (0 : Int32) := ((if_pos hc105_31).trans ((if_neg hc117_35).trans (if_pos hc129_40)))
          have h1 : (0 : Int32) = (1 : Int32) := hv.symm.trans hone
          exact ⟨congrArg (fun z => some (Value.int z)) h1, N38⟩
      · have k42 : ∀ t, Steps p.tables e below (T38.setTop (mkF m 140 #[.val (.int p1), .val (.int p2), .val (.int p3), .val (.int p4), .val (.int (own_a p1)), .val (.int (own_b p2)), .val (.int (own_lo p1 p2)), .val (.int (own_hi p1 p2)), .val (.int (p3 &&& (2147483647 : Int32))), .val (.ref b15), .val (.long ((p4.toInt64) - ((own_lo p1 p2).toInt64))), .second, .val (.long (((own_hi p1 p2).toInt64) - (p4.toInt64))), .second, .val (.int (own_ex p1 p2 p4))] [(.int ((own_lo p1 p2) - (1 : Int32))), (.ref b15)])) t → Steps p.tables e below (s₁.setTop (entryFrame m #[(.int p1), (.int p2), (.int p3), (.int p4)] maxLocals)) t := by
          intro t k
          refine k39 t ?_
          show Steps p.tables e below (T38.setTop (mkF m 129 #[.val (.int p1), .val (.int p2), .val (.int p3), .val (.int p4), .val (.int (own_a p1)), .val (.int (own_b p2)), .val (.int (own_lo p1 p2)), .val (.int (own_hi p1 p2)), .val (.int (p3 &&& (2147483647 : Int32))), .val (.ref b15), .val (.long ((p4.toInt64) - ((own_lo p1 p2).toInt64))), .second, .val (.long (((own_hi p1 p2).toInt64) - (p4.toInt64))), .second, .val (.int (own_ex p1 p2 p4))] [(.int (own_vas (own_hi p1 p2) (own_lo p1 p2) (own_hi p1 p2)))])) _
          refine XS.ifYes X38.here hx rfl (pc0 := 129) (pc' := 134) rfl (hb hby at_129) rfl ((if0 _ _).trans (feq hc129_40).2) (by decide) (by decide) ?_
          show Steps p.tables e below (T38.setTop (mkF m 134 #[.val (.int p1), .val (.int p2), .val (.int p3), .val (.int p4), .val (.int (own_a p1)), .val (.int (own_b p2)), .val (.int (own_lo p1 p2)), .val (.int (own_hi p1 p2)), .val (.int (p3 &&& (2147483647 : Int32))), .val (.ref b15), .val (.long ((p4.toInt64) - ((own_lo p1 p2).toInt64))), .second, .val (.long (((own_hi p1 p2).toInt64) - (p4.toInt64))), .second, .val (.int (own_ex p1 p2 p4))] [])) _
          refine XS.aload X38.here hx rfl (hb hby at_134) rfl rfl ?_
          show Steps p.tables e below (T38.setTop (mkF m 136 #[.val (.int p1), .val (.int p2), .val (.int p3), .val (.int p4), .val (.int (own_a p1)), .val (.int (own_b p2)), .val (.int (own_lo p1 p2)), .val (.int (own_hi p1 p2)), .val (.int (p3 &&& (2147483647 : Int32))), .val (.ref b15), .val (.long ((p4.toInt64) - ((own_lo p1 p2).toInt64))), .second, .val (.long (((own_hi p1 p2).toInt64) - (p4.toInt64))), .second, .val (.int (own_ex p1 p2 p4))] [(.ref b15)])) _
          refine XS.iload X38.here hx rfl (hb hby at_136) rfl ?_
          show Steps p.tables e below (T38.setTop (mkF m 138 #[.val (.int p1), .val (.int p2), .val (.int p3), .val (.int p4), .val (.int (own_a p1)), .val (.int (own_b p2)), .val (.int (own_lo p1 p2)), .val (.int (own_hi p1 p2)), .val (.int (p3 &&& (2147483647 : Int32))), .val (.ref b15), .val (.long ((p4.toInt64) - ((own_lo p1 p2).toInt64))), .second, .val (.long (((own_hi p1 p2).toInt64) - (p4.toInt64))), .second, .val (.int (own_ex p1 p2 p4))] [(.int (own_lo p1 p2)), (.ref b15)])) _
          refine XS.iconst X38.here hx rfl (hb hby at_138) ?_
          show Steps p.tables e below (T38.setTop (mkF m 139 #[.val (.int p1), .val (.int p2), .val (.int p3), .val (.int p4), .val (.int (own_a p1)), .val (.int (own_b p2)), .val (.int (own_lo p1 p2)), .val (.int (own_hi p1 p2)), .val (.int (p3 &&& (2147483647 : Int32))), .val (.ref b15), .val (.long ((p4.toInt64) - ((own_lo p1 p2).toInt64))), .second, .val (.long (((own_hi p1 p2).toInt64) - (p4.toInt64))), .second, .val (.int (own_ex p1 p2 p4))] [(.int (1 : Int32)), (.int (own_lo p1 p2)), (.ref b15)])) _
          refine XS.isub X38.here hx rfl (hb hby at_139) rfl ?_
          exact k
        obtain ⟨cq43, kq43, q43a, q43b, q43c⟩ := isOf hZ e38 Eq21
        obtain ⟨_, _, ⟨T43, L43, k43c, n43⟩, -, X43, ⟨Lc43, hQ43, l43, y43, z43⟩, st43⟩ := X38.virtualBack hx (y := (⟨"com/example/even_keel/evenkeel/coordinator/GroupConfig", "allowsSessionTimeout", "(I)Z"⟩ : MethodName)) (z := (⟨"com/example/even_keel/evenkeel/coordinator/GroupConfig", "allowsSessionTimeout", "(I)Z"⟩ : MethodName)) hown (mvT hZ (hw _ (List.mem_of_getElem? (i := 28) rfl))) (mvT hZ (hw _ (List.mem_of_getElem? (i := 29) rfl))) (notFace_of_selects (args := #[]) (mvT hZ (hw _ (List.mem_of_getElem? (i := 31) rfl)))) (mvT hZ (hw _ (List.mem_of_getElem? (i := 31) rfl))) (mvT hZ (hw _ (List.mem_of_getElem? (i := 30) rfl))) (by decide) (backOf (W := 0) (own_rmas l Z a0 hw [] b15 ((own_lo p1 p2) - (1 : Int32)) (own_lo p1 p2) (own_hi p1 p2) T21.heap n0 Z21 Fa21 Fb21) hZ (hw _ (List.mem_of_getElem? (i := 32) rfl)) (hw _ (List.mem_of_getElem? (i := 10) rfl)) (by decide) (by decide)) q43a q43c (g := (mkF m 140 #[.val (.int p1), .val (.int p2), .val (.int p3), .val (.int p4), .val (.int (own_a p1)), .val (.int (own_b p2)), .val (.int (own_lo p1 p2)), .val (.int (own_hi p1 p2)), .val (.int (p3 &&& (2147483647 : Int32))), .val (.ref b15), .val (.long ((p4.toInt64) - ((own_lo p1 p2).toInt64))), .second, .val (.long (((own_hi p1 p2).toInt64) - (p4.toInt64))), .second, .val (.int (own_ex p1 p2 p4))] [(.int ((own_lo p1 p2) - (1 : Int32))), (.ref b15)])) rfl (by rw [hml]; rfl) (Steps.refl _) (argsL := [(.int ((own_lo p1 p2) - (1 : Int32)))]) (rest := []) (lenOf own_pd3 rfl) rfl (by show 2 * 0 + _ ≤ _; exact Nat.le_of_eq rfl) (hb hby at_140) (fun _ _ => ⟨rfl, e38, (by decide : 1 + 0 ≤ _), (by decide : 3 + 0 ≤ _)⟩)
        dsimp only [Pt.U, Pt.locs, Pt.cells, Pt.slots] at X43 l43 y43 z43 st43 hQ43
        subst l43 y43 z43
        obtain ⟨rfl, N43q, e43⟩ := hQ43
        have N43 := Fr.app N38 N43q
        have k44 : ∀ t, Steps p.tables e below (T43.setTop (mkF m 143 #[.val (.int p1), .val (.int p2), .val (.int p3), .val (.int p4), .val (.int (own_a p1)), .val (.int (own_b p2)), .val (.int (own_lo p1 p2)), .val (.int (own_hi p1 p2)), .val (.int (p3 &&& (2147483647 : Int32))), .val (.ref b15), .val (.long ((p4.toInt64) - ((own_lo p1 p2).toInt64))), .second, .val (.long (((own_hi p1 p2).toInt64) - (p4.toInt64))), .second, .val (.int (own_ex p1 p2 p4))] [(.int (own_vas ((own_lo p1 p2) - (1 : Int32)) (own_lo p1 p2) (own_hi p1 p2)))])) t → Steps p.tables e below (s₁.setTop (entryFrame m #[(.int p1), (.int p2), (.int p3), (.int p4)] maxLocals)) t := fun t k => k42 t (st43.trans k)
        by_cases hc143_45 : (own_vas ((own_lo p1 p2) - (1 : Int32)) (own_lo p1 p2) (own_hi p1 p2)) = (0 : Int32)
        · have k46 : ∀ t, Steps p.tables e below (T43.setTop (mkF m 152 #[.val (.int p1), .val (.int p2), .val (.int p3), .val (.int p4), .val (.int (own_a p1)), .val (.int (own_b p2)), .val (.int (own_lo p1 p2)), .val (.int (own_hi p1 p2)), .val (.int (p3 &&& (2147483647 : Int32))), .val (.ref b15), .val (.long ((p4.toInt64) - ((own_lo p1 p2).toInt64))), .second, .val (.long (((own_hi p1 p2).toInt64) - (p4.toInt64))), .second, .val (.int (own_ex p1 p2 p4))] [(.int (2147483647 : Int32)), (.int (own_hi p1 p2))])) t → Steps p.tables e below (s₁.setTop (entryFrame m #[(.int p1), (.int p2), (.int p3), (.int p4)] maxLocals)) t := by
            intro t k
            refine k44 t ?_
            show Steps p.tables e below (T43.setTop (mkF m 143 #[.val (.int p1), .val (.int p2), .val (.int p3), .val (.int p4), .val (.int (own_a p1)), .val (.int (own_b p2)), .val (.int (own_lo p1 p2)), .val (.int (own_hi p1 p2)), .val (.int (p3 &&& (2147483647 : Int32))), .val (.ref b15), .val (.long ((p4.toInt64) - ((own_lo p1 p2).toInt64))), .second, .val (.long (((own_hi p1 p2).toInt64) - (p4.toInt64))), .second, .val (.int (own_ex p1 p2 p4))] [(.int (own_vas ((own_lo p1 p2) - (1 : Int32)) (own_lo p1 p2) (own_hi p1 p2)))])) _
            refine XS.ifYes X43.here hx rfl (pc0 := 143) (pc' := 148) rfl (hb hby at_143) rfl ((if0 _ _).trans (teq hc143_45).1) (by decide) (by decide) ?_
            show Steps p.tables e below (T43.setTop (mkF m 148 #[.val (.int p1), .val (.int p2), .val (.int p3), .val (.int p4), .val (.int (own_a p1)), .val (.int (own_b p2)), .val (.int (own_lo p1 p2)), .val (.int (own_hi p1 p2)), .val (.int (p3 &&& (2147483647 : Int32))), .val (.ref b15), .val (.long ((p4.toInt64) - ((own_lo p1 p2).toInt64))), .second, .val (.long (((own_hi p1 p2).toInt64) - (p4.toInt64))), .second, .val (.int (own_ex p1 p2 p4))] [])) _
            refine XS.iload X43.here hx rfl (hb hby at_148) rfl ?_
            show Steps p.tables e below (T43.setTop (mkF m 150 #[.val (.int p1), .val (.int p2), .val (.int p3), .val (.int p4), .val (.int (own_a p1)), .val (.int (own_b p2)), .val (.int (own_lo p1 p2)), .val (.int (own_hi p1 p2)), .val (.int (p3 &&& (2147483647 : Int32))), .val (.ref b15), .val (.long ((p4.toInt64) - ((own_lo p1 p2).toInt64))), .second, .val (.long (((own_hi p1 p2).toInt64) - (p4.toInt64))), .second, .val (.int (own_ex p1 p2 p4))] [(.int (own_hi p1 p2))])) _
            refine X43.ldcInt hx hown (mvT hZ (hw _ (List.mem_of_getElem? (i := 0) rfl))) (g := (mkF m 150 #[.val (.int p1), .val (.int p2), .val (.int p3), .val (.int p4), .val (.int (own_a p1)), .val (.int (own_b p2)), .val (.int (own_lo p1 p2)), .val (.int (own_hi p1 p2)), .val (.int (p3 &&& (2147483647 : Int32))), .val (.ref b15), .val (.long ((p4.toInt64) - ((own_lo p1 p2).toInt64))), .second, .val (.long (((own_hi p1 p2).toInt64) - (p4.toInt64))), .second, .val (.int (own_ex p1 p2 p4))] [(.int (own_hi p1 p2))])) rfl (hb hby at_150) _ ?_
            exact k
          by_cases hc152_47 : (own_hi p1 p2) < (2147483647 : Int32)
          · have k48 : ∀ t, Steps p.tables e below (T43.setTop (mkF m 161 #[.val (.int p1), .val (.int p2), .val (.int p3), .val (.int p4), .val (.int (own_a p1)), .val (.int (own_b p2)), .val (.int (own_lo p1 p2)), .val (.int (own_hi p1 p2)), .val (.int (p3 &&& (2147483647 : Int32))), .val (.ref b15), .val (.long ((p4.toInt64) - ((own_lo p1 p2).toInt64))), .second, .val (.long (((own_hi p1 p2).toInt64) - (p4.toInt64))), .second, .val (.int (own_ex p1 p2 p4))] [(.int ((own_hi p1 p2) + (1 : Int32))), (.ref b15)])) t → Steps p.tables e below (s₁.setTop (entryFrame m #[(.int p1), (.int p2), (.int p3), (.int p4)] maxLocals)) t := by
              intro t k
              refine k46 t ?_
              show Steps p.tables e below (T43.setTop (mkF m 152 #[.val (.int p1), .val (.int p2), .val (.int p3), .val (.int p4), .val (.int (own_a p1)), .val (.int (own_b p2)), .val (.int (own_lo p1 p2)), .val (.int (own_hi p1 p2)), .val (.int (p3 &&& (2147483647 : Int32))), .val (.ref b15), .val (.long ((p4.toInt64) - ((own_lo p1 p2).toInt64))), .second, .val (.long (((own_hi p1 p2).toInt64) - (p4.toInt64))), .second, .val (.int (own_ex p1 p2 p4))] [(.int (2147483647 : Int32)), (.int (own_hi p1 p2))])) _
              refine XS.icmpNo X43.here hx rfl (hb hby at_152) rfl (tlt hc152_47).2.1 ?_
              show Steps p.tables e below (T43.setTop (mkF m 155 #[.val (.int p1), .val (.int p2), .val (.int p3), .val (.int p4), .val (.int (own_a p1)), .val (.int (own_b p2)), .val (.int (own_lo p1 p2)), .val (.int (own_hi p1 p2)), .val (.int (p3 &&& (2147483647 : Int32))), .val (.ref b15), .val (.long ((p4.toInt64) - ((own_lo p1 p2).toInt64))), .second, .val (.long (((own_hi p1 p2).toInt64) - (p4.toInt64))), .second, .val (.int (own_ex p1 p2 p4))] [])) _
              refine XS.aload X43.here hx rfl (hb hby at_155) rfl rfl ?_
              show Steps p.tables e below (T43.setTop (mkF m 157 #[.val (.int p1), .val (.int p2), .val (.int p3), .val (.int p4), .val (.int (own_a p1)), .val (.int (own_b p2)), .val (.int (own_lo p1 p2)), .val (.int (own_hi p1 p2)), .val (.int (p3 &&& (2147483647 : Int32))), .val (.ref b15), .val (.long ((p4.toInt64) - ((own_lo p1 p2).toInt64))), .second, .val (.long (((own_hi p1 p2).toInt64) - (p4.toInt64))), .second, .val (.int (own_ex p1 p2 p4))] [(.ref b15)])) _
              refine XS.iload X43.here hx rfl (hb hby at_157) rfl ?_
              show Steps p.tables e below (T43.setTop (mkF m 159 #[.val (.int p1), .val (.int p2), .val (.int p3), .val (.int p4), .val (.int (own_a p1)), .val (.int (own_b p2)), .val (.int (own_lo p1 p2)), .val (.int (own_hi p1 p2)), .val (.int (p3 &&& (2147483647 : Int32))), .val (.ref b15), .val (.long ((p4.toInt64) - ((own_lo p1 p2).toInt64))), .second, .val (.long (((own_hi p1 p2).toInt64) - (p4.toInt64))), .second, .val (.int (own_ex p1 p2 p4))] [(.int (own_hi p1 p2)), (.ref b15)])) _
              refine XS.iconst X43.here hx rfl (hb hby at_159) ?_
              show Steps p.tables e below (T43.setTop (mkF m 160 #[.val (.int p1), .val (.int p2), .val (.int p3), .val (.int p4), .val (.int (own_a p1)), .val (.int (own_b p2)), .val (.int (own_lo p1 p2)), .val (.int (own_hi p1 p2)), .val (.int (p3 &&& (2147483647 : Int32))), .val (.ref b15), .val (.long ((p4.toInt64) - ((own_lo p1 p2).toInt64))), .second, .val (.long (((own_hi p1 p2).toInt64) - (p4.toInt64))), .second, .val (.int (own_ex p1 p2 p4))] [(.int (1 : Int32)), (.int (own_hi p1 p2)), (.ref b15)])) _
              refine XS.iadd X43.here hx rfl (hb hby at_160) rfl ?_
              exact k
            obtain ⟨cq49, kq49, q49a, q49b, q49c⟩ := isOf hZ e43 Eq21
            obtain ⟨_, _, ⟨T49, L49, k49c, n49⟩, -, X49, ⟨Lc49, hQ49, l49, y49, z49⟩, st49⟩ := X43.virtualBack hx (y := (⟨"com/example/even_keel/evenkeel/coordinator/GroupConfig", "allowsSessionTimeout", "(I)Z"⟩ : MethodName)) (z := (⟨"com/example/even_keel/evenkeel/coordinator/GroupConfig", "allowsSessionTimeout", "(I)Z"⟩ : MethodName)) hown (mvT hZ (hw _ (List.mem_of_getElem? (i := 28) rfl))) (mvT hZ (hw _ (List.mem_of_getElem? (i := 29) rfl))) (notFace_of_selects (args := #[]) (mvT hZ (hw _ (List.mem_of_getElem? (i := 31) rfl)))) (mvT hZ (hw _ (List.mem_of_getElem? (i := 31) rfl))) (mvT hZ (hw _ (List.mem_of_getElem? (i := 30) rfl))) (by decide) (backOf (W := 0) (own_rmas l Z a0 hw [] b15 ((own_hi p1 p2) + (1 : Int32)) (own_lo p1 p2) (own_hi p1 p2) T21.heap n0 Z21 Fa21 Fb21) hZ (hw _ (List.mem_of_getElem? (i := 32) rfl)) (hw _ (List.mem_of_getElem? (i := 10) rfl)) (by decide) (by decide)) q49a q49c (g := (mkF m 161 #[.val (.int p1), .val (.int p2), .val (.int p3), .val (.int p4), .val (.int (own_a p1)), .val (.int (own_b p2)), .val (.int (own_lo p1 p2)), .val (.int (own_hi p1 p2)), .val (.int (p3 &&& (2147483647 : Int32))), .val (.ref b15), .val (.long ((p4.toInt64) - ((own_lo p1 p2).toInt64))), .second, .val (.long (((own_hi p1 p2).toInt64) - (p4.toInt64))), .second, .val (.int (own_ex p1 p2 p4))] [(.int ((own_hi p1 p2) + (1 : Int32))), (.ref b15)])) rfl (by rw [hml]; rfl) (Steps.refl _) (argsL := [(.int ((own_hi p1 p2) + (1 : Int32)))]) (rest := []) (lenOf own_pd3 rfl) rfl (by show 2 * 0 + _ ≤ _; exact Nat.le_of_eq rfl) (hb hby at_161) (fun _ _ => ⟨rfl, e43, (by decide : 1 + 0 ≤ _), (by decide : 3 + 0 ≤ _)⟩)
            dsimp only [Pt.U, Pt.locs, Pt.cells, Pt.slots] at X49 l49 y49 z49 st49 hQ49
            subst l49 y49 z49
            obtain ⟨rfl, N49q, e49⟩ := hQ49
            have N49 := Fr.app N43 N49q
            have k50 : ∀ t, Steps p.tables e below (T49.setTop (mkF m 164 #[.val (.int p1), .val (.int p2), .val (.int p3), .val (.int p4), .val (.int (own_a p1)), .val (.int (own_b p2)), .val (.int (own_lo p1 p2)), .val (.int (own_hi p1 p2)), .val (.int (p3 &&& (2147483647 : Int32))), .val (.ref b15), .val (.long ((p4.toInt64) - ((own_lo p1 p2).toInt64))), .second, .val (.long (((own_hi p1 p2).toInt64) - (p4.toInt64))), .second, .val (.int (own_ex p1 p2 p4))] [(.int (own_vas ((own_hi p1 p2) + (1 : Int32)) (own_lo p1 p2) (own_hi p1 p2)))])) t → Steps p.tables e below (s₁.setTop (entryFrame m #[(.int p1), (.int p2), (.int p3), (.int p4)] maxLocals)) t := fun t k => k48 t (st49.trans k)
            by_cases hc164_51 : (own_vas ((own_hi p1 p2) + (1 : Int32)) (own_lo p1 p2) (own_hi p1 p2)) = (0 : Int32)
            · have k52 : ∀ t, Steps p.tables e below (T49.setTop (mkF m 170 #[.val (.int p1), .val (.int p2), .val (.int p3), .val (.int p4), .val (.int (own_a p1)), .val (.int (own_b p2)), .val (.int (own_lo p1 p2)), .val (.int (own_hi p1 p2)), .val (.int (p3 &&& (2147483647 : Int32))), .val (.ref b15), .val (.long ((p4.toInt64) - ((own_lo p1 p2).toInt64))), .second, .val (.long (((own_hi p1 p2).toInt64) - (p4.toInt64))), .second, .val (.int (own_ex p1 p2 p4))] [(.int (1 : Int32))])) t → Steps p.tables e below (s₁.setTop (entryFrame m #[(.int p1), (.int p2), (.int p3), (.int p4)] maxLocals)) t := by
                intro t k
                refine k50 t ?_
                show Steps p.tables e below (T49.setTop (mkF m 164 #[.val (.int p1), .val (.int p2), .val (.int p3), .val (.int p4), .val (.int (own_a p1)), .val (.int (own_b p2)), .val (.int (own_lo p1 p2)), .val (.int (own_hi p1 p2)), .val (.int (p3 &&& (2147483647 : Int32))), .val (.ref b15), .val (.long ((p4.toInt64) - ((own_lo p1 p2).toInt64))), .second, .val (.long (((own_hi p1 p2).toInt64) - (p4.toInt64))), .second, .val (.int (own_ex p1 p2 p4))] [(.int (own_vas ((own_hi p1 p2) + (1 : Int32)) (own_lo p1 p2) (own_hi p1 p2)))])) _
                refine XS.ifYes X49.here hx rfl (pc0 := 164) (pc' := 169) rfl (hb hby at_164) rfl ((if0 _ _).trans (teq hc164_51).1) (by decide) (by decide) ?_
                show Steps p.tables e below (T49.setTop (mkF m 169 #[.val (.int p1), .val (.int p2), .val (.int p3), .val (.int p4), .val (.int (own_a p1)), .val (.int (own_b p2)), .val (.int (own_lo p1 p2)), .val (.int (own_hi p1 p2)), .val (.int (p3 &&& (2147483647 : Int32))), .val (.ref b15), .val (.long ((p4.toInt64) - ((own_lo p1 p2).toInt64))), .second, .val (.long (((own_hi p1 p2).toInt64) - (p4.toInt64))), .second, .val (.int (own_ex p1 p2 p4))] [])) _
                refine XS.iconst X49.here hx rfl (hb hby at_169) ?_
                exact k
              obtain ⟨fs, hr, hrun, hended, hW, hsame⟩ := X49.leave (v := (some (.int (1 : Int32)))) (fun h => by rw [Bd.returns] at h; cases h)
              refine ⟨_, _, k52 _ ?_, hrun, hended, _, _, rfl, ?_, ⟨_, rfl⟩, hW, hsame.mono (by decide) (by decide)⟩
              · exact retN X49 hx (t := .boolean) Bd.returns (by simp) (hb hby at_170) hr
              · have hv : (own_v0 p1 p2 p3 p4) = (1 : Int32) := ((if_pos hc105_31).trans ((if_neg hc117_35).trans ((if_neg hc129_40).trans ((if_pos hc143_45).trans ((if_pos hc152_47).trans (if_pos hc164_51))))))
                have h1 : (1 : Int32) = (1 : Int32) := hv.symm.trans hone
                exact ⟨congrArg (fun z => some (Value.int z)) h1, N49⟩
            · have k53 : ∀ t, Steps p.tables e below (T49.setTop (mkF m 168 #[.val (.int p1), .val (.int p2), .val (.int p3), .val (.int p4), .val (.int (own_a p1)), .val (.int (own_b p2)), .val (.int (own_lo p1 p2)), .val (.int (own_hi p1 p2)), .val (.int (p3 &&& (2147483647 : Int32))), .val (.ref b15), .val (.long ((p4.toInt64) - ((own_lo p1 p2).toInt64))), .second, .val (.long (((own_hi p1 p2).toInt64) - (p4.toInt64))), .second, .val (.int (own_ex p1 p2 p4))] [(.int (0 : Int32))])) t → Steps p.tables e below (s₁.setTop (entryFrame m #[(.int p1), (.int p2), (.int p3), (.int p4)] maxLocals)) t := by
                intro t k
                refine k50 t ?_
                show Steps p.tables e below (T49.setTop (mkF m 164 #[.val (.int p1), .val (.int p2), .val (.int p3), .val (.int p4), .val (.int (own_a p1)), .val (.int (own_b p2)), .val (.int (own_lo p1 p2)), .val (.int (own_hi p1 p2)), .val (.int (p3 &&& (2147483647 : Int32))), .val (.ref b15), .val (.long ((p4.toInt64) - ((own_lo p1 p2).toInt64))), .second, .val (.long (((own_hi p1 p2).toInt64) - (p4.toInt64))), .second, .val (.int (own_ex p1 p2 p4))] [(.int (own_vas ((own_hi p1 p2) + (1 : Int32)) (own_lo p1 p2) (own_hi p1 p2)))])) _
                refine XS.ifNo X49.here hx rfl (hb hby at_164) rfl ((if0 _ _).trans (feq hc164_51).1) ?_
                show Steps p.tables e below (T49.setTop (mkF m 167 #[.val (.int p1), .val (.int p2), .val (.int p3), .val (.int p4), .val (.int (own_a p1)), .val (.int (own_b p2)), .val (.int (own_lo p1 p2)), .val (.int (own_hi p1 p2)), .val (.int (p3 &&& (2147483647 : Int32))), .val (.ref b15), .val (.long ((p4.toInt64) - ((own_lo p1 p2).toInt64))), .second, .val (.long (((own_hi p1 p2).toInt64) - (p4.toInt64))), .second, .val (.int (own_ex p1 p2 p4))] [])) _
                refine XS.iconst X49.here hx rfl (hb hby at_167) ?_
                exact k
              obtain ⟨fs, hr, hrun, hended, hW, hsame⟩ := X49.leave (v := (some (.int (0 : Int32)))) (fun h => by rw [Bd.returns] at h; cases h)
              refine ⟨_, _, k53 _ ?_, hrun, hended, _, _, rfl, ?_, ⟨_, rfl⟩, hW, hsame.mono (by decide) (by decide)⟩
              · exact retN X49 hx (t := .boolean) Bd.returns (by simp) (hb hby at_168) hr
              · have hv : (own_v0 p1 p2 p3 p4) = (0 : Int32) := ((if_pos hc105_31).trans ((if_neg hc117_35).trans ((if_neg hc129_40).trans ((if_pos hc143_45).trans ((if_pos hc152_47).trans (if_neg hc164_51))))))
                have h1 : (0 : Int32) = (1 : Int32) := hv.symm.trans hone
                exact ⟨congrArg (fun z => some (Value.int z)) h1, N49⟩
          · have k54 : ∀ t, Steps p.tables e below (T43.setTop (mkF m 170 #[.val (.int p1), .val (.int p2), .val (.int p3), .val (.int p4), .val (.int (own_a p1)), .val (.int (own_b p2)), .val (.int (own_lo p1 p2)), .val (.int (own_hi p1 p2)), .val (.int (p3 &&& (2147483647 : Int32))), .val (.ref b15), .val (.long ((p4.toInt64) - ((own_lo p1 p2).toInt64))), .second, .val (.long (((own_hi p1 p2).toInt64) - (p4.toInt64))), .second, .val (.int (own_ex p1 p2 p4))] [(.int (1 : Int32))])) t → Steps p.tables e below (s₁.setTop (entryFrame m #[(.int p1), (.int p2), (.int p3), (.int p4)] maxLocals)) t := by
              intro t k
              refine k46 t ?_
              show Steps p.tables e below (T43.setTop (mkF m 152 #[.val (.int p1), .val (.int p2), .val (.int p3), .val (.int p4), .val (.int (own_a p1)), .val (.int (own_b p2)), .val (.int (own_lo p1 p2)), .val (.int (own_hi p1 p2)), .val (.int (p3 &&& (2147483647 : Int32))), .val (.ref b15), .val (.long ((p4.toInt64) - ((own_lo p1 p2).toInt64))), .second, .val (.long (((own_hi p1 p2).toInt64) - (p4.toInt64))), .second, .val (.int (own_ex p1 p2 p4))] [(.int (2147483647 : Int32)), (.int (own_hi p1 p2))])) _
              refine XS.icmpYes X43.here hx rfl (pc0 := 152) (pc' := 169) rfl (hb hby at_152) rfl (flt hc152_47).2.1 (by decide) (by decide) ?_
              show Steps p.tables e below (T43.setTop (mkF m 169 #[.val (.int p1), .val (.int p2), .val (.int p3), .val (.int p4), .val (.int (own_a p1)), .val (.int (own_b p2)), .val (.int (own_lo p1 p2)), .val (.int (own_hi p1 p2)), .val (.int (p3 &&& (2147483647 : Int32))), .val (.ref b15), .val (.long ((p4.toInt64) - ((own_lo p1 p2).toInt64))), .second, .val (.long (((own_hi p1 p2).toInt64) - (p4.toInt64))), .second, .val (.int (own_ex p1 p2 p4))] [])) _
              refine XS.iconst X43.here hx rfl (hb hby at_169) ?_
              exact k
            obtain ⟨fs, hr, hrun, hended, hW, hsame⟩ := X43.leave (v := (some (.int (1 : Int32)))) (fun h => by rw [Bd.returns] at h; cases h)
            refine ⟨_, _, k54 _ ?_, hrun, hended, _, _, rfl, ?_, ⟨_, rfl⟩, hW, hsame.mono (by decide) (by decide)⟩
            · exact retN X43 hx (t := .boolean) Bd.returns (by simp) (hb hby at_170) hr
            · have hv : (own_v0 p1 p2 p3 p4) = (1 : Int32) := ((if_pos hc105_31).trans ((if_neg hc117_35).trans ((if_neg hc129_40).trans ((if_pos hc143_45).trans (if_neg hc152_47)))))
              have h1 : (1 : Int32) = (1 : Int32) := hv.symm.trans hone
              exact ⟨congrArg (fun z => some (Value.int z)) h1, N43⟩
        · have k55 : ∀ t, Steps p.tables e below (T43.setTop (mkF m 147 #[.val (.int p1), .val (.int p2), .val (.int p3), .val (.int p4), .val (.int (own_a p1)), .val (.int (own_b p2)), .val (.int (own_lo p1 p2)), .val (.int (own_hi p1 p2)), .val (.int (p3 &&& (2147483647 : Int32))), .val (.ref b15), .val (.long ((p4.toInt64) - ((own_lo p1 p2).toInt64))), .second, .val (.long (((own_hi p1 p2).toInt64) - (p4.toInt64))), .second, .val (.int (own_ex p1 p2 p4))] [(.int (0 : Int32))])) t → Steps p.tables e below (s₁.setTop (entryFrame m #[(.int p1), (.int p2), (.int p3), (.int p4)] maxLocals)) t := by
            intro t k
            refine k44 t ?_
            show Steps p.tables e below (T43.setTop (mkF m 143 #[.val (.int p1), .val (.int p2), .val (.int p3), .val (.int p4), .val (.int (own_a p1)), .val (.int (own_b p2)), .val (.int (own_lo p1 p2)), .val (.int (own_hi p1 p2)), .val (.int (p3 &&& (2147483647 : Int32))), .val (.ref b15), .val (.long ((p4.toInt64) - ((own_lo p1 p2).toInt64))), .second, .val (.long (((own_hi p1 p2).toInt64) - (p4.toInt64))), .second, .val (.int (own_ex p1 p2 p4))] [(.int (own_vas ((own_lo p1 p2) - (1 : Int32)) (own_lo p1 p2) (own_hi p1 p2)))])) _
            refine XS.ifNo X43.here hx rfl (hb hby at_143) rfl ((if0 _ _).trans (feq hc143_45).1) ?_
            show Steps p.tables e below (T43.setTop (mkF m 146 #[.val (.int p1), .val (.int p2), .val (.int p3), .val (.int p4), .val (.int (own_a p1)), .val (.int (own_b p2)), .val (.int (own_lo p1 p2)), .val (.int (own_hi p1 p2)), .val (.int (p3 &&& (2147483647 : Int32))), .val (.ref b15), .val (.long ((p4.toInt64) - ((own_lo p1 p2).toInt64))), .second, .val (.long (((own_hi p1 p2).toInt64) - (p4.toInt64))), .second, .val (.int (own_ex p1 p2 p4))] [])) _
            refine XS.iconst X43.here hx rfl (hb hby at_146) ?_
            exact k
          obtain ⟨fs, hr, hrun, hended, hW, hsame⟩ := X43.leave (v := (some (.int (0 : Int32)))) (fun h => by rw [Bd.returns] at h; cases h)
          refine ⟨_, _, k55 _ ?_, hrun, hended, _, _, rfl, ?_, ⟨_, rfl⟩, hW, hsame.mono (by decide) (by decide)⟩
          · exact retN X43 hx (t := .boolean) Bd.returns (by simp) (hb hby at_147) hr
          · have hv : (own_v0 p1 p2 p3 p4) = (0 : Int32) := ((if_pos hc105_31).trans ((if_neg hc117_35).trans ((if_neg hc129_40).trans (if_neg hc143_45))))
            have h1 : (0 : Int32) = (1 : Int32) := hv.symm.trans hone
            exact ⟨congrArg (fun z => some (Value.int z)) h1, N43⟩
  · have k56 : ∀ t, Steps p.tables e below (T28.setTop (mkF m 109 #[.val (.int p1), .val (.int p2), .val (.int p3), .val (.int p4), .val (.int (own_a p1)), .val (.int (own_b p2)), .val (.int (own_lo p1 p2)), .val (.int (own_hi p1 p2)), .val (.int (p3 &&& (2147483647 : Int32))), .val (.ref b15), .val (.long ((p4.toInt64) - ((own_lo p1 p2).toInt64))), .second, .val (.long (((own_hi p1 p2).toInt64) - (p4.toInt64))), .second, .val (.int (own_ex p1 p2 p4))] [(.int (0 : Int32))])) t → Steps p.tables e below (s₁.setTop (entryFrame m #[(.int p1), (.int p2), (.int p3), (.int p4)] maxLocals)) t := by
      intro t k
      refine k30 t ?_
      show Steps p.tables e below (T28.setTop (mkF m 105 #[.val (.int p1), .val (.int p2), .val (.int p3), .val (.int p4), .val (.int (own_a p1)), .val (.int (own_b p2)), .val (.int (own_lo p1 p2)), .val (.int (own_hi p1 p2)), .val (.int (p3 &&& (2147483647 : Int32))), .val (.ref b15), .val (.long ((p4.toInt64) - ((own_lo p1 p2).toInt64))), .second, .val (.long (((own_hi p1 p2).toInt64) - (p4.toInt64))), .second, .val (.int (own_ex p1 p2 p4))] [(.int (own_ex p1 p2 p4)), (.int (own_vas p4 (own_lo p1 p2) (own_hi p1 p2)))])) _
      refine XS.icmpNo X28.here hx rfl (hb hby at_105) rfl (feq hc105_31).1 ?_
      show Steps p.tables e below (T28.setTop (mkF m 108 #[.val (.int p1), .val (.int p2), .val (.int p3), .val (.int p4), .val (.int (own_a p1)), .val (.int (own_b p2)), .val (.int (own_lo p1 p2)), .val (.int (own_hi p1 p2)), .val (.int (p3 &&& (2147483647 : Int32))), .val (.ref b15), .val (.long ((p4.toInt64) - ((own_lo p1 p2).toInt64))), .second, .val (.long (((own_hi p1 p2).toInt64) - (p4.toInt64))), .second, .val (.int (own_ex p1 p2 p4))] [])) _
      refine XS.iconst X28.here hx rfl (hb hby at_108) ?_
      exact k
    obtain ⟨fs, hr, hrun, hended, hW, hsame⟩ := X28.leave (v := (some (.int (0 : Int32)))) (fun h => by rw [Bd.returns] at h; cases h)
    refine ⟨_, _, k56 _ ?_, hrun, hended, _, _, rfl, ?_, ⟨_, rfl⟩, hW, hsame.mono (by decide) (by decide)⟩
    · exact retN X28 hx (t := .boolean) Bd.returns (by simp) (hb hby at_109) hr
    · have hv : (own_v0 p1 p2 p3 p4) = (0 : Int32) := (if_neg hc105_31)
      have h1 : (0 : Int32) = (1 : Int32) := hv.symm.trans hone
      exact ⟨congrArg (fun z => some (Value.int z)) h1, N28⟩
set_option maxRecDepth 65536 in
set_option maxHeartbeats 40000000 in
theorem comes_1 {Post : Tables → Env → Array Value → State → Outcome → State → Prop} (hpost : ∀ tb e args s v u, (limb_1_1.after args s (.returned v) u = true ∧ limb_1_2.after args s (.returned v) u = true ∧ True) → FrameEnd s (.returned v) u (Jvm.fieldLocs frame_1_writes args s ++ Jvm.arrayLocs frame_1_arrays args s ++ Jvm.staticLocs frame_1_statics s) 16 128 → Post tb e args s (.returned v) u) :
    ArmFor flags0 classFile x code maxLocals ret World_1 tables_1 room_1 Calls_1 rest_1 Pre_1 Post := by
  intro l hfl _ _ p e ha hc hk s m args below hf hA hF happ hP
  obtain ⟨hcalls, hrest, hpre⟩ := hP
  obtain ⟨-, -, -, hnamed, -, -, -, hat⟩ := (Spec.applies_iff hf).mp happ
  obtain ⟨hg, hn⟩ := and_e (Cond.before_iff.mp (show (Jvm.Cond.and given_1 narrow_1).before args s = true from hpre))
  obtain ⟨hg0, hg⟩ := and_e hg
  obtain ⟨hi0, hg⟩ := and_e hg
  obtain ⟨hi1, hg⟩ := and_e hg
  obtain ⟨hi2, hg⟩ := and_e hg
  have hi3 := hg
  obtain ⟨w0, w1, w2, w3, rfl⟩ : ∃ w0 w1 w2 w3 : Value, args = #[w0, w1, w2, w3] := by
    have hs : args.size = 4 := by simpa [Cond.value, given_1] using hg0
    obtain ⟨L⟩ := args
    match L, hs with
    | [w0, w1, w2, w3], _ => exact ⟨w0, w1, w2, w3, rfl⟩
  have hw := fun d (hd : d ∈ tables_1) => atoms_spec (ws := Jvm.Cond.code x code maxLocals ret :: tables_1) hat d (List.mem_cons_of_mem _ hd)
  obtain ⟨p1, ev0⟩ := is_v hi0
  obtain rfl : w0 = (.int p1) := Option.some.inj ev0
  obtain ⟨p2, ev1⟩ := is_v hi1
  obtain rfl : w1 = (.int p2) := Option.some.inj ev1
  obtain ⟨p3, ev2⟩ := is_v hi2
  obtain rfl : w2 = (.int p3) := Option.some.inj ev2
  obtain ⟨p4, ev3⟩ := is_v hi3
  obtain rfl : w3 = (.int p4) := Option.some.inj ev3
  obtain ⟨n, o, h1, h2, h3, _, L, rfl, ⟨rfl, N⟩, hq⟩ := own_rm0 l s _ hw tables_1 p1 p2 p3 p4  s.heap s.heap.size (Nat.le_refl _)  (own_one p1 p2 p3 p4) p e ha hc hk s m _ below hf ((Spec.applies_iff_loose hf).mp happ).1 ⟨rfl, State.Warmed39.refl s, rfl⟩ trivial
  refine ⟨n, _, h1, h2, h3, hpost _ _ _ _ _ _ ⟨Cond.after_iff.mpr rfl, Cond.after_iff.mpr (eq_i res_at (Term.int_eval (1)) rfl), trivial⟩ ⟨hq.1, hq.2.1, (hq.2.2.sift fun y hy => Or.inr (N y hy)).mono (by decide) (by decide)⟩⟩
theorem main_1_1 : Claimed_1_1 := comes_1 fun _ _ _ _ _ _ h hF => ⟨h.1, hF⟩
theorem main_1_2 : Claimed_1_2 := comes_1 fun _ _ _ _ _ _ h hF => ⟨h.2.1, hF⟩
end Jvm.Pilot.@@N@@
namespace Jvm.Pilot.@@N@@
open Jvm Jvm.ClassFile Sem Op Lib Jvm.Free Jvm.Stand Jvm.Pilot.@@N@@.Jvm.D
/-! MADE BY PROGRAM (witnessworld.py) out of the Statement's table words and the real class files: 11 classes; the members and pool entries that the words name. The judged class is class 1, her method 1. -/
namespace start1
open Jvm.ClassFile
def u (s : String) : CpInfo := .utf8 (stringToUtf16 s)
/-- a pool by its gaps: so many unusable entries, then the entry; so many at the end -/
def gap : Nat → List CpInfo → List CpInfo
  | 0, r => r
  | n + 1, r => .unusable :: gap n r
def poolList (es : List (Nat × CpInfo)) (last : Nat) : List CpInfo := es.foldr (fun e r => gap e.1 (e.2 :: r)) (gap last [])
def pool (es : List (Nat × CpInfo)) (last : Nat) : Array CpInfo := ⟨poolList es last⟩
def fileOf (pool : Array CpInfo) (this : Nat) (attrs : Array Attribute := #[]) (ms : Array MethodInfo := #[]) (fl : Nat := 33) (sup : Nat := 0) (ifs : Array Nat := #[]) (fds : Array FieldInfo := #[]) : ClassFile where
  minorVersion := 0
  majorVersion := 65
  constantPool := pool
  accessFlags := fl
  thisClass := this
  superClass := sup
  interfaces := ifs
  fields := fds
  methods := ms
  attributes := attrs
def plain (name : String) (sup : Option ClassId) : Class where
  name := name
  kind := .ordinary
  loader := none
  accessFlags := 33
  super := sup
  interfaces := #[]
  cf := none
  fields := #[]
  methods := #[]
  instanceTypes := #[]
  staticTypes := #[]
  resolved := #[]
  callSites := []
  init := .initialized
  statics := none
  mirror := none

def pool0 : Array CpInfo := pool [(5, u "<init>"), (0, u "()V"), (1, .class_ 10), (1, u "java/lang/Object")] 113

def k0c0 : Code := { maxStack := 0, maxLocals := 1, code := object_method_1_code, exceptionTable := #[], attributes := #[] }
def k0m0 : Method := { name := "<init>", desc := "()V", sig := { parameters := [], returnType := none }, accessFlags := 1, code := some k0c0 }
/-- java/lang/Object -/
def k0 : Class := { plain "java/lang/Object" none with
  accessFlags := 33
  interfaces := #[]
  cf := some (fileOf pool0 8 #[] #[{ accessFlags := 1, nameIndex := 5, descriptorIndex := 6, attributes := #[] }] 33 0 #[] #[])
  fields := #[]
  methods := #[k0m0]
  instanceTypes := #[]
  staticTypes := #[]
  resolved := Array.replicate 124 none
  statics := none }

def pool1 : Array CpInfo := pool [(2, .class_ 4), (1, u "java/lang/Object"), (0, u "<init>"), (0, u "()V"), (0, .integer 2147483647), (0, .methodref 9 10), (0, .class_ 11), (0, .nameAndType 12 13), (0, u "java/lang/Math"), (0, u "min"), (0, u "(II)I"), (0, .methodref 9 15), (0, .nameAndType 16 13), (0, u "max"), (0, .class_ 18), (0, u "com/example/even_keel/evenkeel/coordinator/GroupConfig"), (0, .methodref 17 20), (0, .nameAndType 5 21), (0, u "(III)V"), (0, .methodref 17 23), (0, .nameAndType 24 25), (0, u "allowsSessionTimeout"), (0, u "(I)Z"), (2, .class_ 29), (0, u "com/example/even_keel/evenkeel/coordinator/GroupConfigAllowsSessionTimeoutPinLaw"), (2, u "law"), (0, u "(IIII)Z")] 3

def k1m0 : Method := { name := "<init>", desc := "()V", sig := { parameters := [], returnType := none }, accessFlags := 1, code := none }
def k1c1 : Code := { maxStack := 5, maxLocals := 15, code := code, exceptionTable := #[], attributes := #[] }
def k1m1 : Method := { name := "law", desc := "(IIII)Z", sig := { parameters := [.int, .int, .int, .int], returnType := some .boolean }, accessFlags := 9, code := some k1c1 }
/-- com/example/even_keel/evenkeel/coordinator/GroupConfigAllowsSessionTimeoutPinLaw -/
def k1 : Class := { plain "com/example/even_keel/evenkeel/coordinator/GroupConfigAllowsSessionTimeoutPinLaw" (some 0) with
  accessFlags := 49
  interfaces := #[]
  cf := some (fileOf pool1 28 #[] #[{ accessFlags := 1, nameIndex := 5, descriptorIndex := 6, attributes := #[] }, { accessFlags := 9, nameIndex := 32, descriptorIndex := 33, attributes := #[] }] 49 2 #[] #[])
  fields := #[]
  methods := #[k1m0, k1m1]
  instanceTypes := #[]
  staticTypes := #[]
  resolved := Array.replicate 37 none
  statics := none }

def pool2 : Array CpInfo := pool [(1, .class_ 2), (0, u "java/lang/Math"), (1, .class_ 6), (1, u "java/lang/Object"), (0, u "<init>"), (0, u "()V"), (89, .class_ 100), (1, u "java/lang/Math$RandomNumberGeneratorHolder"), (71, u "negativeZeroFloatBits"), (0, u "J"), (2, u "negativeZeroDoubleBits"), (21, u "max"), (2, u "min"), (43, u "$assertionsDisabled"), (0, u "Z"), (88, u "(II)I"), (2, u "twoToTheDoubleScaleDown"), (0, u "D"), (4, u "twoToTheDoubleScaleUp"), (9, u "E"), (3, u "PI"), (2, u "TAU"), (2, u "DEGREES_TO_RADIANS"), (0, u "RADIANS_TO_DEGREES")] 94

def k2m0 : Method := { name := "<init>", desc := "()V", sig := { parameters := [], returnType := none }, accessFlags := 2, code := none }
def k2c1 : Code := { maxStack := 2, maxLocals := 2, code := jdk_29_method_65_code, exceptionTable := #[], attributes := #[] }
def k2m1 : Method := { name := "max", desc := "(II)I", sig := { parameters := [.int, .int], returnType := some .int }, accessFlags := 9, code := some k2c1 }
def k2c2 : Code := { maxStack := 2, maxLocals := 2, code := jdk_29_method_69_code, exceptionTable := #[], attributes := #[] }
def k2m2 : Method := { name := "min", desc := "(II)I", sig := { parameters := [.int, .int], returnType := some .int }, accessFlags := 9, code := some k2c2 }
/-- java/lang/Math -/
def k2 : Class := { plain "java/lang/Math" (some 0) with
  accessFlags := 49
  interfaces := #[]
  cf := some (fileOf pool2 1 #[.nestMembers #[98]] #[{ accessFlags := 2, nameIndex := 7, descriptorIndex := 8, attributes := #[] }, { accessFlags := 9, nameIndex := 198, descriptorIndex := 335, attributes := #[] }, { accessFlags := 9, nameIndex := 201, descriptorIndex := 335, attributes := #[] }] 49 4 #[] #[{ accessFlags := 25, nameIndex := 354, descriptorIndex := 339, attributes := #[] }, { accessFlags := 25, nameIndex := 358, descriptorIndex := 339, attributes := #[] }, { accessFlags := 25, nameIndex := 361, descriptorIndex := 339, attributes := #[] }, { accessFlags := 26, nameIndex := 364, descriptorIndex := 339, attributes := #[] }, { accessFlags := 26, nameIndex := 365, descriptorIndex := 339, attributes := #[] }, { accessFlags := 26, nameIndex := 172, descriptorIndex := 173, attributes := #[] }, { accessFlags := 26, nameIndex := 176, descriptorIndex := 173, attributes := #[] }, { accessFlags := 8, nameIndex := 344, descriptorIndex := 339, attributes := #[] }, { accessFlags := 8, nameIndex := 338, descriptorIndex := 339, attributes := #[] }, { accessFlags := 4120, nameIndex := 245, descriptorIndex := 246, attributes := #[] }])
  fields := #[{ name := "E", type := .double, accessFlags := 25, slot := 0, constantValue := 0 }, { name := "PI", type := .double, accessFlags := 25, slot := 1, constantValue := 0 }, { name := "TAU", type := .double, accessFlags := 25, slot := 2, constantValue := 0 }, { name := "DEGREES_TO_RADIANS", type := .double, accessFlags := 26, slot := 3, constantValue := 0 }, { name := "RADIANS_TO_DEGREES", type := .double, accessFlags := 26, slot := 4, constantValue := 0 }, { name := "negativeZeroFloatBits", type := .long, accessFlags := 26, slot := 5, constantValue := 0 }, { name := "negativeZeroDoubleBits", type := .long, accessFlags := 26, slot := 6, constantValue := 0 }, { name := "twoToTheDoubleScaleUp", type := .double, accessFlags := 8, slot := 7, constantValue := 0 }, { name := "twoToTheDoubleScaleDown", type := .double, accessFlags := 8, slot := 8, constantValue := 0 }, { name := "$assertionsDisabled", type := .boolean, accessFlags := 4120, slot := 9, constantValue := 0 }]
  methods := #[k2m0, k2m1, k2m2]
  instanceTypes := #[]
  staticTypes := #[.double, .double, .double, .double, .double, .long, .long, .double, .double, .boolean]
  resolved := Array.replicate 460 none
  statics := none }

def pool3 : Array CpInfo := pool [(1, .methodref 2 3), (0, .class_ 4), (0, .nameAndType 5 6), (0, u "java/lang/Object"), (0, u "<init>"), (0, u "()V"), (0, .class_ 8), (0, u "java/lang/Record")] 13

def k3c0 : Code := { maxStack := 1, maxLocals := 1, code := jdk_30_method_1_code, exceptionTable := #[], attributes := #[] }
def k3m0 : Method := { name := "<init>", desc := "()V", sig := { parameters := [], returnType := none }, accessFlags := 4, code := some k3c0 }
/-- java/lang/Record -/
def k3 : Class := { plain "java/lang/Record" (some 0) with
  accessFlags := 1057
  interfaces := #[]
  cf := some (fileOf pool3 7 #[] #[{ accessFlags := 4, nameIndex := 5, descriptorIndex := 6, attributes := #[] }] 1057 2 #[] #[])
  fields := #[]
  methods := #[k3m0]
  instanceTypes := #[]
  staticTypes := #[]
  resolved := Array.replicate 22 none
  statics := none }

def pool4 : Array CpInfo := pool [(1, .methodref 2 3), (0, .class_ 4), (0, .nameAndType 5 6), (0, u "java/lang/Record"), (0, u "<init>"), (0, u "()V"), (12, .fieldref 20 21), (0, .class_ 22), (0, .nameAndType 23 24), (0, u "com/example/even_keel/evenkeel/coordinator/GroupConfig"), (0, u "minSessionTimeoutMs"), (0, u "I"), (0, .fieldref 20 26), (0, .nameAndType 27 24), (0, u "maxSessionTimeoutMs"), (0, .fieldref 20 29), (0, .nameAndType 30 24), (0, u "initialRebalanceDelayMs"), (15, u "(III)V"), (2, u "DEFAULTS"), (0, u "Lcom/example/even_keel/evenkeel/coordinator/GroupConfig;"), (4, u "allowsSessionTimeout"), (0, u "(I)Z")] 36

def k4c0 : Code := { maxStack := 4, maxLocals := 4, code := prog_7_method_1_code, exceptionTable := #[], attributes := #[] }
def k4m0 : Method := { name := "<init>", desc := "(III)V", sig := { parameters := [.int, .int, .int], returnType := none }, accessFlags := 1, code := some k4c0 }
def k4c1 : Code := { maxStack := 2, maxLocals := 2, code := prog_7_method_2_code, exceptionTable := #[], attributes := #[] }
def k4m1 : Method := { name := "allowsSessionTimeout", desc := "(I)Z", sig := { parameters := [.int], returnType := some .boolean }, accessFlags := 1, code := some k4c1 }
/-- com/example/even_keel/evenkeel/coordinator/GroupConfig -/
def k4 : Class := { plain "com/example/even_keel/evenkeel/coordinator/GroupConfig" (some 3) with
  accessFlags := 49
  interfaces := #[]
  cf := some (fileOf pool4 20 #[] #[{ accessFlags := 1, nameIndex := 5, descriptorIndex := 46, attributes := #[] }, { accessFlags := 1, nameIndex := 55, descriptorIndex := 56, attributes := #[] }] 49 2 #[] #[{ accessFlags := 18, nameIndex := 23, descriptorIndex := 24, attributes := #[] }, { accessFlags := 18, nameIndex := 27, descriptorIndex := 24, attributes := #[] }, { accessFlags := 18, nameIndex := 30, descriptorIndex := 24, attributes := #[] }, { accessFlags := 25, nameIndex := 49, descriptorIndex := 50, attributes := #[] }])
  fields := #[{ name := "minSessionTimeoutMs", type := .int, accessFlags := 18, slot := 0, constantValue := 0 }, { name := "maxSessionTimeoutMs", type := .int, accessFlags := 18, slot := 1, constantValue := 0 }, { name := "initialRebalanceDelayMs", type := .int, accessFlags := 18, slot := 2, constantValue := 0 }, { name := "DEFAULTS", type := (.object "com/example/even_keel/evenkeel/coordinator/GroupConfig"), accessFlags := 25, slot := 0, constantValue := 0 }]
  methods := #[k4m0, k4m1]
  instanceTypes := #[.int, .int, .int]
  staticTypes := #[(.object "com/example/even_keel/evenkeel/coordinator/GroupConfig")]
  resolved := Array.replicate 93 none
  statics := none }

def pool5 : Array CpInfo := pool [(1, u "java/lang/Cloneable"), (0, .class_ 1), (0, u "java/lang/Object"), (0, .class_ 3)] 3

/-- java/lang/Cloneable -/
def k5 : Class := { plain "java/lang/Cloneable" (some 0) with
  accessFlags := 1537
  interfaces := #[]
  cf := some (fileOf pool5 2 #[] #[] 1537 4 #[] #[])
  fields := #[]
  methods := #[]
  instanceTypes := #[]
  staticTypes := #[]
  resolved := Array.replicate 8 none
  statics := none }

def pool6 : Array CpInfo := pool [(1, u "java/io/Serializable"), (0, .class_ 1), (0, u "java/lang/Object"), (0, .class_ 3)] 3

/-- java/io/Serializable -/
def k6 : Class := { plain "java/io/Serializable" (some 0) with
  accessFlags := 1537
  interfaces := #[]
  cf := some (fileOf pool6 2 #[] #[] 1537 4 #[] #[])
  fields := #[]
  methods := #[]
  instanceTypes := #[]
  staticTypes := #[]
  resolved := Array.replicate 8 none
  statics := none }

/-- the primitive byte -/
def k7 : Class := { plain "byte" none with kind := .primitive 'B', accessFlags := 0x411 }
/-- [B -/
def k8 : Class := { plain "[B" (some 0) with kind := .array 7 .byte, interfaces := #[5, 6], accessFlags := 1041 }

/-- the primitive int -/
def k9 : Class := { plain "int" none with kind := .primitive 'I', accessFlags := 0x411 }
/-- [I -/
def k10 : Class := { plain "[I" (some 0) with kind := .array 9 .int, interfaces := #[5, 6], accessFlags := 1041 }

def heap : Heap := #[]
def classes : Array Class := #[k0, k1, k2, k3, k4, k5, k6, k7, k8, k9, k10]
def interned : List (Array UInt16 × Addr) := []
def slotsUsed : Nat := 0
def theMethod : MethodId := ⟨1, 1⟩
def args0 : Array Value := #[.int 5, .int 300, .int 7, .int 3]
def aboutOver (below : List Frame) : State where
  vm := { classes := classes, interned := interned.toArray }
  heap := heap
  slotsUsed := slotsUsed
  threads := #[{ frames := .invoking theMethod args0 :: below }]
def below0 : List Frame := [.native { method := ⟨0, 0⟩, args := #[] }]
def about1 : State := aboutOver below0
def p0 : Program := .bare "" "" ""
def e0 : Env := launch0.env 0 0 0
theorem w_frames : about1.frames = Frame.invoking theMethod args0 :: below0 := rfl
set_option maxRecDepth 65536 in
theorem w_args : argsFit about1.vm theMethod args0 = true := by decide +kernel
set_option maxRecDepth 65536 in
theorem w_heap : heapFits about1 = true := by decide +kernel
set_option maxRecDepth 65536 in
theorem w_runnable : about1.curStatus? = some .runnable := by decide +kernel
set_option maxRecDepth 65536 in
theorem w_alone : about1.alone = true := by decide +kernel
set_option maxRecDepth 65536 in
theorem w_named : about1.methodNamed? x = some theMethod := by decide +kernel
set_option maxRecDepth 65536 in
theorem w_hears : about1.hears theMethod below0 = true := by decide +kernel
set_option maxRecDepth 65536 in
theorem w_ripe : about1.ripe theMethod args0 below0 = true := by decide +kernel
theorem w_running : about1.status = .running := rfl
set_option maxRecDepth 65536 in
theorem w_room : about1.hasRoom e0.platform room_1 = true :=
  launch0.hasRoom_least _ room_1 (by decide +kernel) (by decide +kernel) (by decide +kernel) (by decide +kernel) (by decide +kernel) (by decide +kernel)
theorem allAtoms_all (ts : List Jvm.Cond) (a : Array Jvm.Value) (st : Jvm.State) : (allAtoms ts).before a st = ts.all (fun c => c.before a st) := by
  induction ts with
  | nil => rfl
  | cons c t ih =>
    show (Jvm.Cond.and c (allAtoms t)).before a st = _
    rw [Jvm.Cond.before_and, ih, List.all_cons]
def words1 : List Jvm.Cond := Jvm.Cond.code x code maxLocals ret :: tables_1
/-- a 'code' word, met by the world's own term for the bytes: nothing is compared byte by byte -/
theorem code_word {y : MethodName} {bytes : ByteArray} {mx : Nat} {rt : Option FieldType} {a : Array Value} {s : State} {m : MethodId} {meth : Method} {c : Code} (h1 : s.methodNamed? y = some m) (h2 : s.vm.method? m = some meth) (h3 : meth.code = some c) (h4 : c.code = bytes)
    (h5 : (c.maxLocals == mx && c.exceptionTable.isEmpty && decide (c.maxStack ≤ mostOperands) && decide (meth.sig.returnType = rt) && !meth.locks && decide (parseMethodDescriptor y.desc = some meth.sig)) = true) : (Jvm.Cond.code y bytes mx rt).before a s = true := by
  simp only [Bool.and_eq_true, beq_iff_eq, Bool.not_eq_true', decide_eq_true_eq] at h5
  obtain ⟨⟨⟨⟨⟨g1, g2⟩, g3⟩, g4⟩, g5⟩, g6⟩ := h5
  simp [Cond.before, Cond.holds, Cond.value, h1, h2, h3, h4, g1, g2, g3, g4, g5, g6]
def isCode : Jvm.Cond → Bool
  | .code _ _ _ _ => true
  | _ => false
theorem all_split {L : List Jvm.Cond} {P : Jvm.Cond → Bool} (h1 : L.all (fun c => isCode c || P c) = true) (h2 : ∀ c ∈ L.filter isCode, P c = true) : L.all P = true := by
  refine List.all_eq_true.mpr fun c hc => ?_
  have h := List.all_eq_true.mp h1 c hc
  rcases Bool.eq_false_or_eq_true (isCode c) with hi | hi
  · exact h2 c (List.mem_filter.mpr ⟨hc, hi⟩)
  · simpa [hi] using h
set_option maxRecDepth 65536 in
theorem w_c0 : (Jvm.Cond.code x code maxLocals ret).before args0 about1 = true := code_word (m := ⟨1, 1⟩) (meth := k1m1) (c := k1c1) (by decide +kernel) rfl rfl rfl (by decide +kernel)
set_option maxRecDepth 65536 in
theorem w_c1 : (Jvm.Cond.code ({ cls := "java/lang/Math", name := "min", desc := "(II)I" } : Jvm.MethodName) jdk_29_method_69_code (2 : Nat) (Option.some Jvm.ClassFile.FieldType.int)).before args0 about1 = true := code_word (m := ⟨2, 2⟩) (meth := k2m2) (c := k2c2) (by decide +kernel) rfl rfl rfl (by decide +kernel)
set_option maxRecDepth 65536 in
theorem w_c2 : (Jvm.Cond.code ({ cls := "java/lang/Math", name := "max", desc := "(II)I" } : Jvm.MethodName) jdk_29_method_65_code (2 : Nat) (Option.some Jvm.ClassFile.FieldType.int)).before args0 about1 = true := code_word (m := ⟨2, 1⟩) (meth := k2m1) (c := k2c1) (by decide +kernel) rfl rfl rfl (by decide +kernel)
set_option maxRecDepth 65536 in
theorem w_c3 : (Jvm.Cond.code ({ cls := "com/example/even_keel/evenkeel/coordinator/GroupConfig", name := "<init>", desc := "(III)V" } : Jvm.MethodName) prog_7_method_1_code (4 : Nat) (Option.none : Option Jvm.ClassFile.FieldType)).before args0 about1 = true := code_word (m := ⟨4, 0⟩) (meth := k4m0) (c := k4c0) (by decide +kernel) rfl rfl rfl (by decide +kernel)
set_option maxRecDepth 65536 in
theorem w_c4 : (Jvm.Cond.code ({ cls := "java/lang/Record", name := "<init>", desc := "()V" } : Jvm.MethodName) jdk_30_method_1_code (1 : Nat) (Option.none : Option Jvm.ClassFile.FieldType)).before args0 about1 = true := code_word (m := ⟨3, 0⟩) (meth := k3m0) (c := k3c0) (by decide +kernel) rfl rfl rfl (by decide +kernel)
set_option maxRecDepth 65536 in
theorem w_c5 : (Jvm.Cond.code ({ cls := "java/lang/Object", name := "<init>", desc := "()V" } : Jvm.MethodName) object_method_1_code (1 : Nat) (Option.none : Option Jvm.ClassFile.FieldType)).before args0 about1 = true := code_word (m := ⟨0, 0⟩) (meth := k0m0) (c := k0c0) (by decide +kernel) rfl rfl rfl (by decide +kernel)
set_option maxRecDepth 65536 in
theorem w_c6 : (Jvm.Cond.code ({ cls := "com/example/even_keel/evenkeel/coordinator/GroupConfig", name := "allowsSessionTimeout", desc := "(I)Z" } : Jvm.MethodName) prog_7_method_2_code (2 : Nat) (Option.some Jvm.ClassFile.FieldType.boolean)).before args0 about1 = true := code_word (m := ⟨4, 1⟩) (meth := k4m1) (c := k4c1) (by decide +kernel) rfl rfl rfl (by decide +kernel)
def codes1 : List Jvm.Cond := [Jvm.Cond.code x code maxLocals ret, Jvm.Cond.code ({ cls := "java/lang/Math", name := "min", desc := "(II)I" } : Jvm.MethodName) jdk_29_method_69_code (2 : Nat) (Option.some Jvm.ClassFile.FieldType.int), Jvm.Cond.code ({ cls := "java/lang/Math", name := "max", desc := "(II)I" } : Jvm.MethodName) jdk_29_method_65_code (2 : Nat) (Option.some Jvm.ClassFile.FieldType.int), Jvm.Cond.code ({ cls := "com/example/even_keel/evenkeel/coordinator/GroupConfig", name := "<init>", desc := "(III)V" } : Jvm.MethodName) prog_7_method_1_code (4 : Nat) (Option.none : Option Jvm.ClassFile.FieldType), Jvm.Cond.code ({ cls := "java/lang/Record", name := "<init>", desc := "()V" } : Jvm.MethodName) jdk_30_method_1_code (1 : Nat) (Option.none : Option Jvm.ClassFile.FieldType), Jvm.Cond.code ({ cls := "java/lang/Object", name := "<init>", desc := "()V" } : Jvm.MethodName) object_method_1_code (1 : Nat) (Option.none : Option Jvm.ClassFile.FieldType), Jvm.Cond.code ({ cls := "com/example/even_keel/evenkeel/coordinator/GroupConfig", name := "allowsSessionTimeout", desc := "(I)Z" } : Jvm.MethodName) prog_7_method_2_code (2 : Nat) (Option.some Jvm.ClassFile.FieldType.boolean)]
set_option maxRecDepth 65536 in
theorem codes_eq : words1.filter isCode = codes1 := rfl
theorem w_codes : ∀ c ∈ words1.filter isCode, c.before args0 about1 = true := by
  rw [codes_eq]
  intro c hc
  simp only [codes1, List.mem_cons, List.not_mem_nil, or_false] at hc
  rcases hc with rfl | rfl | rfl | rfl | rfl | rfl | rfl
  · exact w_c0
  · exact w_c1
  · exact w_c2
  · exact w_c3
  · exact w_c4
  · exact w_c5
  · exact w_c6
set_option maxRecDepth 65536 in
theorem w_t1 : (words1.take 24).all (fun c => isCode c || c.before args0 about1) = true := by decide +kernel
set_option maxRecDepth 65536 in
theorem w_t2 : (words1.drop 24).all (fun c => isCode c || c.before args0 about1) = true := by decide +kernel
theorem w_tables : (allAtoms (Jvm.Cond.code x code maxLocals ret :: tables_1)).before args0 about1 = true := by
  rw [allAtoms_all]
  show words1.all (fun c => c.before args0 about1) = true
  refine all_split ?_ w_codes
  rw [← List.take_append_drop 24 words1, List.all_append, w_t1, w_t2]
  rfl
set_option maxRecDepth 65536 in
theorem w_case : (Jvm.Cond.and given_1 narrow_1).before args0 about1 = true := by decide +kernel
theorem w_applies : (headSpec (Jvm.Cond.code x code maxLocals ret :: tables_1) room_1).applies x e0.platform about1 = true :=
  (Spec.applies_iff w_frames).mpr ⟨w_running, w_runnable, w_alone, w_named, w_hears, w_ripe, w_room, w_tables⟩
theorem atStart : AtStart classFile x code maxLocals ret World_1 tables_1 room_1 Calls_1 rest_1 Pre_1 launch0 p0 e0 about1 theMethod args0 below0 :=
  ⟨lists_1, trivial, launch0.admits_env _ _ _, launch0.least_env, fairChoices_fair.cas, fairChoices_fair.clock, w_frames, w_args, w_heap, w_applies, trivial, trivial, w_case⟩
end start1
theorem witness_1 : WitnessClaimed_1 := ⟨start1.p0, start1.e0, start1.about1, start1.theMethod, start1.args0, start1.below0, start1.atStart⟩
end Jvm.Pilot.@@N@@
