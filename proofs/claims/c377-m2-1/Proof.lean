import JvmDerived
import JvmDerived.Pilot.@@N@@Statement
import JvmDerived.Pilot.@@N@@Code
set_option linter.unusedVariables false
set_option linter.unusedSimpArgs false
@@BLOCK:HandJ.lean.txt@@
@@BLOCK:SymMore.lean.txt@@
namespace Jvm.RoadKit
open Sem ClassFile Op Lib Jvm.Stand Jvm.Free Jvm.LawKit
section New
variable {p : Program} {l : Launch} {e : Env} {R : Room} {s : State} {m : MethodId} {args : Array Value} {below : List Frame} {meth : Method} {c : Code} {T : State} {locs : List Loc} {cells slots : Nat}
theorem retI (X : Stand p l e R s m args below meth c T locs cells slots) (hx : p.tables.exec = Jvm.exec) {pc : Nat} {Ls : Array Slot} {z : Int32} {rest : List Value} (hret : meth.sig.returnType = some .int) (hd : decode c.code pc = .ok (.ireturn, 1)) {fs : List Frame}
    (hl : ∀ (f : JFrame) (acts : List Action), f.method = m → f.locked = none → f.entered = [] → (doReturn e (T.setTop f) acts (some (.int z))).1 = T.setFrames fs) : Steps p.tables e below (T.setTop (mkF m pc Ls (.int z :: rest))) (T.setFrames fs) := by
  have hm' : T.vm.method? m = some meth := X.method'
  have hn : narrow .int (.int z) = .int z := rfl
  show Steps p.tables e below (T.setTop { method := m, pc := pc, locals := Ls, stack := _ :: rest, locked := none }) _
  jvm_step X.here [X.here.top, hx, hd, hm', hret, hn]
  first | (intro acts; rw [hl _ acts rfl rfl rfl]) | rw [hl _ _ rfl rfl rfl]
  exact Steps.refl _
end New
end Jvm.RoadKit
namespace Jvm.Pilot.@@N@@
open Jvm Jvm.ClassFile Sem Op Lib Jvm.Free Jvm.Stand Jvm.LawKit Jvm.RoadKit Bundle Jvm.Pilot.@@N@@.Jvm.D

def own_vmn (p1 : Int32) (p2 : Int32) : Int32 :=
  if p2 < p1 then p2 else
  p1
theorem own_d9_0 : decode jdk_29_method_69_code 0 = .ok (.iload_n 0, 1) := by decide +kernel
theorem own_d9_1 : decode jdk_29_method_69_code 1 = .ok (.iload_n 1, 1) := by decide +kernel
theorem own_d9_2 : decode jdk_29_method_69_code 2 = .ok (.if_icmp .gt 7, 3) := by decide +kernel
theorem own_d9_5 : decode jdk_29_method_69_code 5 = .ok (.iload_n 0, 1) := by decide +kernel
theorem own_d9_6 : decode jdk_29_method_69_code 6 = .ok (.goto 4, 3) := by decide +kernel
theorem own_d9_9 : decode jdk_29_method_69_code 9 = .ok (.iload_n 1, 1) := by decide +kernel
theorem own_d9_10 : decode jdk_29_method_69_code 10 = .ok (.ireturn, 1) := by decide +kernel
theorem own_efmn (m : MethodId) (x0 : Int32) (x1 : Int32) : entryFrame m #[(.int x0), (.int x1)] 2 = mkF m 0 #[.val (.int x0), .val (.int x1)] [] := by first | (simp [entryFrame, mkF, argsToLocals, Value.category]; done) | rfl
def own_Qmn (Z : State) (p1 : Int32) (p2 : Int32) (h0 : Heap) (n0 : Nat) (v : Option Value) (h : Heap) (L : List Loc) : Prop := v = some (.int (own_vmn p1 p2)) ∧ Fr n0 L ∧ h = h0
set_option maxRecDepth 65536 in
set_option maxHeartbeats 40000000 in
theorem own_rmmn (l : Launch) (Z : State) (a0 : Array Value) (hw : ∀ d ∈ tables_1, d.before a0 Z = true) (ws : List Jvm.Cond) (p1 : Int32) (p2 : Int32) (h0 : Heap) (n0 : Nat) (Z0 : n0 ≤ h0.size) :
    MetFree l (⟨"java/lang/Math", "min", "(II)I"⟩ : MethodName) (head1 (Jvm.Cond.code (⟨"java/lang/Math", "min", "(II)I"⟩ : MethodName) jdk_29_method_69_code 2 (some .int) :: ws) ({ frames := 0, cells := 0, slots := 0, locals := 0 } : Room)) (fun aa U => aa = #[(.int p1), (.int p2)] ∧ Z.Warmed39 U.vm ∧ U.heap = h0) (fun _ _ _ _ _ => True) (fun _ U o U' => ∃ v L, o = .returned v ∧ own_Qmn Z p1 p2 h0 n0 v U'.heap L ∧ FrameEnd U o U' L ({ frames := 0, cells := 0, slots := 0, locals := 0 } : Room).cells ({ frames := 0, cells := 0, slots := 0, locals := 0 } : Room).slots) := by
  refine MetFree.of_bodySF (Jvm.Free.JP.mathPlain rfl (by decide +kernel)) hisR ?_
  intro p e s m args below meth c s₁ Bd hml0 hP hK
  obtain ⟨rfl, hZ, hh⟩ := hP
  have hx := Bd.exec
  have hby := Bd.bytes
  have hml : c.maxLocals = 2 := hml0
  have hown : s.vm.findClass "java/lang/Math" = some m.cls := findClass_of_methodNamed Bd.named
  have hnm := (name_of_methodNamed Bd.named Bd.method).1
  have X0 : Stand p l e ({ frames := 0, cells := 0, slots := 0, locals := 0 } : Room) s m #[(.int p1), (.int p2)] below meth c s₁ [] 0 0 := Stand.of_body Bd
  have e0 : s₁.heap = h0 := by rw [← hh, Bd.state]; rfl
  have N0 := Fr.nil n0
  have pre0 : ∀ t, Steps p.tables e below (s₁.setTop (mkF m 0 #[.val (.int p1), .val (.int p2)] [])) t → Steps p.tables e below (s₁.setTop (entryFrame m #[(.int p1), (.int p2)] 2)) t := fun t k => castTop (own_efmn m p1 p2) k
  have k1 : ∀ t, Steps p.tables e below (s₁.setTop (mkF m 2 #[.val (.int p1), .val (.int p2)] [(.int p2), (.int p1)])) t → Steps p.tables e below (s₁.setTop (entryFrame m #[(.int p1), (.int p2)] 2)) t := by
    intro t k
    refine pre0 t ?_
    show Steps p.tables e below (s₁.setTop (mkF m 0 #[.val (.int p1), .val (.int p2)] [])) _
    refine XS.iloadN X0.here hx rfl (hb hby own_d9_0) rfl ?_
    show Steps p.tables e below (s₁.setTop (mkF m 1 #[.val (.int p1), .val (.int p2)] [(.int p1)])) _
    refine XS.iloadN X0.here hx rfl (hb hby own_d9_1) rfl ?_
    exact k
  by_cases hc2_2 : p2 < p1
  · have k3 : ∀ t, Steps p.tables e below (s₁.setTop (mkF m 10 #[.val (.int p1), .val (.int p2)] [(.int p2)])) t → Steps p.tables e below (s₁.setTop (entryFrame m #[(.int p1), (.int p2)] 2)) t := by
      intro t k
      refine k1 t ?_
      show Steps p.tables e below (s₁.setTop (mkF m 2 #[.val (.int p1), .val (.int p2)] [(.int p2), (.int p1)])) _
      refine XS.icmpYes X0.here hx rfl (pc0 := 2) (pc' := 9) rfl (hb hby own_d9_2) rfl (tlt hc2_2).2.2.1 (by decide) (by decide) ?_
      show Steps p.tables e below (s₁.setTop (mkF m 9 #[.val (.int p1), .val (.int p2)] [])) _
      refine XS.iloadN X0.here hx rfl (hb hby own_d9_9) rfl ?_
      exact k
    obtain ⟨fs, hr, hrun, hended, hW, hsame⟩ := X0.leave (v := (some (.int p2))) (fun h => by rw [Bd.returns] at h; cases h)
    refine ⟨_, _, k3 _ ?_, hrun, hended, _, _, rfl, ?_, ⟨_, rfl⟩, hW, hsame.mono (by decide) (by decide)⟩
    · exact retI X0 hx Bd.returns (hb hby own_d9_10) hr
    · have hv : (own_vmn p1 p2) = p2 := (if_pos hc2_2)
      exact ⟨congrArg (fun z => some (Value.int z)) hv.symm, N0, e0⟩
  · have k4 : ∀ t, Steps p.tables e below (s₁.setTop (mkF m 10 #[.val (.int p1), .val (.int p2)] [(.int p1)])) t → Steps p.tables e below (s₁.setTop (entryFrame m #[(.int p1), (.int p2)] 2)) t := by
      intro t k
      refine k1 t ?_
      show Steps p.tables e below (s₁.setTop (mkF m 2 #[.val (.int p1), .val (.int p2)] [(.int p2), (.int p1)])) _
      refine XS.icmpNo X0.here hx rfl (hb hby own_d9_2) rfl (flt hc2_2).2.2.1 ?_
      show Steps p.tables e below (s₁.setTop (mkF m 5 #[.val (.int p1), .val (.int p2)] [])) _
      refine XS.iloadN X0.here hx rfl (hb hby own_d9_5) rfl ?_
      show Steps p.tables e below (s₁.setTop (mkF m 6 #[.val (.int p1), .val (.int p2)] [(.int p1)])) _
      refine XS.goto X0.here hx rfl (pc0 := 6) (pc' := 10) rfl (hb hby own_d9_6) (by decide) (by decide) ?_
      exact k
    obtain ⟨fs, hr, hrun, hended, hW, hsame⟩ := X0.leave (v := (some (.int p1))) (fun h => by rw [Bd.returns] at h; cases h)
    refine ⟨_, _, k4 _ ?_, hrun, hended, _, _, rfl, ?_, ⟨_, rfl⟩, hW, hsame.mono (by decide) (by decide)⟩
    · exact retI X0 hx Bd.returns (hb hby own_d9_10) hr
    · have hv : (own_vmn p1 p2) = p1 := (if_neg hc2_2)
      exact ⟨congrArg (fun z => some (Value.int z)) hv.symm, N0, e0⟩
theorem own_d1_0 : decode prog_9_method_1_code 0 = .ok (.aload_n 0, 1) := by decide +kernel
theorem own_d1_1 : decode prog_9_method_1_code 1 = .ok (.invokespecial 1, 3) := by decide +kernel
theorem own_d1_4 : decode prog_9_method_1_code 4 = .ok (.aload_n 0, 1) := by decide +kernel
theorem own_d1_5 : decode prog_9_method_1_code 5 = .ok (.bipush 64, 2) := by decide +kernel
theorem own_d1_7 : decode prog_9_method_1_code 7 = .ok (.newarray .byte, 2) := by decide +kernel
theorem own_d1_9 : decode prog_9_method_1_code 9 = .ok (.putfield 7, 3) := by decide +kernel
theorem own_d1_12 : decode prog_9_method_1_code 12 = .ok (.return_, 1) := by decide +kernel
theorem own_pn0 : plainName "com/example/reckoner/reckoner/Bytes" = true := by first | (simp [plainName, overriddenIn]; done) | decide +kernel
theorem own_efin (m : MethodId) (x0 : Addr) : entryFrame m #[(.ref x0)] 1 = mkF m 0 #[.val (.ref x0)] [] := by first | (simp [entryFrame, mkF, argsToLocals, Value.category]; done) | rfl
def own_Qin (Z : State) (a : Addr) (u1 : Value) (h0 : Heap) (n0 : Nat) (v : Option Value) (h : Heap) (L : List Loc) : Prop := ∃ arr cc, v = none ∧ Fr n0 L ∧ Keep h0 h [a] ∧ Exa Z h a "com/example/reckoner/reckoner/Bytes" ∧ Fld Z h a "com/example/reckoner/reckoner/Bytes" "bytes" "[B" (.ref arr) ∧ Fld Z h a "com/example/reckoner/reckoner/Bytes" "length" "I" (.int (0 : Int32)) ∧ Arv Z h arr cc .byte (64 : Int32) [(.int (0 : Int32)), (.int (0 : Int32)), (.int (0 : Int32)), (.int (0 : Int32)), (.int (0 : Int32)), (.int (0 : Int32)), (.int (0 : Int32)), (.int (0 : Int32))] (.int (0 : Int32)) ∧ n0 ≤ arr ∧ a ≠ arr
set_option maxRecDepth 65536 in
set_option maxHeartbeats 40000000 in
theorem own_rmin (l : Launch) (Z : State) (a0 : Array Value) (hw : ∀ d ∈ tables_1, d.before a0 Z = true) (ws : List Jvm.Cond) (a : Addr) (u1 : Value) (h0 : Heap) (n0 : Nat) (Z0 : n0 ≤ h0.size) (Ea : Exa Z h0 a "com/example/reckoner/reckoner/Bytes") (F1 : Fld Z h0 a "com/example/reckoner/reckoner/Bytes" "bytes" "[B" u1) (F2 : Fld Z h0 a "com/example/reckoner/reckoner/Bytes" "length" "I" (.int (0 : Int32))) (ga : n0 ≤ a) :
    MetFree l (⟨"com/example/reckoner/reckoner/Bytes", "<init>", "()V"⟩ : MethodName) (head1 (Jvm.Cond.code (⟨"com/example/reckoner/reckoner/Bytes", "<init>", "()V"⟩ : MethodName) prog_9_method_1_code 1 none :: ws) ({ frames := 1, cells := 1, slots := 64, locals := 12 } : Room)) (fun aa U => aa = #[(.ref a)] ∧ Z.Warmed39 U.vm ∧ U.heap = h0) (fun _ _ _ _ _ => True) (fun _ U o U' => ∃ v L, o = .returned v ∧ own_Qin Z a u1 h0 n0 v U'.heap L ∧ FrameEnd U o U' L ({ frames := 1, cells := 1, slots := 64, locals := 12 } : Room).cells ({ frames := 1, cells := 1, slots := 64, locals := 12 } : Room).slots) := by
  refine MetFree.of_bodySF (plainFor_of_name own_pn0) hisR ?_
  intro p e s m args below meth c s₁ Bd hml0 hP hK
  obtain ⟨rfl, hZ, hh⟩ := hP
  have hx := Bd.exec
  have hby := Bd.bytes
  have hml : c.maxLocals = 1 := hml0
  have hown : s.vm.findClass "com/example/reckoner/reckoner/Bytes" = some m.cls := findClass_of_methodNamed Bd.named
  have hnm := (name_of_methodNamed Bd.named Bd.method).1
  have X0 : Stand p l e ({ frames := 1, cells := 1, slots := 64, locals := 12 } : Room) s m #[(.ref a)] below meth c s₁ [] 0 0 := Stand.of_body Bd
  have e0 : s₁.heap = h0 := by rw [← hh, Bd.state]; rfl
  have N0 := Fr.nil n0
  have pre0 : ∀ t, Steps p.tables e below (s₁.setTop (mkF m 0 #[.val (.ref a)] [])) t → Steps p.tables e below (s₁.setTop (entryFrame m #[(.ref a)] 1)) t := fun t k => castTop (own_efin m a) k
  have k1 : ∀ t, Steps p.tables e below (s₁.setTop (mkF m 1 #[.val (.ref a)] [(.ref a)])) t → Steps p.tables e below (s₁.setTop (entryFrame m #[(.ref a)] 1)) t := by
    intro t k
    refine pre0 t ?_
    show Steps p.tables e below (s₁.setTop (mkF m 0 #[.val (.ref a)] [])) _
    refine XS.aloadN X0.here hx rfl (hb hby own_d1_0) rfl rfl ?_
    exact k
  obtain ⟨T2, X2, e2, st2⟩ := initO X0 hx hZ hown (hw _ (List.mem_of_getElem? (i := 6) rfl)) (hw _ (List.mem_of_getElem? (i := 7) rfl)) (hw _ (List.mem_of_getElem? (i := 8) rfl)) e0 (g := (mkF m 1 #[.val (.ref a)] [(.ref a)])) rfl (by rw [hml]; rfl) rfl (hb hby own_d1_1) (by decide) (W := 0) (by show 2 * 0 + _ ≤ _; exact Nat.le_of_eq rfl) (by decide)
  have k3 : ∀ t, Steps p.tables e below (T2.setTop (mkF m 4 #[.val (.ref a)] [])) t → Steps p.tables e below (s₁.setTop (entryFrame m #[(.ref a)] 1)) t := fun t k => k1 t (st2 t k)
  have k4 : ∀ t, Steps p.tables e below (T2.setTop (mkF m 7 #[.val (.ref a)] [(.int (64 : Int32)), (.ref a)])) t → Steps p.tables e below (s₁.setTop (entryFrame m #[(.ref a)] 1)) t := by
    intro t k
    refine k3 t ?_
    show Steps p.tables e below (T2.setTop (mkF m 4 #[.val (.ref a)] [])) _
    refine XS.aloadN X2.here hx rfl (hb hby own_d1_4) rfl rfl ?_
    show Steps p.tables e below (T2.setTop (mkF m 5 #[.val (.ref a)] [(.ref a)])) _
    refine XS.bipush X2.here hx rfl (hb hby own_d1_5) ?_
    exact k
  obtain ⟨T5, h5, c5, X5, e5, E5, A5, st5⟩ := newP X2 hx hZ (hw _ (List.mem_of_getElem? (i := 9) rfl)) e2 (g := (mkF m 7 #[.val (.ref a)] [(.int (64 : Int32)), (.ref a)])) rfl (hb hby own_d1_7) rfl (by decide) (cap := 64) (by decide) (by decide) (by decide) (by decide)
  obtain ⟨b5, g5⟩ : ∃ z, z = h0.size := ⟨_, rfl⟩
  rw [← g5] at A5 st5
  have ge5 : n0 ≤ b5 := Nat.le_trans Z0 (Nat.le_of_eq g5.symm)
  have bo5 : h0.size ≤ b5 := Nat.le_trans (Keep.refl h0 [a]).1 (Nat.le_of_eq g5.symm)
  have ne6 : a ≠ b5 := Nat.ne_of_lt (Nat.lt_of_lt_of_le Ea.lt (Nat.le_of_eq g5.symm))
  have Z5 : n0 ≤ h5.size := Nat.le_trans Z0 E5.1
  have K5 : Keep h0 h5 [a] := (Keep.refl h0 [a]).ext E5
  have f7 := Ea.ext E5
  have f8 := F1.ext E5
  have f9 := F2.ext E5
  have V5 : Arv Z h5 b5 c5 .byte (64 : Int32) [(.int (0 : Int32)), (.int (0 : Int32)), (.int (0 : Int32)), (.int (0 : Int32)), (.int (0 : Int32)), (.int (0 : Int32)), (.int (0 : Int32)), (.int (0 : Int32))] (.int (0 : Int32)) := (Arv.new A5 (by decide)).pad (pad_rep [] (.int (0 : Int32)) 8)
  have k10 : ∀ t, Steps p.tables e below (T5.setTop (mkF m 9 #[.val (.ref a)] [(.ref b5), (.ref a)])) t → Steps p.tables e below (s₁.setTop (entryFrame m #[(.ref a)] 1)) t := fun t k => k4 t (st5 t k)
  obtain ⟨T11, h11, X11, e11, W11, st11⟩ := putF X5 hx hZ hown (host := "") (Or.inl (hw _ (List.mem_of_getElem? (i := 10) rfl))) Via.refl e5 f8 f7 (Or.inl (hw _ (List.mem_of_getElem? (i := 11) rfl))) (hw _ (List.mem_of_getElem? (i := 1) rfl)) (ty := (.array .byte)) (by decide) rfl rfl (g := (mkF m 9 #[.val (.ref a)] [(.ref b5), (.ref a)])) rfl rfl (hb hby own_d1_9)
  have f12 := f7.wr W11
  have f13 := f9.other W11 (Or.inr (slot_ne (Or.inl (hw _ (List.mem_of_getElem? (i := 27) rfl))) (Or.inl (hw _ (List.mem_of_getElem? (i := 11) rfl))) (by decide) (t := .int) (t' := (.array .byte)) (by decide) (by decide)))
  have f14 := V5.other W11 (Ne.symm ne6)
  have f15 := f8.same W11
  have N11 := Fr.snoc X11 N0 ga
  have K11 : Keep h0 h11 [a] := K5.wr W11 (Or.inl (List.mem_of_getElem? (i := 0) rfl))
  have Z11 : n0 ≤ h11.size := Nat.le_trans Z5 (Keep.of_wr W11).1
  have k16 : ∀ t, Steps p.tables e below (T11.setTop (mkF m 12 #[.val (.ref a)] [])) t → Steps p.tables e below (s₁.setTop (entryFrame m #[(.ref a)] 1)) t := fun t k => k10 t (st11 t k)
  obtain ⟨fs, hr, hrun, hended, hW, hsame⟩ := X11.leave (v := none) (fun _ => rfl)
  refine ⟨_, _, k16 _ ?_, hrun, hended, _, _, rfl, ?_, ⟨_, rfl⟩, hW, hsame.mono (by decide) (by decide)⟩
  · exact X11.returnOut hx Bd.returns (hb hby own_d1_12) hr
  · show own_Qin Z a u1 h0 n0 _ T11.heap _
    rw [e11]
    exact ⟨b5, c5, rfl, N11, K11, f12, f15, f13, f14, ge5, ne6⟩
theorem own_d5_0 : decode prog_9_method_11_code 0 = .ok (.aload_n 0, 1) := by decide +kernel
theorem own_d5_1 : decode prog_9_method_11_code 1 = .ok (.getfield 13, 3) := by decide +kernel
theorem own_d5_4 : decode prog_9_method_11_code 4 = .ok (.iload_n 1, 1) := by decide +kernel
theorem own_d5_5 : decode prog_9_method_11_code 5 = .ok (.iadd, 1) := by decide +kernel
theorem own_d5_6 : decode prog_9_method_11_code 6 = .ok (.aload_n 0, 1) := by decide +kernel
theorem own_d5_7 : decode prog_9_method_11_code 7 = .ok (.getfield 7, 3) := by decide +kernel
theorem own_d5_10 : decode prog_9_method_11_code 10 = .ok (.arraylength, 1) := by decide +kernel
theorem own_d5_11 : decode prog_9_method_11_code 11 = .ok (.if_icmp .le 30, 3) := by decide +kernel
theorem own_d5_41 : decode prog_9_method_11_code 41 = .ok (.return_, 1) := by decide +kernel
theorem own_efrs (m : MethodId) (x0 : Addr) (x1 : Int32) : entryFrame m #[(.ref x0), (.int x1)] 2 = mkF m 0 #[.val (.ref x0), .val (.int x1)] [] := by first | (simp [entryFrame, mkF, argsToLocals, Value.category]; done) | rfl
def own_Qrs (Z : State) (a : Addr) (p1 : Int32) (w1 : Int32) (arr : Addr) (cc : ClassId) (v0 : Int32) (v1 : Int32) (v2 : Int32) (v3 : Int32) (v4 : Int32) (v5 : Int32) (v6 : Int32) (v7 : Int32) (h0 : Heap) (n0 : Nat) (v : Option Value) (h : Heap) (L : List Loc) : Prop := v = none ∧ Fr n0 L ∧ h = h0
set_option maxRecDepth 65536 in
set_option maxHeartbeats 40000000 in
theorem own_rmrs (l : Launch) (Z : State) (a0 : Array Value) (hw : ∀ d ∈ tables_1, d.before a0 Z = true) (ws : List Jvm.Cond) (a : Addr) (p1 : Int32) (w1 : Int32) (arr : Addr) (cc : ClassId) (v0 : Int32) (v1 : Int32) (v2 : Int32) (v3 : Int32) (v4 : Int32) (v5 : Int32) (v6 : Int32) (v7 : Int32) (h0 : Heap) (n0 : Nat) (Z0 : n0 ≤ h0.size) (F1 : Fld Z h0 a "com/example/reckoner/reckoner/Bytes" "bytes" "[B" (.ref arr)) (F2 : Fld Z h0 a "com/example/reckoner/reckoner/Bytes" "length" "I" (.int w1)) (V0 : Arv Z h0 arr cc .byte (64 : Int32) [(.int v0), (.int v1), (.int v2), (.int v3), (.int v4), (.int v5), (.int v6), (.int v7)] (.int (0 : Int32))) (hs11 : ¬ ((64 : Int32) < (w1 + p1))) :
    MetFree l (⟨"com/example/reckoner/reckoner/Bytes", "reserve", "(I)V"⟩ : MethodName) (head1 (Jvm.Cond.code (⟨"com/example/reckoner/reckoner/Bytes", "reserve", "(I)V"⟩ : MethodName) prog_9_method_11_code 2 none :: ws) ({ frames := 0, cells := 0, slots := 0, locals := 0 } : Room)) (fun aa U => aa = #[(.ref a), (.int p1)] ∧ Z.Warmed39 U.vm ∧ U.heap = h0) (fun _ _ _ _ _ => True) (fun _ U o U' => ∃ v L, o = .returned v ∧ own_Qrs Z a p1 w1 arr cc v0 v1 v2 v3 v4 v5 v6 v7 h0 n0 v U'.heap L ∧ FrameEnd U o U' L ({ frames := 0, cells := 0, slots := 0, locals := 0 } : Room).cells ({ frames := 0, cells := 0, slots := 0, locals := 0 } : Room).slots) := by
  refine MetFree.of_bodySF (plainFor_of_name own_pn0) hisR ?_
  intro p e s m args below meth c s₁ Bd hml0 hP hK
  obtain ⟨rfl, hZ, hh⟩ := hP
  have hx := Bd.exec
  have hby := Bd.bytes
  have hml : c.maxLocals = 2 := hml0
  have hown : s.vm.findClass "com/example/reckoner/reckoner/Bytes" = some m.cls := findClass_of_methodNamed Bd.named
  have hnm := (name_of_methodNamed Bd.named Bd.method).1
  have X0 : Stand p l e ({ frames := 0, cells := 0, slots := 0, locals := 0 } : Room) s m #[(.ref a), (.int p1)] below meth c s₁ [] 0 0 := Stand.of_body Bd
  have e0 : s₁.heap = h0 := by rw [← hh, Bd.state]; rfl
  have N0 := Fr.nil n0
  have pre0 : ∀ t, Steps p.tables e below (s₁.setTop (mkF m 0 #[.val (.ref a), .val (.int p1)] [])) t → Steps p.tables e below (s₁.setTop (entryFrame m #[(.ref a), (.int p1)] 2)) t := fun t k => castTop (own_efrs m a p1) k
  have k1 : ∀ t, Steps p.tables e below (s₁.setTop (mkF m 1 #[.val (.ref a), .val (.int p1)] [(.ref a)])) t → Steps p.tables e below (s₁.setTop (entryFrame m #[(.ref a), (.int p1)] 2)) t := by
    intro t k
    refine pre0 t ?_
    show Steps p.tables e below (s₁.setTop (mkF m 0 #[.val (.ref a), .val (.int p1)] [])) _
    refine XS.aloadN X0.here hx rfl (hb hby own_d5_0) rfl rfl ?_
    exact k
  obtain ⟨T2, X2, e2, st2⟩ := getF X0 hx hZ hown (host := "") (Or.inl (hw _ (List.mem_of_getElem? (i := 26) rfl))) Via.refl e0 F2 (g := (mkF m 1 #[.val (.ref a), .val (.int p1)] [(.ref a)])) rfl rfl (hb hby own_d5_1)
  have k3 : ∀ t, Steps p.tables e below (T2.setTop (mkF m 4 #[.val (.ref a), .val (.int p1)] [(.int w1)])) t → Steps p.tables e below (s₁.setTop (entryFrame m #[(.ref a), (.int p1)] 2)) t := fun t k => k1 t (st2 t k)
  have k4 : ∀ t, Steps p.tables e below (T2.setTop (mkF m 7 #[.val (.ref a), .val (.int p1)] [(.ref a), (.int (w1 + p1))])) t → Steps p.tables e below (s₁.setTop (entryFrame m #[(.ref a), (.int p1)] 2)) t := by
    intro t k
    refine k3 t ?_
    show Steps p.tables e below (T2.setTop (mkF m 4 #[.val (.ref a), .val (.int p1)] [(.int w1)])) _
    refine XS.iloadN X2.here hx rfl (hb hby own_d5_4) rfl ?_
    show Steps p.tables e below (T2.setTop (mkF m 5 #[.val (.ref a), .val (.int p1)] [(.int p1), (.int w1)])) _
    refine XS.iadd X2.here hx rfl (hb hby own_d5_5) rfl ?_
    show Steps p.tables e below (T2.setTop (mkF m 6 #[.val (.ref a), .val (.int p1)] [(.int (w1 + p1))])) _
    refine XS.aloadN X2.here hx rfl (hb hby own_d5_6) rfl rfl ?_
    exact k
  obtain ⟨T5, X5, e5, st5⟩ := getF X2 hx hZ hown (host := "") (Or.inl (hw _ (List.mem_of_getElem? (i := 10) rfl))) Via.refl e2 F1 (g := (mkF m 7 #[.val (.ref a), .val (.int p1)] [(.ref a), (.int (w1 + p1))])) rfl rfl (hb hby own_d5_7)
  have k6 : ∀ t, Steps p.tables e below (T5.setTop (mkF m 10 #[.val (.ref a), .val (.int p1)] [(.ref arr), (.int (w1 + p1))])) t → Steps p.tables e below (s₁.setTop (entryFrame m #[(.ref a), (.int p1)] 2)) t := fun t k => k4 t (st5 t k)
  obtain ⟨cl7, Ar7, qa7, Sa7, Na7, Ha7, Ga7⟩ := id V0
  have k8 : ∀ t, Steps p.tables e below (T5.setTop (mkF m 41 #[.val (.ref a), .val (.int p1)] [])) t → Steps p.tables e below (s₁.setTop (entryFrame m #[(.ref a), (.int p1)] 2)) t := by
    intro t k
    refine k6 t ?_
    show Steps p.tables e below (T5.setTop (mkF m 10 #[.val (.ref a), .val (.int p1)] [(.ref arr), (.int (w1 + p1))])) _
    refine X5.arraylength hx (by rw [e5]; exact Ar7.1) (State.isArrayOf_alike hZ.alike Ar7.2.1) (g := (mkF m 10 #[.val (.ref a), .val (.int p1)] [(.ref arr), (.int (w1 + p1))])) rfl rfl (hb hby own_d5_10) _ ?_
    rw [len_of Sa7 Na7]
    show Steps p.tables e below (T5.setTop (mkF m 11 #[.val (.ref a), .val (.int p1)] [(.int (64 : Int32)), (.int (w1 + p1))])) _
    refine XS.icmpYes X5.here hx rfl (pc0 := 11) (pc' := 41) rfl (hb hby own_d5_11) rfl (flt hs11).2.2.2 (by decide) (by decide) ?_
    exact k
  obtain ⟨fs, hr, hrun, hended, hW, hsame⟩ := X5.leave (v := none) (fun _ => rfl)
  refine ⟨_, _, k8 _ ?_, hrun, hended, _, _, rfl, ?_, ⟨_, rfl⟩, hW, hsame.mono (by decide) (by decide)⟩
  · exact X5.returnOut hx Bd.returns (hb hby own_d5_41) hr
  · exact ⟨rfl, N0, e5⟩
theorem own_d4_0 : decode prog_9_method_5_code 0 = .ok (.aload_n 0, 1) := by decide +kernel
theorem own_d4_1 : decode prog_9_method_5_code 1 = .ok (.iconst 4, 1) := by decide +kernel
theorem own_d4_2 : decode prog_9_method_5_code 2 = .ok (.invokevirtual 17, 3) := by decide +kernel
theorem own_d4_5 : decode prog_9_method_5_code 5 = .ok (.bipush 24, 2) := by decide +kernel
theorem own_d4_7 : decode prog_9_method_5_code 7 = .ok (.istore_n 2, 1) := by decide +kernel
theorem own_d4_8 : decode prog_9_method_5_code 8 = .ok (.iload_n 2, 1) := by decide +kernel
theorem own_d4_9 : decode prog_9_method_5_code 9 = .ok (.ifCond .lt 29, 3) := by decide +kernel
theorem own_d4_12 : decode prog_9_method_5_code 12 = .ok (.aload_n 0, 1) := by decide +kernel
theorem own_d4_13 : decode prog_9_method_5_code 13 = .ok (.getfield 7, 3) := by decide +kernel
theorem own_d4_16 : decode prog_9_method_5_code 16 = .ok (.aload_n 0, 1) := by decide +kernel
theorem own_d4_17 : decode prog_9_method_5_code 17 = .ok (.dup, 1) := by decide +kernel
theorem own_d4_18 : decode prog_9_method_5_code 18 = .ok (.getfield 13, 3) := by decide +kernel
theorem own_d4_21 : decode prog_9_method_5_code 21 = .ok (.dup_x1, 1) := by decide +kernel
theorem own_d4_22 : decode prog_9_method_5_code 22 = .ok (.iconst 1, 1) := by decide +kernel
theorem own_d4_23 : decode prog_9_method_5_code 23 = .ok (.iadd, 1) := by decide +kernel
theorem own_d4_24 : decode prog_9_method_5_code 24 = .ok (.putfield 13, 3) := by decide +kernel
theorem own_d4_27 : decode prog_9_method_5_code 27 = .ok (.iload_n 1, 1) := by decide +kernel
theorem own_d4_28 : decode prog_9_method_5_code 28 = .ok (.iload_n 2, 1) := by decide +kernel
theorem own_d4_29 : decode prog_9_method_5_code 29 = .ok (.iushr, 1) := by decide +kernel
theorem own_d4_30 : decode prog_9_method_5_code 30 = .ok (.i2b, 1) := by decide +kernel
theorem own_d4_31 : decode prog_9_method_5_code 31 = .ok (.bastore, 1) := by decide +kernel
theorem own_d4_32 : decode prog_9_method_5_code 32 = .ok (.iinc 2 (-8), 3) := by decide +kernel
theorem own_d4_35 : decode prog_9_method_5_code 35 = .ok (.goto (-27), 3) := by decide +kernel
theorem own_d4_38 : decode prog_9_method_5_code 38 = .ok (.aload_n 0, 1) := by decide +kernel
theorem own_d4_39 : decode prog_9_method_5_code 39 = .ok (.areturn, 1) := by decide +kernel
theorem own_pd0 : parseMethodDescriptor "(I)V" = some ⟨[.int], none⟩ := by decide +kernel
theorem own_efu4a (m : MethodId) (x0 : Addr) (x1 : Int32) : entryFrame m #[(.ref x0), (.int x1)] 3 = mkF m 0 #[.val (.ref x0), .val (.int x1), .unset] [] := by first | (simp [entryFrame, mkF, argsToLocals, Value.category]; done) | rfl
def own_Qu4a (Z : State) (a : Addr) (p1 : Int32) (arr : Addr) (cc : ClassId) (v0 : Int32) (v1 : Int32) (v2 : Int32) (v3 : Int32) (v4 : Int32) (v5 : Int32) (v6 : Int32) (v7 : Int32) (h0 : Heap) (n0 : Nat) (v : Option Value) (h : Heap) (L : List Loc) : Prop := v = some (.ref a) ∧ Fr n0 L ∧ Keep h0 h [a, arr] ∧ Exa Z h a "com/example/reckoner/reckoner/Bytes" ∧ Fld Z h a "com/example/reckoner/reckoner/Bytes" "bytes" "[B" (.ref arr) ∧ Fld Z h a "com/example/reckoner/reckoner/Bytes" "length" "I" (.int (4 : Int32)) ∧ Arv Z h arr cc .byte (64 : Int32) [(.int (nar .byte (((p1.toUInt32 >>> ((24 : Int32) &&& 31).toUInt32).toInt32).toInt8.toInt32))), (.int (nar .byte (((p1.toUInt32 >>> ((16 : Int32) &&& 31).toUInt32).toInt32).toInt8.toInt32))), (.int (nar .byte (((p1.toUInt32 >>> ((8 : Int32) &&& 31).toUInt32).toInt32).toInt8.toInt32))), (.int (nar .byte (((p1.toUInt32 >>> ((0 : Int32) &&& 31).toUInt32).toInt32).toInt8.toInt32))), (.int v4), (.int v5), (.int v6), (.int v7)] (.int (0 : Int32))
set_option maxRecDepth 65536 in
set_option maxHeartbeats 40000000 in
theorem own_rmu4a (l : Launch) (Z : State) (a0 : Array Value) (hw : ∀ d ∈ tables_1, d.before a0 Z = true) (ws : List Jvm.Cond) (a : Addr) (p1 : Int32) (arr : Addr) (cc : ClassId) (v0 : Int32) (v1 : Int32) (v2 : Int32) (v3 : Int32) (v4 : Int32) (v5 : Int32) (v6 : Int32) (v7 : Int32) (h0 : Heap) (n0 : Nat) (Z0 : n0 ≤ h0.size) (Ea : Exa Z h0 a "com/example/reckoner/reckoner/Bytes") (F1 : Fld Z h0 a "com/example/reckoner/reckoner/Bytes" "bytes" "[B" (.ref arr)) (F2 : Fld Z h0 a "com/example/reckoner/reckoner/Bytes" "length" "I" (.int (0 : Int32))) (V0 : Arv Z h0 arr cc .byte (64 : Int32) [(.int v0), (.int v1), (.int v2), (.int v3), (.int v4), (.int v5), (.int v6), (.int v7)] (.int (0 : Int32))) (ga : n0 ≤ a) (gb : n0 ≤ arr) (hne : a ≠ arr) :
    MetFree l (⟨"com/example/reckoner/reckoner/Bytes", "u4", "(I)Lcom/example/reckoner/reckoner/Bytes;"⟩ : MethodName) (head1 (Jvm.Cond.code (⟨"com/example/reckoner/reckoner/Bytes", "u4", "(I)Lcom/example/reckoner/reckoner/Bytes;"⟩ : MethodName) prog_9_method_5_code 3 (some (.object "com/example/reckoner/reckoner/Bytes")) :: ws) ({ frames := 1, cells := 0, slots := 0, locals := 13 } : Room)) (fun aa U => aa = #[(.ref a), (.int p1)] ∧ Z.Warmed39 U.vm ∧ U.heap = h0) (fun _ _ _ _ _ => True) (fun _ U o U' => ∃ v L, o = .returned v ∧ own_Qu4a Z a p1 arr cc v0 v1 v2 v3 v4 v5 v6 v7 h0 n0 v U'.heap L ∧ FrameEnd U o U' L ({ frames := 1, cells := 0, slots := 0, locals := 13 } : Room).cells ({ frames := 1, cells := 0, slots := 0, locals := 13 } : Room).slots) := by
  refine MetFree.of_bodySF (plainFor_of_name own_pn0) hisR ?_
  intro p e s m args below meth c s₁ Bd hml0 hP hK
  obtain ⟨rfl, hZ, hh⟩ := hP
  have hx := Bd.exec
  have hby := Bd.bytes
  have hml : c.maxLocals = 3 := hml0
  have hown : s.vm.findClass "com/example/reckoner/reckoner/Bytes" = some m.cls := findClass_of_methodNamed Bd.named
  have hnm := (name_of_methodNamed Bd.named Bd.method).1
  have X0 : Stand p l e ({ frames := 1, cells := 0, slots := 0, locals := 13 } : Room) s m #[(.ref a), (.int p1)] below meth c s₁ [] 0 0 := Stand.of_body Bd
  have e0 : s₁.heap = h0 := by rw [← hh, Bd.state]; rfl
  have N0 := Fr.nil n0
  have pre0 : ∀ t, Steps p.tables e below (s₁.setTop (mkF m 0 #[.val (.ref a), .val (.int p1), .unset] [])) t → Steps p.tables e below (s₁.setTop (entryFrame m #[(.ref a), (.int p1)] 3)) t := fun t k => castTop (own_efu4a m a p1) k
  have k1 : ∀ t, Steps p.tables e below (s₁.setTop (mkF m 2 #[.val (.ref a), .val (.int p1), .unset] [(.int (4 : Int32)), (.ref a)])) t → Steps p.tables e below (s₁.setTop (entryFrame m #[(.ref a), (.int p1)] 3)) t := by
    intro t k
    refine pre0 t ?_
    show Steps p.tables e below (s₁.setTop (mkF m 0 #[.val (.ref a), .val (.int p1), .unset] [])) _
    refine XS.aloadN X0.here hx rfl (hb hby own_d4_0) rfl rfl ?_
    show Steps p.tables e below (s₁.setTop (mkF m 1 #[.val (.ref a), .val (.int p1), .unset] [(.ref a)])) _
    refine XS.iconst X0.here hx rfl (hb hby own_d4_1) ?_
    exact k
  obtain ⟨cq2, qa2x, qb2x⟩ := Ea.cell
  obtain ⟨_, _, ⟨T2, L2, k2c, n2⟩, -, X2, ⟨Lc2, hQ2, l2, y2, z2⟩, st2⟩ := X0.privateBack hx (y := (⟨"com/example/reckoner/reckoner/Bytes", "reserve", "(I)V"⟩ : MethodName)) hown (mvT hZ (hw _ (List.mem_of_getElem? (i := 22) rfl))) (mvT hZ (hw _ (List.mem_of_getElem? (i := 23) rfl))) (Jvm.Kit.selects_private (by decide) (mvT hZ (hw _ (List.mem_of_getElem? (i := 1) rfl))) (mvP hZ (hw _ (List.mem_of_getElem? (i := 24) rfl))) (mvT hZ (hw _ (List.mem_of_getElem? (i := 23) rfl)))) (Cond.privateMethod_at (mvP hZ (hw _ (List.mem_of_getElem? (i := 24) rfl)) (args := #[]))) (mvT hZ (hw _ (List.mem_of_getElem? (i := 25) rfl))) (by decide) (backOf (W := 0) (own_rmrs l Z a0 hw [] a (4 : Int32) (0 : Int32) arr cc v0 v1 v2 v3 v4 v5 v6 v7 h0 n0 Z0 F1 F2 V0 (by decide)) hZ (hw _ (List.mem_of_getElem? (i := 25) rfl)) (hw _ (List.mem_of_getElem? (i := 2) rfl)) (by decide) (by decide)) (g := (mkF m 2 #[.val (.ref a), .val (.int p1), .unset] [(.int (4 : Int32)), (.ref a)])) rfl (by rw [hml]; rfl) (Steps.refl _) (a := a) (by rw [e0]; exact qa2x) qb2x (argsL := [(.int (4 : Int32))]) (rest := []) (lenOf own_pd0 rfl) rfl (by show 2 * 0 + _ ≤ _; exact Nat.le_of_eq rfl) (hb hby own_d4_2) (fun _ _ => ⟨rfl, e0, (by decide : 0 + 0 ≤ _), (by decide : 0 + 0 ≤ _)⟩)
  dsimp only [Pt.U, Pt.locs, Pt.cells, Pt.slots] at X2 l2 y2 z2 st2 hQ2
  subst l2 y2 z2
  obtain ⟨rfl, N2q, e2⟩ := hQ2
  have N2 := Fr.app N0 N2q
  have k3 : ∀ t, Steps p.tables e below (T2.setTop (mkF m 5 #[.val (.ref a), .val (.int p1), .unset] [])) t → Steps p.tables e below (s₁.setTop (entryFrame m #[(.ref a), (.int p1)] 3)) t := fun t k => k1 t (st2.trans k)
  have k4 : ∀ t, Steps p.tables e below (T2.setTop (mkF m 13 #[.val (.ref a), .val (.int p1), .val (.int (24 : Int32))] [(.ref a)])) t → Steps p.tables e below (s₁.setTop (entryFrame m #[(.ref a), (.int p1)] 3)) t := by
    intro t k
    refine k3 t ?_
    show Steps p.tables e below (T2.setTop (mkF m 5 #[.val (.ref a), .val (.int p1), .unset] [])) _
    refine XS.bipush X2.here hx rfl (hb hby own_d4_5) ?_
    show Steps p.tables e below (T2.setTop (mkF m 7 #[.val (.ref a), .val (.int p1), .unset] [(.int (24 : Int32))])) _
    refine XS.istoreN X2.here hx rfl (hb hby own_d4_7) rfl (l' := #[.val (.ref a), .val (.int p1), .val (.int (24 : Int32))]) rfl ?_
    show Steps p.tables e below (T2.setTop (mkF m 8 #[.val (.ref a), .val (.int p1), .val (.int (24 : Int32))] [])) _
    refine XS.iloadN X2.here hx rfl (hb hby own_d4_8) rfl ?_
    show Steps p.tables e below (T2.setTop (mkF m 9 #[.val (.ref a), .val (.int p1), .val (.int (24 : Int32))] [(.int (24 : Int32))])) _
    refine XS.ifNo X2.here hx rfl (hb hby own_d4_9) rfl ((if0 _ _).trans (flt (by decide : ¬ ((24 : Int32) < (0 : Int32)))).1) ?_
    show Steps p.tables e below (T2.setTop (mkF m 12 #[.val (.ref a), .val (.int p1), .val (.int (24 : Int32))] [])) _
    refine XS.aloadN X2.here hx rfl (hb hby own_d4_12) rfl rfl ?_
    exact k
  obtain ⟨T5, X5, e5, st5⟩ := getF X2 hx hZ hown (host := "") (Or.inl (hw _ (List.mem_of_getElem? (i := 10) rfl))) Via.refl e2 F1 (g := (mkF m 13 #[.val (.ref a), .val (.int p1), .val (.int (24 : Int32))] [(.ref a)])) rfl rfl (hb hby own_d4_13)
  have k6 : ∀ t, Steps p.tables e below (T5.setTop (mkF m 16 #[.val (.ref a), .val (.int p1), .val (.int (24 : Int32))] [(.ref arr)])) t → Steps p.tables e below (s₁.setTop (entryFrame m #[(.ref a), (.int p1)] 3)) t := fun t k => k4 t (st5 t k)
  have k7 : ∀ t, Steps p.tables e below (T5.setTop (mkF m 18 #[.val (.ref a), .val (.int p1), .val (.int (24 : Int32))] [(.ref a), (.ref a), (.ref arr)])) t → Steps p.tables e below (s₁.setTop (entryFrame m #[(.ref a), (.int p1)] 3)) t := by
    intro t k
    refine k6 t ?_
    show Steps p.tables e below (T5.setTop (mkF m 16 #[.val (.ref a), .val (.int p1), .val (.int (24 : Int32))] [(.ref arr)])) _
    refine XS.aloadN X5.here hx rfl (hb hby own_d4_16) rfl rfl ?_
    show Steps p.tables e below (T5.setTop (mkF m 17 #[.val (.ref a), .val (.int p1), .val (.int (24 : Int32))] [(.ref a), (.ref arr)])) _
    refine XS.dup X5.here hx rfl (hb hby own_d4_17) rfl rfl ?_
    exact k
  obtain ⟨T8, X8, e8, st8⟩ := getF X5 hx hZ hown (host := "") (Or.inl (hw _ (List.mem_of_getElem? (i := 26) rfl))) Via.refl e5 F2 (g := (mkF m 18 #[.val (.ref a), .val (.int p1), .val (.int (24 : Int32))] [(.ref a), (.ref a), (.ref arr)])) rfl rfl (hb hby own_d4_18)
  have k9 : ∀ t, Steps p.tables e below (T8.setTop (mkF m 21 #[.val (.ref a), .val (.int p1), .val (.int (24 : Int32))] [(.int (0 : Int32)), (.ref a), (.ref arr)])) t → Steps p.tables e below (s₁.setTop (entryFrame m #[(.ref a), (.int p1)] 3)) t := fun t k => k7 t (st8 t k)
  have k10 : ∀ t, Steps p.tables e below (T8.setTop (mkF m 24 #[.val (.ref a), .val (.int p1), .val (.int (24 : Int32))] [(.int (1 : Int32)), (.ref a), (.int (0 : Int32)), (.ref arr)])) t → Steps p.tables e below (s₁.setTop (entryFrame m #[(.ref a), (.int p1)] 3)) t := by
    intro t k
    refine k9 t ?_
    show Steps p.tables e below (T8.setTop (mkF m 21 #[.val (.ref a), .val (.int p1), .val (.int (24 : Int32))] [(.int (0 : Int32)), (.ref a), (.ref arr)])) _
    refine XS.dupX1 X8.here hx rfl (hb hby own_d4_21) rfl rfl rfl ?_
    show Steps p.tables e below (T8.setTop (mkF m 22 #[.val (.ref a), .val (.int p1), .val (.int (24 : Int32))] [(.int (0 : Int32)), (.ref a), (.int (0 : Int32)), (.ref arr)])) _
    refine XS.iconst X8.here hx rfl (hb hby own_d4_22) ?_
    show Steps p.tables e below (T8.setTop (mkF m 23 #[.val (.ref a), .val (.int p1), .val (.int (24 : Int32))] [(.int (1 : Int32)), (.int (0 : Int32)), (.ref a), (.int (0 : Int32)), (.ref arr)])) _
    refine XS.iadd X8.here hx rfl (hb hby own_d4_23) rfl ?_
    exact k
  obtain ⟨T11, h11, X11, e11, W11, st11⟩ := putF X8 hx hZ hown (host := "") (Or.inl (hw _ (List.mem_of_getElem? (i := 26) rfl))) Via.refl e8 F2 Ea (Or.inl (hw _ (List.mem_of_getElem? (i := 27) rfl))) (hw _ (List.mem_of_getElem? (i := 1) rfl)) (ty := .int) (by decide) rfl rfl (g := (mkF m 24 #[.val (.ref a), .val (.int p1), .val (.int (24 : Int32))] [(.int (1 : Int32)), (.ref a), (.int (0 : Int32)), (.ref arr)])) rfl rfl (hb hby own_d4_24)
  have f12 := Ea.wr W11
  have f13 := F1.other W11 (Or.inr (slot_ne (Or.inl (hw _ (List.mem_of_getElem? (i := 11) rfl))) (Or.inl (hw _ (List.mem_of_getElem? (i := 27) rfl))) (by decide) (t := (.array .byte)) (t' := .int) (by decide) (by decide)))
  have f14 := V0.other W11 (Ne.symm hne)
  have f15 := F2.same W11
  have N11 := Fr.snoc X11 N2 ga
  have K11 : Keep h0 h11 [a, arr] := (Keep.refl h0 [a, arr]).wr W11 (Or.inl (List.mem_of_getElem? (i := 0) rfl))
  have Z11 : n0 ≤ h11.size := Nat.le_trans Z0 (Keep.of_wr W11).1
  have k16 : ∀ t, Steps p.tables e below (T11.setTop (mkF m 27 #[.val (.ref a), .val (.int p1), .val (.int (24 : Int32))] [(.int (0 : Int32)), (.ref arr)])) t → Steps p.tables e below (s₁.setTop (entryFrame m #[(.ref a), (.int p1)] 3)) t := fun t k => k10 t (st11 t k)
  have k17 : ∀ t, Steps p.tables e below (T11.setTop (mkF m 31 #[.val (.ref a), .val (.int p1), .val (.int (24 : Int32))] [(.int (((p1.toUInt32 >>> ((24 : Int32) &&& 31).toUInt32).toInt32).toInt8.toInt32)), (.int (0 : Int32)), (.ref arr)])) t → Steps p.tables e below (s₁.setTop (entryFrame m #[(.ref a), (.int p1)] 3)) t := by
    intro t k
    refine k16 t ?_
    show Steps p.tables e below (T11.setTop (mkF m 27 #[.val (.ref a), .val (.int p1), .val (.int (24 : Int32))] [(.int (0 : Int32)), (.ref arr)])) _
    refine XS.iloadN X11.here hx rfl (hb hby own_d4_27) rfl ?_
    show Steps p.tables e below (T11.setTop (mkF m 28 #[.val (.ref a), .val (.int p1), .val (.int (24 : Int32))] [(.int p1), (.int (0 : Int32)), (.ref arr)])) _
    refine XS.iloadN X11.here hx rfl (hb hby own_d4_28) rfl ?_
    show Steps p.tables e below (T11.setTop (mkF m 29 #[.val (.ref a), .val (.int p1), .val (.int (24 : Int32))] [(.int (24 : Int32)), (.int p1), (.int (0 : Int32)), (.ref arr)])) _
    refine XS.iushr X11.here hx rfl (hb hby own_d4_29) rfl ?_
    show Steps p.tables e below (T11.setTop (mkF m 30 #[.val (.ref a), .val (.int p1), .val (.int (24 : Int32))] [(.int ((p1.toUInt32 >>> ((24 : Int32) &&& 31).toUInt32).toInt32)), (.int (0 : Int32)), (.ref arr)])) _
    refine XS.i2b X11.here hx rfl (hb hby own_d4_30) rfl ?_
    exact k
  obtain ⟨cl18, Ar18, qa18, Sa18, Na18, Ha18, Ga18⟩ := id f14
  have hin19 : ¬ ((0 : Int32) < 0 ∨ cl18.slots.size ≤ ((0 : Int32)).toNatClampNeg) := inb_of Sa18 ⟨by decide, by decide⟩
  obtain ⟨T20, h20, X20, e20, W20, st20⟩ := stB X11 hx hZ e11 Ar18 (j := (0 : Int32)) hin19 (g := (mkF m 31 #[.val (.ref a), .val (.int p1), .val (.int (24 : Int32))] [(.int (((p1.toUInt32 >>> ((24 : Int32) &&& 31).toUInt32).toInt32).toInt8.toInt32)), (.int (0 : Int32)), (.ref arr)])) rfl rfl (hb hby own_d4_31)
  have f21 := f12.wr W20
  have f22 := f13.other W20 (Or.inl hne)
  have f23 := f15.other W20 (Or.inl hne)
  have V20 : Arv Z h20 arr cc .byte (64 : Int32) [(.int (nar .byte (((p1.toUInt32 >>> ((24 : Int32) &&& 31).toUInt32).toInt32).toInt8.toInt32))), (.int v1), (.int v2), (.int v3), (.int v4), (.int v5), (.int v6), (.int v7)] (.int (0 : Int32)) := Arv.set Ar18 qa18 Sa18 Na18 Ha18 Ga18 (fits_nar_byte _) W20 0 rfl (Nat.le_of_ble_eq_true rfl)
  have N20 := Fr.snoc X20 N11 gb
  have K20 : Keep h0 h20 [a, arr] := K11.wr W20 (Or.inl (List.mem_of_getElem? (i := 1) rfl))
  have Z20 : n0 ≤ h20.size := Nat.le_trans Z11 (Keep.of_wr W20).1
  have k24 : ∀ t, Steps p.tables e below (T20.setTop (mkF m 32 #[.val (.ref a), .val (.int p1), .val (.int (24 : Int32))] [])) t → Steps p.tables e below (s₁.setTop (entryFrame m #[(.ref a), (.int p1)] 3)) t := fun t k => k17 t (st20 t k)
  have k25 : ∀ t, Steps p.tables e below (T20.setTop (mkF m 13 #[.val (.ref a), .val (.int p1), .val (.int (16 : Int32))] [(.ref a)])) t → Steps p.tables e below (s₁.setTop (entryFrame m #[(.ref a), (.int p1)] 3)) t := by
    intro t k
    refine k24 t ?_
    show Steps p.tables e below (T20.setTop (mkF m 32 #[.val (.ref a), .val (.int p1), .val (.int (24 : Int32))] [])) _
    refine XS.iinc X20.here hx rfl (hb hby own_d4_32) rfl (l' := #[.val (.ref a), .val (.int p1), .val (.int (16 : Int32))]) rfl ?_
    show Steps p.tables e below (T20.setTop (mkF m 35 #[.val (.ref a), .val (.int p1), .val (.int (16 : Int32))] [])) _
    refine XS.goto X20.here hx rfl (pc0 := 35) (pc' := 8) rfl (hb hby own_d4_35) (by decide) (by decide) ?_
    show Steps p.tables e below (T20.setTop (mkF m 8 #[.val (.ref a), .val (.int p1), .val (.int (16 : Int32))] [])) _
    refine XS.iloadN X20.here hx rfl (hb hby own_d4_8) rfl ?_
    show Steps p.tables e below (T20.setTop (mkF m 9 #[.val (.ref a), .val (.int p1), .val (.int (16 : Int32))] [(.int (16 : Int32))])) _
    refine XS.ifNo X20.here hx rfl (hb hby own_d4_9) rfl ((if0 _ _).trans (flt (by decide : ¬ ((16 : Int32) < (0 : Int32)))).1) ?_
    show Steps p.tables e below (T20.setTop (mkF m 12 #[.val (.ref a), .val (.int p1), .val (.int (16 : Int32))] [])) _
    refine XS.aloadN X20.here hx rfl (hb hby own_d4_12) rfl rfl ?_
    exact k
  obtain ⟨T26, X26, e26, st26⟩ := getF X20 hx hZ hown (host := "") (Or.inl (hw _ (List.mem_of_getElem? (i := 10) rfl))) Via.refl e20 f22 (g := (mkF m 13 #[.val (.ref a), .val (.int p1), .val (.int (16 : Int32))] [(.ref a)])) rfl rfl (hb hby own_d4_13)
  have k27 : ∀ t, Steps p.tables e below (T26.setTop (mkF m 16 #[.val (.ref a), .val (.int p1), .val (.int (16 : Int32))] [(.ref arr)])) t → Steps p.tables e below (s₁.setTop (entryFrame m #[(.ref a), (.int p1)] 3)) t := fun t k => k25 t (st26 t k)
  have k28 : ∀ t, Steps p.tables e below (T26.setTop (mkF m 18 #[.val (.ref a), .val (.int p1), .val (.int (16 : Int32))] [(.ref a), (.ref a), (.ref arr)])) t → Steps p.tables e below (s₁.setTop (entryFrame m #[(.ref a), (.int p1)] 3)) t := by
    intro t k
    refine k27 t ?_
    show Steps p.tables e below (T26.setTop (mkF m 16 #[.val (.ref a), .val (.int p1), .val (.int (16 : Int32))] [(.ref arr)])) _
    refine XS.aloadN X26.here hx rfl (hb hby own_d4_16) rfl rfl ?_
    show Steps p.tables e below (T26.setTop (mkF m 17 #[.val (.ref a), .val (.int p1), .val (.int (16 : Int32))] [(.ref a), (.ref arr)])) _
    refine XS.dup X26.here hx rfl (hb hby own_d4_17) rfl rfl ?_
    exact k
  obtain ⟨T29, X29, e29, st29⟩ := getF X26 hx hZ hown (host := "") (Or.inl (hw _ (List.mem_of_getElem? (i := 26) rfl))) Via.refl e26 f23 (g := (mkF m 18 #[.val (.ref a), .val (.int p1), .val (.int (16 : Int32))] [(.ref a), (.ref a), (.ref arr)])) rfl rfl (hb hby own_d4_18)
  have k30 : ∀ t, Steps p.tables e below (T29.setTop (mkF m 21 #[.val (.ref a), .val (.int p1), .val (.int (16 : Int32))] [(.int (1 : Int32)), (.ref a), (.ref arr)])) t → Steps p.tables e below (s₁.setTop (entryFrame m #[(.ref a), (.int p1)] 3)) t := fun t k => k28 t (st29 t k)
  have k31 : ∀ t, Steps p.tables e below (T29.setTop (mkF m 24 #[.val (.ref a), .val (.int p1), .val (.int (16 : Int32))] [(.int (2 : Int32)), (.ref a), (.int (1 : Int32)), (.ref arr)])) t → Steps p.tables e below (s₁.setTop (entryFrame m #[(.ref a), (.int p1)] 3)) t := by
    intro t k
    refine k30 t ?_
    show Steps p.tables e below (T29.setTop (mkF m 21 #[.val (.ref a), .val (.int p1), .val (.int (16 : Int32))] [(.int (1 : Int32)), (.ref a), (.ref arr)])) _
    refine XS.dupX1 X29.here hx rfl (hb hby own_d4_21) rfl rfl rfl ?_
    show Steps p.tables e below (T29.setTop (mkF m 22 #[.val (.ref a), .val (.int p1), .val (.int (16 : Int32))] [(.int (1 : Int32)), (.ref a), (.int (1 : Int32)), (.ref arr)])) _
    refine XS.iconst X29.here hx rfl (hb hby own_d4_22) ?_
    show Steps p.tables e below (T29.setTop (mkF m 23 #[.val (.ref a), .val (.int p1), .val (.int (16 : Int32))] [(.int (1 : Int32)), (.int (1 : Int32)), (.ref a), (.int (1 : Int32)), (.ref arr)])) _
    refine XS.iadd X29.here hx rfl (hb hby own_d4_23) rfl ?_
    exact k
  obtain ⟨T32, h32, X32, e32, W32, st32⟩ := putF X29 hx hZ hown (host := "") (Or.inl (hw _ (List.mem_of_getElem? (i := 26) rfl))) Via.refl e29 f23 f21 (Or.inl (hw _ (List.mem_of_getElem? (i := 27) rfl))) (hw _ (List.mem_of_getElem? (i := 1) rfl)) (ty := .int) (by decide) rfl rfl (g := (mkF m 24 #[.val (.ref a), .val (.int p1), .val (.int (16 : Int32))] [(.int (2 : Int32)), (.ref a), (.int (1 : Int32)), (.ref arr)])) rfl rfl (hb hby own_d4_24)
  have f33 := f21.wr W32
  have f34 := f22.other W32 (Or.inr (slot_ne (Or.inl (hw _ (List.mem_of_getElem? (i := 11) rfl))) (Or.inl (hw _ (List.mem_of_getElem? (i := 27) rfl))) (by decide) (t := (.array .byte)) (t' := .int) (by decide) (by decide)))
  have f35 := V20.other W32 (Ne.symm hne)
  have f36 := f23.same W32
  have N32 := Fr.snoc X32 N20 ga
  have K32 : Keep h0 h32 [a, arr] := K20.wr W32 (Or.inl (List.mem_of_getElem? (i := 0) rfl))
  have Z32 : n0 ≤ h32.size := Nat.le_trans Z20 (Keep.of_wr W32).1
  have k37 : ∀ t, Steps p.tables e below (T32.setTop (mkF m 27 #[.val (.ref a), .val (.int p1), .val (.int (16 : Int32))] [(.int (1 : Int32)), (.ref arr)])) t → Steps p.tables e below (s₁.setTop (entryFrame m #[(.ref a), (.int p1)] 3)) t := fun t k => k31 t (st32 t k)
  have k38 : ∀ t, Steps p.tables e below (T32.setTop (mkF m 31 #[.val (.ref a), .val (.int p1), .val (.int (16 : Int32))] [(.int (((p1.toUInt32 >>> ((16 : Int32) &&& 31).toUInt32).toInt32).toInt8.toInt32)), (.int (1 : Int32)), (.ref arr)])) t → Steps p.tables e below (s₁.setTop (entryFrame m #[(.ref a), (.int p1)] 3)) t := by
    intro t k
    refine k37 t ?_
    show Steps p.tables e below (T32.setTop (mkF m 27 #[.val (.ref a), .val (.int p1), .val (.int (16 : Int32))] [(.int (1 : Int32)), (.ref arr)])) _
    refine XS.iloadN X32.here hx rfl (hb hby own_d4_27) rfl ?_
    show Steps p.tables e below (T32.setTop (mkF m 28 #[.val (.ref a), .val (.int p1), .val (.int (16 : Int32))] [(.int p1), (.int (1 : Int32)), (.ref arr)])) _
    refine XS.iloadN X32.here hx rfl (hb hby own_d4_28) rfl ?_
    show Steps p.tables e below (T32.setTop (mkF m 29 #[.val (.ref a), .val (.int p1), .val (.int (16 : Int32))] [(.int (16 : Int32)), (.int p1), (.int (1 : Int32)), (.ref arr)])) _
    refine XS.iushr X32.here hx rfl (hb hby own_d4_29) rfl ?_
    show Steps p.tables e below (T32.setTop (mkF m 30 #[.val (.ref a), .val (.int p1), .val (.int (16 : Int32))] [(.int ((p1.toUInt32 >>> ((16 : Int32) &&& 31).toUInt32).toInt32)), (.int (1 : Int32)), (.ref arr)])) _
    refine XS.i2b X32.here hx rfl (hb hby own_d4_30) rfl ?_
    exact k
  obtain ⟨cl39, Ar39, qa39, Sa39, Na39, Ha39, Ga39⟩ := id f35
  have hin40 : ¬ ((1 : Int32) < 0 ∨ cl39.slots.size ≤ ((1 : Int32)).toNatClampNeg) := inb_of Sa39 ⟨by decide, by decide⟩
  obtain ⟨T41, h41, X41, e41, W41, st41⟩ := stB X32 hx hZ e32 Ar39 (j := (1 : Int32)) hin40 (g := (mkF m 31 #[.val (.ref a), .val (.int p1), .val (.int (16 : Int32))] [(.int (((p1.toUInt32 >>> ((16 : Int32) &&& 31).toUInt32).toInt32).toInt8.toInt32)), (.int (1 : Int32)), (.ref arr)])) rfl rfl (hb hby own_d4_31)
  have f42 := f33.wr W41
  have f43 := f34.other W41 (Or.inl hne)
  have f44 := f36.other W41 (Or.inl hne)
  have V41 : Arv Z h41 arr cc .byte (64 : Int32) [(.int (nar .byte (((p1.toUInt32 >>> ((24 : Int32) &&& 31).toUInt32).toInt32).toInt8.toInt32))), (.int (nar .byte (((p1.toUInt32 >>> ((16 : Int32) &&& 31).toUInt32).toInt32).toInt8.toInt32))), (.int v2), (.int v3), (.int v4), (.int v5), (.int v6), (.int v7)] (.int (0 : Int32)) := Arv.set Ar39 qa39 Sa39 Na39 Ha39 Ga39 (fits_nar_byte _) W41 1 rfl (Nat.le_of_ble_eq_true rfl)
  have N41 := Fr.snoc X41 N32 gb
  have K41 : Keep h0 h41 [a, arr] := K32.wr W41 (Or.inl (List.mem_of_getElem? (i := 1) rfl))
  have Z41 : n0 ≤ h41.size := Nat.le_trans Z32 (Keep.of_wr W41).1
  have k45 : ∀ t, Steps p.tables e below (T41.setTop (mkF m 32 #[.val (.ref a), .val (.int p1), .val (.int (16 : Int32))] [])) t → Steps p.tables e below (s₁.setTop (entryFrame m #[(.ref a), (.int p1)] 3)) t := fun t k => k38 t (st41 t k)
  have k46 : ∀ t, Steps p.tables e below (T41.setTop (mkF m 13 #[.val (.ref a), .val (.int p1), .val (.int (8 : Int32))] [(.ref a)])) t → Steps p.tables e below (s₁.setTop (entryFrame m #[(.ref a), (.int p1)] 3)) t := by
    intro t k
    refine k45 t ?_
    show Steps p.tables e below (T41.setTop (mkF m 32 #[.val (.ref a), .val (.int p1), .val (.int (16 : Int32))] [])) _
    refine XS.iinc X41.here hx rfl (hb hby own_d4_32) rfl (l' := #[.val (.ref a), .val (.int p1), .val (.int (8 : Int32))]) rfl ?_
    show Steps p.tables e below (T41.setTop (mkF m 35 #[.val (.ref a), .val (.int p1), .val (.int (8 : Int32))] [])) _
    refine XS.goto X41.here hx rfl (pc0 := 35) (pc' := 8) rfl (hb hby own_d4_35) (by decide) (by decide) ?_
    show Steps p.tables e below (T41.setTop (mkF m 8 #[.val (.ref a), .val (.int p1), .val (.int (8 : Int32))] [])) _
    refine XS.iloadN X41.here hx rfl (hb hby own_d4_8) rfl ?_
    show Steps p.tables e below (T41.setTop (mkF m 9 #[.val (.ref a), .val (.int p1), .val (.int (8 : Int32))] [(.int (8 : Int32))])) _
    refine XS.ifNo X41.here hx rfl (hb hby own_d4_9) rfl ((if0 _ _).trans (flt (by decide : ¬ ((8 : Int32) < (0 : Int32)))).1) ?_
    show Steps p.tables e below (T41.setTop (mkF m 12 #[.val (.ref a), .val (.int p1), .val (.int (8 : Int32))] [])) _
    refine XS.aloadN X41.here hx rfl (hb hby own_d4_12) rfl rfl ?_
    exact k
  obtain ⟨T47, X47, e47, st47⟩ := getF X41 hx hZ hown (host := "") (Or.inl (hw _ (List.mem_of_getElem? (i := 10) rfl))) Via.refl e41 f43 (g := (mkF m 13 #[.val (.ref a), .val (.int p1), .val (.int (8 : Int32))] [(.ref a)])) rfl rfl (hb hby own_d4_13)
  have k48 : ∀ t, Steps p.tables e below (T47.setTop (mkF m 16 #[.val (.ref a), .val (.int p1), .val (.int (8 : Int32))] [(.ref arr)])) t → Steps p.tables e below (s₁.setTop (entryFrame m #[(.ref a), (.int p1)] 3)) t := fun t k => k46 t (st47 t k)
  have k49 : ∀ t, Steps p.tables e below (T47.setTop (mkF m 18 #[.val (.ref a), .val (.int p1), .val (.int (8 : Int32))] [(.ref a), (.ref a), (.ref arr)])) t → Steps p.tables e below (s₁.setTop (entryFrame m #[(.ref a), (.int p1)] 3)) t := by
    intro t k
    refine k48 t ?_
    show Steps p.tables e below (T47.setTop (mkF m 16 #[.val (.ref a), .val (.int p1), .val (.int (8 : Int32))] [(.ref arr)])) _
    refine XS.aloadN X47.here hx rfl (hb hby own_d4_16) rfl rfl ?_
    show Steps p.tables e below (T47.setTop (mkF m 17 #[.val (.ref a), .val (.int p1), .val (.int (8 : Int32))] [(.ref a), (.ref arr)])) _
    refine XS.dup X47.here hx rfl (hb hby own_d4_17) rfl rfl ?_
    exact k
  obtain ⟨T50, X50, e50, st50⟩ := getF X47 hx hZ hown (host := "") (Or.inl (hw _ (List.mem_of_getElem? (i := 26) rfl))) Via.refl e47 f44 (g := (mkF m 18 #[.val (.ref a), .val (.int p1), .val (.int (8 : Int32))] [(.ref a), (.ref a), (.ref arr)])) rfl rfl (hb hby own_d4_18)
  have k51 : ∀ t, Steps p.tables e below (T50.setTop (mkF m 21 #[.val (.ref a), .val (.int p1), .val (.int (8 : Int32))] [(.int (2 : Int32)), (.ref a), (.ref arr)])) t → Steps p.tables e below (s₁.setTop (entryFrame m #[(.ref a), (.int p1)] 3)) t := fun t k => k49 t (st50 t k)
  have k52 : ∀ t, Steps p.tables e below (T50.setTop (mkF m 24 #[.val (.ref a), .val (.int p1), .val (.int (8 : Int32))] [(.int (3 : Int32)), (.ref a), (.int (2 : Int32)), (.ref arr)])) t → Steps p.tables e below (s₁.setTop (entryFrame m #[(.ref a), (.int p1)] 3)) t := by
    intro t k
    refine k51 t ?_
    show Steps p.tables e below (T50.setTop (mkF m 21 #[.val (.ref a), .val (.int p1), .val (.int (8 : Int32))] [(.int (2 : Int32)), (.ref a), (.ref arr)])) _
    refine XS.dupX1 X50.here hx rfl (hb hby own_d4_21) rfl rfl rfl ?_
    show Steps p.tables e below (T50.setTop (mkF m 22 #[.val (.ref a), .val (.int p1), .val (.int (8 : Int32))] [(.int (2 : Int32)), (.ref a), (.int (2 : Int32)), (.ref arr)])) _
    refine XS.iconst X50.here hx rfl (hb hby own_d4_22) ?_
    show Steps p.tables e below (T50.setTop (mkF m 23 #[.val (.ref a), .val (.int p1), .val (.int (8 : Int32))] [(.int (1 : Int32)), (.int (2 : Int32)), (.ref a), (.int (2 : Int32)), (.ref arr)])) _
    refine XS.iadd X50.here hx rfl (hb hby own_d4_23) rfl ?_
    exact k
  obtain ⟨T53, h53, X53, e53, W53, st53⟩ := putF X50 hx hZ hown (host := "") (Or.inl (hw _ (List.mem_of_getElem? (i := 26) rfl))) Via.refl e50 f44 f42 (Or.inl (hw _ (List.mem_of_getElem? (i := 27) rfl))) (hw _ (List.mem_of_getElem? (i := 1) rfl)) (ty := .int) (by decide) rfl rfl (g := (mkF m 24 #[.val (.ref a), .val (.int p1), .val (.int (8 : Int32))] [(.int (3 : Int32)), (.ref a), (.int (2 : Int32)), (.ref arr)])) rfl rfl (hb hby own_d4_24)
  have f54 := f42.wr W53
  have f55 := f43.other W53 (Or.inr (slot_ne (Or.inl (hw _ (List.mem_of_getElem? (i := 11) rfl))) (Or.inl (hw _ (List.mem_of_getElem? (i := 27) rfl))) (by decide) (t := (.array .byte)) (t' := .int) (by decide) (by decide)))
  have f56 := V41.other W53 (Ne.symm hne)
  have f57 := f44.same W53
  have N53 := Fr.snoc X53 N41 ga
  have K53 : Keep h0 h53 [a, arr] := K41.wr W53 (Or.inl (List.mem_of_getElem? (i := 0) rfl))
  have Z53 : n0 ≤ h53.size := Nat.le_trans Z41 (Keep.of_wr W53).1
  have k58 : ∀ t, Steps p.tables e below (T53.setTop (mkF m 27 #[.val (.ref a), .val (.int p1), .val (.int (8 : Int32))] [(.int (2 : Int32)), (.ref arr)])) t → Steps p.tables e below (s₁.setTop (entryFrame m #[(.ref a), (.int p1)] 3)) t := fun t k => k52 t (st53 t k)
  have k59 : ∀ t, Steps p.tables e below (T53.setTop (mkF m 31 #[.val (.ref a), .val (.int p1), .val (.int (8 : Int32))] [(.int (((p1.toUInt32 >>> ((8 : Int32) &&& 31).toUInt32).toInt32).toInt8.toInt32)), (.int (2 : Int32)), (.ref arr)])) t → Steps p.tables e below (s₁.setTop (entryFrame m #[(.ref a), (.int p1)] 3)) t := by
    intro t k
    refine k58 t ?_
    show Steps p.tables e below (T53.setTop (mkF m 27 #[.val (.ref a), .val (.int p1), .val (.int (8 : Int32))] [(.int (2 : Int32)), (.ref arr)])) _
    refine XS.iloadN X53.here hx rfl (hb hby own_d4_27) rfl ?_
    show Steps p.tables e below (T53.setTop (mkF m 28 #[.val (.ref a), .val (.int p1), .val (.int (8 : Int32))] [(.int p1), (.int (2 : Int32)), (.ref arr)])) _
    refine XS.iloadN X53.here hx rfl (hb hby own_d4_28) rfl ?_
    show Steps p.tables e below (T53.setTop (mkF m 29 #[.val (.ref a), .val (.int p1), .val (.int (8 : Int32))] [(.int (8 : Int32)), (.int p1), (.int (2 : Int32)), (.ref arr)])) _
    refine XS.iushr X53.here hx rfl (hb hby own_d4_29) rfl ?_
    show Steps p.tables e below (T53.setTop (mkF m 30 #[.val (.ref a), .val (.int p1), .val (.int (8 : Int32))] [(.int ((p1.toUInt32 >>> ((8 : Int32) &&& 31).toUInt32).toInt32)), (.int (2 : Int32)), (.ref arr)])) _
    refine XS.i2b X53.here hx rfl (hb hby own_d4_30) rfl ?_
    exact k
  obtain ⟨cl60, Ar60, qa60, Sa60, Na60, Ha60, Ga60⟩ := id f56
  have hin61 : ¬ ((2 : Int32) < 0 ∨ cl60.slots.size ≤ ((2 : Int32)).toNatClampNeg) := inb_of Sa60 ⟨by decide, by decide⟩
  obtain ⟨T62, h62, X62, e62, W62, st62⟩ := stB X53 hx hZ e53 Ar60 (j := (2 : Int32)) hin61 (g := (mkF m 31 #[.val (.ref a), .val (.int p1), .val (.int (8 : Int32))] [(.int (((p1.toUInt32 >>> ((8 : Int32) &&& 31).toUInt32).toInt32).toInt8.toInt32)), (.int (2 : Int32)), (.ref arr)])) rfl rfl (hb hby own_d4_31)
  have f63 := f54.wr W62
  have f64 := f55.other W62 (Or.inl hne)
  have f65 := f57.other W62 (Or.inl hne)
  have V62 : Arv Z h62 arr cc .byte (64 : Int32) [(.int (nar .byte (((p1.toUInt32 >>> ((24 : Int32) &&& 31).toUInt32).toInt32).toInt8.toInt32))), (.int (nar .byte (((p1.toUInt32 >>> ((16 : Int32) &&& 31).toUInt32).toInt32).toInt8.toInt32))), (.int (nar .byte (((p1.toUInt32 >>> ((8 : Int32) &&& 31).toUInt32).toInt32).toInt8.toInt32))), (.int v3), (.int v4), (.int v5), (.int v6), (.int v7)] (.int (0 : Int32)) := Arv.set Ar60 qa60 Sa60 Na60 Ha60 Ga60 (fits_nar_byte _) W62 2 rfl (Nat.le_of_ble_eq_true rfl)
  have N62 := Fr.snoc X62 N53 gb
  have K62 : Keep h0 h62 [a, arr] := K53.wr W62 (Or.inl (List.mem_of_getElem? (i := 1) rfl))
  have Z62 : n0 ≤ h62.size := Nat.le_trans Z53 (Keep.of_wr W62).1
  have k66 : ∀ t, Steps p.tables e below (T62.setTop (mkF m 32 #[.val (.ref a), .val (.int p1), .val (.int (8 : Int32))] [])) t → Steps p.tables e below (s₁.setTop (entryFrame m #[(.ref a), (.int p1)] 3)) t := fun t k => k59 t (st62 t k)
  have k67 : ∀ t, Steps p.tables e below (T62.setTop (mkF m 13 #[.val (.ref a), .val (.int p1), .val (.int (0 : Int32))] [(.ref a)])) t → Steps p.tables e below (s₁.setTop (entryFrame m #[(.ref a), (.int p1)] 3)) t := by
    intro t k
    refine k66 t ?_
    show Steps p.tables e below (T62.setTop (mkF m 32 #[.val (.ref a), .val (.int p1), .val (.int (8 : Int32))] [])) _
    refine XS.iinc X62.here hx rfl (hb hby own_d4_32) rfl (l' := #[.val (.ref a), .val (.int p1), .val (.int (0 : Int32))]) rfl ?_
    show Steps p.tables e below (T62.setTop (mkF m 35 #[.val (.ref a), .val (.int p1), .val (.int (0 : Int32))] [])) _
    refine XS.goto X62.here hx rfl (pc0 := 35) (pc' := 8) rfl (hb hby own_d4_35) (by decide) (by decide) ?_
    show Steps p.tables e below (T62.setTop (mkF m 8 #[.val (.ref a), .val (.int p1), .val (.int (0 : Int32))] [])) _
    refine XS.iloadN X62.here hx rfl (hb hby own_d4_8) rfl ?_
    show Steps p.tables e below (T62.setTop (mkF m 9 #[.val (.ref a), .val (.int p1), .val (.int (0 : Int32))] [(.int (0 : Int32))])) _
    refine XS.ifNo X62.here hx rfl (hb hby own_d4_9) rfl ((if0 _ _).trans (flt (Int32.lt_irrefl : ¬ ((0 : Int32) < (0 : Int32)))).1) ?_
    show Steps p.tables e below (T62.setTop (mkF m 12 #[.val (.ref a), .val (.int p1), .val (.int (0 : Int32))] [])) _
    refine XS.aloadN X62.here hx rfl (hb hby own_d4_12) rfl rfl ?_
    exact k
  obtain ⟨T68, X68, e68, st68⟩ := getF X62 hx hZ hown (host := "") (Or.inl (hw _ (List.mem_of_getElem? (i := 10) rfl))) Via.refl e62 f64 (g := (mkF m 13 #[.val (.ref a), .val (.int p1), .val (.int (0 : Int32))] [(.ref a)])) rfl rfl (hb hby own_d4_13)
  have k69 : ∀ t, Steps p.tables e below (T68.setTop (mkF m 16 #[.val (.ref a), .val (.int p1), .val (.int (0 : Int32))] [(.ref arr)])) t → Steps p.tables e below (s₁.setTop (entryFrame m #[(.ref a), (.int p1)] 3)) t := fun t k => k67 t (st68 t k)
  have k70 : ∀ t, Steps p.tables e below (T68.setTop (mkF m 18 #[.val (.ref a), .val (.int p1), .val (.int (0 : Int32))] [(.ref a), (.ref a), (.ref arr)])) t → Steps p.tables e below (s₁.setTop (entryFrame m #[(.ref a), (.int p1)] 3)) t := by
    intro t k
    refine k69 t ?_
    show Steps p.tables e below (T68.setTop (mkF m 16 #[.val (.ref a), .val (.int p1), .val (.int (0 : Int32))] [(.ref arr)])) _
    refine XS.aloadN X68.here hx rfl (hb hby own_d4_16) rfl rfl ?_
    show Steps p.tables e below (T68.setTop (mkF m 17 #[.val (.ref a), .val (.int p1), .val (.int (0 : Int32))] [(.ref a), (.ref arr)])) _
    refine XS.dup X68.here hx rfl (hb hby own_d4_17) rfl rfl ?_
    exact k
  obtain ⟨T71, X71, e71, st71⟩ := getF X68 hx hZ hown (host := "") (Or.inl (hw _ (List.mem_of_getElem? (i := 26) rfl))) Via.refl e68 f65 (g := (mkF m 18 #[.val (.ref a), .val (.int p1), .val (.int (0 : Int32))] [(.ref a), (.ref a), (.ref arr)])) rfl rfl (hb hby own_d4_18)
  have k72 : ∀ t, Steps p.tables e below (T71.setTop (mkF m 21 #[.val (.ref a), .val (.int p1), .val (.int (0 : Int32))] [(.int (3 : Int32)), (.ref a), (.ref arr)])) t → Steps p.tables e below (s₁.setTop (entryFrame m #[(.ref a), (.int p1)] 3)) t := fun t k => k70 t (st71 t k)
  have k73 : ∀ t, Steps p.tables e below (T71.setTop (mkF m 24 #[.val (.ref a), .val (.int p1), .val (.int (0 : Int32))] [(.int (4 : Int32)), (.ref a), (.int (3 : Int32)), (.ref arr)])) t → Steps p.tables e below (s₁.setTop (entryFrame m #[(.ref a), (.int p1)] 3)) t := by
    intro t k
    refine k72 t ?_
    show Steps p.tables e below (T71.setTop (mkF m 21 #[.val (.ref a), .val (.int p1), .val (.int (0 : Int32))] [(.int (3 : Int32)), (.ref a), (.ref arr)])) _
    refine XS.dupX1 X71.here hx rfl (hb hby own_d4_21) rfl rfl rfl ?_
    show Steps p.tables e below (T71.setTop (mkF m 22 #[.val (.ref a), .val (.int p1), .val (.int (0 : Int32))] [(.int (3 : Int32)), (.ref a), (.int (3 : Int32)), (.ref arr)])) _
    refine XS.iconst X71.here hx rfl (hb hby own_d4_22) ?_
    show Steps p.tables e below (T71.setTop (mkF m 23 #[.val (.ref a), .val (.int p1), .val (.int (0 : Int32))] [(.int (1 : Int32)), (.int (3 : Int32)), (.ref a), (.int (3 : Int32)), (.ref arr)])) _
    refine XS.iadd X71.here hx rfl (hb hby own_d4_23) rfl ?_
    exact k
  obtain ⟨T74, h74, X74, e74, W74, st74⟩ := putF X71 hx hZ hown (host := "") (Or.inl (hw _ (List.mem_of_getElem? (i := 26) rfl))) Via.refl e71 f65 f63 (Or.inl (hw _ (List.mem_of_getElem? (i := 27) rfl))) (hw _ (List.mem_of_getElem? (i := 1) rfl)) (ty := .int) (by decide) rfl rfl (g := (mkF m 24 #[.val (.ref a), .val (.int p1), .val (.int (0 : Int32))] [(.int (4 : Int32)), (.ref a), (.int (3 : Int32)), (.ref arr)])) rfl rfl (hb hby own_d4_24)
  have f75 := f63.wr W74
  have f76 := f64.other W74 (Or.inr (slot_ne (Or.inl (hw _ (List.mem_of_getElem? (i := 11) rfl))) (Or.inl (hw _ (List.mem_of_getElem? (i := 27) rfl))) (by decide) (t := (.array .byte)) (t' := .int) (by decide) (by decide)))
  have f77 := V62.other W74 (Ne.symm hne)
  have f78 := f65.same W74
  have N74 := Fr.snoc X74 N62 ga
  have K74 : Keep h0 h74 [a, arr] := K62.wr W74 (Or.inl (List.mem_of_getElem? (i := 0) rfl))
  have Z74 : n0 ≤ h74.size := Nat.le_trans Z62 (Keep.of_wr W74).1
  have k79 : ∀ t, Steps p.tables e below (T74.setTop (mkF m 27 #[.val (.ref a), .val (.int p1), .val (.int (0 : Int32))] [(.int (3 : Int32)), (.ref arr)])) t → Steps p.tables e below (s₁.setTop (entryFrame m #[(.ref a), (.int p1)] 3)) t := fun t k => k73 t (st74 t k)
  have k80 : ∀ t, Steps p.tables e below (T74.setTop (mkF m 31 #[.val (.ref a), .val (.int p1), .val (.int (0 : Int32))] [(.int (((p1.toUInt32 >>> ((0 : Int32) &&& 31).toUInt32).toInt32).toInt8.toInt32)), (.int (3 : Int32)), (.ref arr)])) t → Steps p.tables e below (s₁.setTop (entryFrame m #[(.ref a), (.int p1)] 3)) t := by
    intro t k
    refine k79 t ?_
    show Steps p.tables e below (T74.setTop (mkF m 27 #[.val (.ref a), .val (.int p1), .val (.int (0 : Int32))] [(.int (3 : Int32)), (.ref arr)])) _
    refine XS.iloadN X74.here hx rfl (hb hby own_d4_27) rfl ?_
    show Steps p.tables e below (T74.setTop (mkF m 28 #[.val (.ref a), .val (.int p1), .val (.int (0 : Int32))] [(.int p1), (.int (3 : Int32)), (.ref arr)])) _
    refine XS.iloadN X74.here hx rfl (hb hby own_d4_28) rfl ?_
    show Steps p.tables e below (T74.setTop (mkF m 29 #[.val (.ref a), .val (.int p1), .val (.int (0 : Int32))] [(.int (0 : Int32)), (.int p1), (.int (3 : Int32)), (.ref arr)])) _
    refine XS.iushr X74.here hx rfl (hb hby own_d4_29) rfl ?_
    show Steps p.tables e below (T74.setTop (mkF m 30 #[.val (.ref a), .val (.int p1), .val (.int (0 : Int32))] [(.int ((p1.toUInt32 >>> ((0 : Int32) &&& 31).toUInt32).toInt32)), (.int (3 : Int32)), (.ref arr)])) _
    refine XS.i2b X74.here hx rfl (hb hby own_d4_30) rfl ?_
    exact k
  obtain ⟨cl81, Ar81, qa81, Sa81, Na81, Ha81, Ga81⟩ := id f77
  have hin82 : ¬ ((3 : Int32) < 0 ∨ cl81.slots.size ≤ ((3 : Int32)).toNatClampNeg) := inb_of Sa81 ⟨by decide, by decide⟩
  obtain ⟨T83, h83, X83, e83, W83, st83⟩ := stB X74 hx hZ e74 Ar81 (j := (3 : Int32)) hin82 (g := (mkF m 31 #[.val (.ref a), .val (.int p1), .val (.int (0 : Int32))] [(.int (((p1.toUInt32 >>> ((0 : Int32) &&& 31).toUInt32).toInt32).toInt8.toInt32)), (.int (3 : Int32)), (.ref arr)])) rfl rfl (hb hby own_d4_31)
  have f84 := f75.wr W83
  have f85 := f76.other W83 (Or.inl hne)
  have f86 := f78.other W83 (Or.inl hne)
  have V83 : Arv Z h83 arr cc .byte (64 : Int32) [(.int (nar .byte (((p1.toUInt32 >>> ((24 : Int32) &&& 31).toUInt32).toInt32).toInt8.toInt32))), (.int (nar .byte (((p1.toUInt32 >>> ((16 : Int32) &&& 31).toUInt32).toInt32).toInt8.toInt32))), (.int (nar .byte (((p1.toUInt32 >>> ((8 : Int32) &&& 31).toUInt32).toInt32).toInt8.toInt32))), (.int (nar .byte (((p1.toUInt32 >>> ((0 : Int32) &&& 31).toUInt32).toInt32).toInt8.toInt32))), (.int v4), (.int v5), (.int v6), (.int v7)] (.int (0 : Int32)) := Arv.set Ar81 qa81 Sa81 Na81 Ha81 Ga81 (fits_nar_byte _) W83 3 rfl (Nat.le_of_ble_eq_true rfl)
  have N83 := Fr.snoc X83 N74 gb
  have K83 : Keep h0 h83 [a, arr] := K74.wr W83 (Or.inl (List.mem_of_getElem? (i := 1) rfl))
  have Z83 : n0 ≤ h83.size := Nat.le_trans Z74 (Keep.of_wr W83).1
  have k87 : ∀ t, Steps p.tables e below (T83.setTop (mkF m 32 #[.val (.ref a), .val (.int p1), .val (.int (0 : Int32))] [])) t → Steps p.tables e below (s₁.setTop (entryFrame m #[(.ref a), (.int p1)] 3)) t := fun t k => k80 t (st83 t k)
  have k88 : ∀ t, Steps p.tables e below (T83.setTop (mkF m 39 #[.val (.ref a), .val (.int p1), .val (.int (-8 : Int32))] [(.ref a)])) t → Steps p.tables e below (s₁.setTop (entryFrame m #[(.ref a), (.int p1)] 3)) t := by
    intro t k
    refine k87 t ?_
    show Steps p.tables e below (T83.setTop (mkF m 32 #[.val (.ref a), .val (.int p1), .val (.int (0 : Int32))] [])) _
    refine XS.iinc X83.here hx rfl (hb hby own_d4_32) rfl (l' := #[.val (.ref a), .val (.int p1), .val (.int (-8 : Int32))]) rfl ?_
    show Steps p.tables e below (T83.setTop (mkF m 35 #[.val (.ref a), .val (.int p1), .val (.int (-8 : Int32))] [])) _
    refine XS.goto X83.here hx rfl (pc0 := 35) (pc' := 8) rfl (hb hby own_d4_35) (by decide) (by decide) ?_
    show Steps p.tables e below (T83.setTop (mkF m 8 #[.val (.ref a), .val (.int p1), .val (.int (-8 : Int32))] [])) _
    refine XS.iloadN X83.here hx rfl (hb hby own_d4_8) rfl ?_
    show Steps p.tables e below (T83.setTop (mkF m 9 #[.val (.ref a), .val (.int p1), .val (.int (-8 : Int32))] [(.int (-8 : Int32))])) _
    refine XS.ifYes X83.here hx rfl (pc0 := 9) (pc' := 38) rfl (hb hby own_d4_9) rfl ((if0 _ _).trans (tlt (by decide : (-8 : Int32) < (0 : Int32))).1) (by decide) (by decide) ?_
    show Steps p.tables e below (T83.setTop (mkF m 38 #[.val (.ref a), .val (.int p1), .val (.int (-8 : Int32))] [])) _
    refine XS.aloadN X83.here hx rfl (hb hby own_d4_38) rfl rfl ?_
    exact k
  obtain ⟨fs, hr, hrun, hended, hW, hsame⟩ := X83.leave (v := (some (.ref a))) (fun h => by rw [Bd.returns] at h; cases h)
  refine ⟨_, _, k88 _ ?_, hrun, hended, _, _, rfl, ?_, ⟨_, rfl⟩, hW, hsame.mono (by decide) (by decide)⟩
  · exact retOut X83 hx Bd.returns rfl (Or.inr (Or.inr (Or.inr (Or.inr ⟨rfl, rfl, rfl⟩)))) (hb hby own_d4_39) hr
  · show own_Qu4a Z a p1 arr cc v0 v1 v2 v3 v4 v5 v6 v7 h0 n0 _ T83.heap _
    rw [e83]
    exact ⟨rfl, N83, K83, f84, f85, f86, V83⟩
theorem own_efu4b (m : MethodId) (x0 : Addr) (x1 : Int32) : entryFrame m #[(.ref x0), (.int x1)] 3 = mkF m 0 #[.val (.ref x0), .val (.int x1), .unset] [] := by first | (simp [entryFrame, mkF, argsToLocals, Value.category]; done) | rfl
def own_Qu4b (Z : State) (a : Addr) (p1 : Int32) (arr : Addr) (cc : ClassId) (v0 : Int32) (v1 : Int32) (v2 : Int32) (v3 : Int32) (v4 : Int32) (v5 : Int32) (v6 : Int32) (v7 : Int32) (h0 : Heap) (n0 : Nat) (v : Option Value) (h : Heap) (L : List Loc) : Prop := v = some (.ref a) ∧ Fr n0 L ∧ Keep h0 h [a, arr] ∧ Exa Z h a "com/example/reckoner/reckoner/Bytes" ∧ Fld Z h a "com/example/reckoner/reckoner/Bytes" "bytes" "[B" (.ref arr) ∧ Fld Z h a "com/example/reckoner/reckoner/Bytes" "length" "I" (.int (8 : Int32)) ∧ Arv Z h arr cc .byte (64 : Int32) [(.int v0), (.int v1), (.int v2), (.int v3), (.int (nar .byte (((p1.toUInt32 >>> ((24 : Int32) &&& 31).toUInt32).toInt32).toInt8.toInt32))), (.int (nar .byte (((p1.toUInt32 >>> ((16 : Int32) &&& 31).toUInt32).toInt32).toInt8.toInt32))), (.int (nar .byte (((p1.toUInt32 >>> ((8 : Int32) &&& 31).toUInt32).toInt32).toInt8.toInt32))), (.int (nar .byte (((p1.toUInt32 >>> ((0 : Int32) &&& 31).toUInt32).toInt32).toInt8.toInt32)))] (.int (0 : Int32))
set_option maxRecDepth 65536 in
set_option maxHeartbeats 40000000 in
theorem own_rmu4b (l : Launch) (Z : State) (a0 : Array Value) (hw : ∀ d ∈ tables_1, d.before a0 Z = true) (ws : List Jvm.Cond) (a : Addr) (p1 : Int32) (arr : Addr) (cc : ClassId) (v0 : Int32) (v1 : Int32) (v2 : Int32) (v3 : Int32) (v4 : Int32) (v5 : Int32) (v6 : Int32) (v7 : Int32) (h0 : Heap) (n0 : Nat) (Z0 : n0 ≤ h0.size) (Ea : Exa Z h0 a "com/example/reckoner/reckoner/Bytes") (F1 : Fld Z h0 a "com/example/reckoner/reckoner/Bytes" "bytes" "[B" (.ref arr)) (F2 : Fld Z h0 a "com/example/reckoner/reckoner/Bytes" "length" "I" (.int (4 : Int32))) (V0 : Arv Z h0 arr cc .byte (64 : Int32) [(.int v0), (.int v1), (.int v2), (.int v3), (.int v4), (.int v5), (.int v6), (.int v7)] (.int (0 : Int32))) (ga : n0 ≤ a) (gb : n0 ≤ arr) (hne : a ≠ arr) :
    MetFree l (⟨"com/example/reckoner/reckoner/Bytes", "u4", "(I)Lcom/example/reckoner/reckoner/Bytes;"⟩ : MethodName) (head1 (Jvm.Cond.code (⟨"com/example/reckoner/reckoner/Bytes", "u4", "(I)Lcom/example/reckoner/reckoner/Bytes;"⟩ : MethodName) prog_9_method_5_code 3 (some (.object "com/example/reckoner/reckoner/Bytes")) :: ws) ({ frames := 1, cells := 0, slots := 0, locals := 13 } : Room)) (fun aa U => aa = #[(.ref a), (.int p1)] ∧ Z.Warmed39 U.vm ∧ U.heap = h0) (fun _ _ _ _ _ => True) (fun _ U o U' => ∃ v L, o = .returned v ∧ own_Qu4b Z a p1 arr cc v0 v1 v2 v3 v4 v5 v6 v7 h0 n0 v U'.heap L ∧ FrameEnd U o U' L ({ frames := 1, cells := 0, slots := 0, locals := 13 } : Room).cells ({ frames := 1, cells := 0, slots := 0, locals := 13 } : Room).slots) := by
  refine MetFree.of_bodySF (plainFor_of_name own_pn0) hisR ?_
  intro p e s m args below meth c s₁ Bd hml0 hP hK
  obtain ⟨rfl, hZ, hh⟩ := hP
  have hx := Bd.exec
  have hby := Bd.bytes
  have hml : c.maxLocals = 3 := hml0
  have hown : s.vm.findClass "com/example/reckoner/reckoner/Bytes" = some m.cls := findClass_of_methodNamed Bd.named
  have hnm := (name_of_methodNamed Bd.named Bd.method).1
  have X0 : Stand p l e ({ frames := 1, cells := 0, slots := 0, locals := 13 } : Room) s m #[(.ref a), (.int p1)] below meth c s₁ [] 0 0 := Stand.of_body Bd
  have e0 : s₁.heap = h0 := by rw [← hh, Bd.state]; rfl
  have N0 := Fr.nil n0
  have pre0 : ∀ t, Steps p.tables e below (s₁.setTop (mkF m 0 #[.val (.ref a), .val (.int p1), .unset] [])) t → Steps p.tables e below (s₁.setTop (entryFrame m #[(.ref a), (.int p1)] 3)) t := fun t k => castTop (own_efu4b m a p1) k
  have k1 : ∀ t, Steps p.tables e below (s₁.setTop (mkF m 2 #[.val (.ref a), .val (.int p1), .unset] [(.int (4 : Int32)), (.ref a)])) t → Steps p.tables e below (s₁.setTop (entryFrame m #[(.ref a), (.int p1)] 3)) t := by
    intro t k
    refine pre0 t ?_
    show Steps p.tables e below (s₁.setTop (mkF m 0 #[.val (.ref a), .val (.int p1), .unset] [])) _
    refine XS.aloadN X0.here hx rfl (hb hby own_d4_0) rfl rfl ?_
    show Steps p.tables e below (s₁.setTop (mkF m 1 #[.val (.ref a), .val (.int p1), .unset] [(.ref a)])) _
    refine XS.iconst X0.here hx rfl (hb hby own_d4_1) ?_
    exact k
  obtain ⟨cq2, qa2x, qb2x⟩ := Ea.cell
  obtain ⟨_, _, ⟨T2, L2, k2c, n2⟩, -, X2, ⟨Lc2, hQ2, l2, y2, z2⟩, st2⟩ := X0.privateBack hx (y := (⟨"com/example/reckoner/reckoner/Bytes", "reserve", "(I)V"⟩ : MethodName)) hown (mvT hZ (hw _ (List.mem_of_getElem? (i := 22) rfl))) (mvT hZ (hw _ (List.mem_of_getElem? (i := 23) rfl))) (Jvm.Kit.selects_private (by decide) (mvT hZ (hw _ (List.mem_of_getElem? (i := 1) rfl))) (mvP hZ (hw _ (List.mem_of_getElem? (i := 24) rfl))) (mvT hZ (hw _ (List.mem_of_getElem? (i := 23) rfl)))) (Cond.privateMethod_at (mvP hZ (hw _ (List.mem_of_getElem? (i := 24) rfl)) (args := #[]))) (mvT hZ (hw _ (List.mem_of_getElem? (i := 25) rfl))) (by decide) (backOf (W := 0) (own_rmrs l Z a0 hw [] a (4 : Int32) (4 : Int32) arr cc v0 v1 v2 v3 v4 v5 v6 v7 h0 n0 Z0 F1 F2 V0 (by decide)) hZ (hw _ (List.mem_of_getElem? (i := 25) rfl)) (hw _ (List.mem_of_getElem? (i := 2) rfl)) (by decide) (by decide)) (g := (mkF m 2 #[.val (.ref a), .val (.int p1), .unset] [(.int (4 : Int32)), (.ref a)])) rfl (by rw [hml]; rfl) (Steps.refl _) (a := a) (by rw [e0]; exact qa2x) qb2x (argsL := [(.int (4 : Int32))]) (rest := []) (lenOf own_pd0 rfl) rfl (by show 2 * 0 + _ ≤ _; exact Nat.le_of_eq rfl) (hb hby own_d4_2) (fun _ _ => ⟨rfl, e0, (by decide : 0 + 0 ≤ _), (by decide : 0 + 0 ≤ _)⟩)
  dsimp only [Pt.U, Pt.locs, Pt.cells, Pt.slots] at X2 l2 y2 z2 st2 hQ2
  subst l2 y2 z2
  obtain ⟨rfl, N2q, e2⟩ := hQ2
  have N2 := Fr.app N0 N2q
  have k3 : ∀ t, Steps p.tables e below (T2.setTop (mkF m 5 #[.val (.ref a), .val (.int p1), .unset] [])) t → Steps p.tables e below (s₁.setTop (entryFrame m #[(.ref a), (.int p1)] 3)) t := fun t k => k1 t (st2.trans k)
  have k4 : ∀ t, Steps p.tables e below (T2.setTop (mkF m 13 #[.val (.ref a), .val (.int p1), .val (.int (24 : Int32))] [(.ref a)])) t → Steps p.tables e below (s₁.setTop (entryFrame m #[(.ref a), (.int p1)] 3)) t := by
    intro t k
    refine k3 t ?_
    show Steps p.tables e below (T2.setTop (mkF m 5 #[.val (.ref a), .val (.int p1), .unset] [])) _
    refine XS.bipush X2.here hx rfl (hb hby own_d4_5) ?_
    show Steps p.tables e below (T2.setTop (mkF m 7 #[.val (.ref a), .val (.int p1), .unset] [(.int (24 : Int32))])) _
    refine XS.istoreN X2.here hx rfl (hb hby own_d4_7) rfl (l' := #[.val (.ref a), .val (.int p1), .val (.int (24 : Int32))]) rfl ?_
    show Steps p.tables e below (T2.setTop (mkF m 8 #[.val (.ref a), .val (.int p1), .val (.int (24 : Int32))] [])) _
    refine XS.iloadN X2.here hx rfl (hb hby own_d4_8) rfl ?_
    show Steps p.tables e below (T2.setTop (mkF m 9 #[.val (.ref a), .val (.int p1), .val (.int (24 : Int32))] [(.int (24 : Int32))])) _
    refine XS.ifNo X2.here hx rfl (hb hby own_d4_9) rfl ((if0 _ _).trans (flt (by decide : ¬ ((24 : Int32) < (0 : Int32)))).1) ?_
    show Steps p.tables e below (T2.setTop (mkF m 12 #[.val (.ref a), .val (.int p1), .val (.int (24 : Int32))] [])) _
    refine XS.aloadN X2.here hx rfl (hb hby own_d4_12) rfl rfl ?_
    exact k
  obtain ⟨T5, X5, e5, st5⟩ := getF X2 hx hZ hown (host := "") (Or.inl (hw _ (List.mem_of_getElem? (i := 10) rfl))) Via.refl e2 F1 (g := (mkF m 13 #[.val (.ref a), .val (.int p1), .val (.int (24 : Int32))] [(.ref a)])) rfl rfl (hb hby own_d4_13)
  have k6 : ∀ t, Steps p.tables e below (T5.setTop (mkF m 16 #[.val (.ref a), .val (.int p1), .val (.int (24 : Int32))] [(.ref arr)])) t → Steps p.tables e below (s₁.setTop (entryFrame m #[(.ref a), (.int p1)] 3)) t := fun t k => k4 t (st5 t k)
  have k7 : ∀ t, Steps p.tables e below (T5.setTop (mkF m 18 #[.val (.ref a), .val (.int p1), .val (.int (24 : Int32))] [(.ref a), (.ref a), (.ref arr)])) t → Steps p.tables e below (s₁.setTop (entryFrame m #[(.ref a), (.int p1)] 3)) t := by
    intro t k
    refine k6 t ?_
    show Steps p.tables e below (T5.setTop (mkF m 16 #[.val (.ref a), .val (.int p1), .val (.int (24 : Int32))] [(.ref arr)])) _
    refine XS.aloadN X5.here hx rfl (hb hby own_d4_16) rfl rfl ?_
    show Steps p.tables e below (T5.setTop (mkF m 17 #[.val (.ref a), .val (.int p1), .val (.int (24 : Int32))] [(.ref a), (.ref arr)])) _
    refine XS.dup X5.here hx rfl (hb hby own_d4_17) rfl rfl ?_
    exact k
  obtain ⟨T8, X8, e8, st8⟩ := getF X5 hx hZ hown (host := "") (Or.inl (hw _ (List.mem_of_getElem? (i := 26) rfl))) Via.refl e5 F2 (g := (mkF m 18 #[.val (.ref a), .val (.int p1), .val (.int (24 : Int32))] [(.ref a), (.ref a), (.ref arr)])) rfl rfl (hb hby own_d4_18)
  have k9 : ∀ t, Steps p.tables e below (T8.setTop (mkF m 21 #[.val (.ref a), .val (.int p1), .val (.int (24 : Int32))] [(.int (4 : Int32)), (.ref a), (.ref arr)])) t → Steps p.tables e below (s₁.setTop (entryFrame m #[(.ref a), (.int p1)] 3)) t := fun t k => k7 t (st8 t k)
  have k10 : ∀ t, Steps p.tables e below (T8.setTop (mkF m 24 #[.val (.ref a), .val (.int p1), .val (.int (24 : Int32))] [(.int (5 : Int32)), (.ref a), (.int (4 : Int32)), (.ref arr)])) t → Steps p.tables e below (s₁.setTop (entryFrame m #[(.ref a), (.int p1)] 3)) t := by
    intro t k
    refine k9 t ?_
    show Steps p.tables e below (T8.setTop (mkF m 21 #[.val (.ref a), .val (.int p1), .val (.int (24 : Int32))] [(.int (4 : Int32)), (.ref a), (.ref arr)])) _
    refine XS.dupX1 X8.here hx rfl (hb hby own_d4_21) rfl rfl rfl ?_
    show Steps p.tables e below (T8.setTop (mkF m 22 #[.val (.ref a), .val (.int p1), .val (.int (24 : Int32))] [(.int (4 : Int32)), (.ref a), (.int (4 : Int32)), (.ref arr)])) _
    refine XS.iconst X8.here hx rfl (hb hby own_d4_22) ?_
    show Steps p.tables e below (T8.setTop (mkF m 23 #[.val (.ref a), .val (.int p1), .val (.int (24 : Int32))] [(.int (1 : Int32)), (.int (4 : Int32)), (.ref a), (.int (4 : Int32)), (.ref arr)])) _
    refine XS.iadd X8.here hx rfl (hb hby own_d4_23) rfl ?_
    exact k
  obtain ⟨T11, h11, X11, e11, W11, st11⟩ := putF X8 hx hZ hown (host := "") (Or.inl (hw _ (List.mem_of_getElem? (i := 26) rfl))) Via.refl e8 F2 Ea (Or.inl (hw _ (List.mem_of_getElem? (i := 27) rfl))) (hw _ (List.mem_of_getElem? (i := 1) rfl)) (ty := .int) (by decide) rfl rfl (g := (mkF m 24 #[.val (.ref a), .val (.int p1), .val (.int (24 : Int32))] [(.int (5 : Int32)), (.ref a), (.int (4 : Int32)), (.ref arr)])) rfl rfl (hb hby own_d4_24)
  have f12 := Ea.wr W11
  have f13 := F1.other W11 (Or.inr (slot_ne (Or.inl (hw _ (List.mem_of_getElem? (i := 11) rfl))) (Or.inl (hw _ (List.mem_of_getElem? (i := 27) rfl))) (by decide) (t := (.array .byte)) (t' := .int) (by decide) (by decide)))
  have f14 := V0.other W11 (Ne.symm hne)
  have f15 := F2.same W11
  have N11 := Fr.snoc X11 N2 ga
  have K11 : Keep h0 h11 [a, arr] := (Keep.refl h0 [a, arr]).wr W11 (Or.inl (List.mem_of_getElem? (i := 0) rfl))
  have Z11 : n0 ≤ h11.size := Nat.le_trans Z0 (Keep.of_wr W11).1
  have k16 : ∀ t, Steps p.tables e below (T11.setTop (mkF m 27 #[.val (.ref a), .val (.int p1), .val (.int (24 : Int32))] [(.int (4 : Int32)), (.ref arr)])) t → Steps p.tables e below (s₁.setTop (entryFrame m #[(.ref a), (.int p1)] 3)) t := fun t k => k10 t (st11 t k)
  have k17 : ∀ t, Steps p.tables e below (T11.setTop (mkF m 31 #[.val (.ref a), .val (.int p1), .val (.int (24 : Int32))] [(.int (((p1.toUInt32 >>> ((24 : Int32) &&& 31).toUInt32).toInt32).toInt8.toInt32)), (.int (4 : Int32)), (.ref arr)])) t → Steps p.tables e below (s₁.setTop (entryFrame m #[(.ref a), (.int p1)] 3)) t := by
    intro t k
    refine k16 t ?_
    show Steps p.tables e below (T11.setTop (mkF m 27 #[.val (.ref a), .val (.int p1), .val (.int (24 : Int32))] [(.int (4 : Int32)), (.ref arr)])) _
    refine XS.iloadN X11.here hx rfl (hb hby own_d4_27) rfl ?_
    show Steps p.tables e below (T11.setTop (mkF m 28 #[.val (.ref a), .val (.int p1), .val (.int (24 : Int32))] [(.int p1), (.int (4 : Int32)), (.ref arr)])) _
    refine XS.iloadN X11.here hx rfl (hb hby own_d4_28) rfl ?_
    show Steps p.tables e below (T11.setTop (mkF m 29 #[.val (.ref a), .val (.int p1), .val (.int (24 : Int32))] [(.int (24 : Int32)), (.int p1), (.int (4 : Int32)), (.ref arr)])) _
    refine XS.iushr X11.here hx rfl (hb hby own_d4_29) rfl ?_
    show Steps p.tables e below (T11.setTop (mkF m 30 #[.val (.ref a), .val (.int p1), .val (.int (24 : Int32))] [(.int ((p1.toUInt32 >>> ((24 : Int32) &&& 31).toUInt32).toInt32)), (.int (4 : Int32)), (.ref arr)])) _
    refine XS.i2b X11.here hx rfl (hb hby own_d4_30) rfl ?_
    exact k
  obtain ⟨cl18, Ar18, qa18, Sa18, Na18, Ha18, Ga18⟩ := id f14
  have hin19 : ¬ ((4 : Int32) < 0 ∨ cl18.slots.size ≤ ((4 : Int32)).toNatClampNeg) := inb_of Sa18 ⟨by decide, by decide⟩
  obtain ⟨T20, h20, X20, e20, W20, st20⟩ := stB X11 hx hZ e11 Ar18 (j := (4 : Int32)) hin19 (g := (mkF m 31 #[.val (.ref a), .val (.int p1), .val (.int (24 : Int32))] [(.int (((p1.toUInt32 >>> ((24 : Int32) &&& 31).toUInt32).toInt32).toInt8.toInt32)), (.int (4 : Int32)), (.ref arr)])) rfl rfl (hb hby own_d4_31)
  have f21 := f12.wr W20
  have f22 := f13.other W20 (Or.inl hne)
  have f23 := f15.other W20 (Or.inl hne)
  have V20 : Arv Z h20 arr cc .byte (64 : Int32) [(.int v0), (.int v1), (.int v2), (.int v3), (.int (nar .byte (((p1.toUInt32 >>> ((24 : Int32) &&& 31).toUInt32).toInt32).toInt8.toInt32))), (.int v5), (.int v6), (.int v7)] (.int (0 : Int32)) := Arv.set Ar18 qa18 Sa18 Na18 Ha18 Ga18 (fits_nar_byte _) W20 4 rfl (Nat.le_of_ble_eq_true rfl)
  have N20 := Fr.snoc X20 N11 gb
  have K20 : Keep h0 h20 [a, arr] := K11.wr W20 (Or.inl (List.mem_of_getElem? (i := 1) rfl))
  have Z20 : n0 ≤ h20.size := Nat.le_trans Z11 (Keep.of_wr W20).1
  have k24 : ∀ t, Steps p.tables e below (T20.setTop (mkF m 32 #[.val (.ref a), .val (.int p1), .val (.int (24 : Int32))] [])) t → Steps p.tables e below (s₁.setTop (entryFrame m #[(.ref a), (.int p1)] 3)) t := fun t k => k17 t (st20 t k)
  have k25 : ∀ t, Steps p.tables e below (T20.setTop (mkF m 13 #[.val (.ref a), .val (.int p1), .val (.int (16 : Int32))] [(.ref a)])) t → Steps p.tables e below (s₁.setTop (entryFrame m #[(.ref a), (.int p1)] 3)) t := by
    intro t k
    refine k24 t ?_
    show Steps p.tables e below (T20.setTop (mkF m 32 #[.val (.ref a), .val (.int p1), .val (.int (24 : Int32))] [])) _
    refine XS.iinc X20.here hx rfl (hb hby own_d4_32) rfl (l' := #[.val (.ref a), .val (.int p1), .val (.int (16 : Int32))]) rfl ?_
    show Steps p.tables e below (T20.setTop (mkF m 35 #[.val (.ref a), .val (.int p1), .val (.int (16 : Int32))] [])) _
    refine XS.goto X20.here hx rfl (pc0 := 35) (pc' := 8) rfl (hb hby own_d4_35) (by decide) (by decide) ?_
    show Steps p.tables e below (T20.setTop (mkF m 8 #[.val (.ref a), .val (.int p1), .val (.int (16 : Int32))] [])) _
    refine XS.iloadN X20.here hx rfl (hb hby own_d4_8) rfl ?_
    show Steps p.tables e below (T20.setTop (mkF m 9 #[.val (.ref a), .val (.int p1), .val (.int (16 : Int32))] [(.int (16 : Int32))])) _
    refine XS.ifNo X20.here hx rfl (hb hby own_d4_9) rfl ((if0 _ _).trans (flt (by decide : ¬ ((16 : Int32) < (0 : Int32)))).1) ?_
    show Steps p.tables e below (T20.setTop (mkF m 12 #[.val (.ref a), .val (.int p1), .val (.int (16 : Int32))] [])) _
    refine XS.aloadN X20.here hx rfl (hb hby own_d4_12) rfl rfl ?_
    exact k
  obtain ⟨T26, X26, e26, st26⟩ := getF X20 hx hZ hown (host := "") (Or.inl (hw _ (List.mem_of_getElem? (i := 10) rfl))) Via.refl e20 f22 (g := (mkF m 13 #[.val (.ref a), .val (.int p1), .val (.int (16 : Int32))] [(.ref a)])) rfl rfl (hb hby own_d4_13)
  have k27 : ∀ t, Steps p.tables e below (T26.setTop (mkF m 16 #[.val (.ref a), .val (.int p1), .val (.int (16 : Int32))] [(.ref arr)])) t → Steps p.tables e below (s₁.setTop (entryFrame m #[(.ref a), (.int p1)] 3)) t := fun t k => k25 t (st26 t k)
  have k28 : ∀ t, Steps p.tables e below (T26.setTop (mkF m 18 #[.val (.ref a), .val (.int p1), .val (.int (16 : Int32))] [(.ref a), (.ref a), (.ref arr)])) t → Steps p.tables e below (s₁.setTop (entryFrame m #[(.ref a), (.int p1)] 3)) t := by
    intro t k
    refine k27 t ?_
    show Steps p.tables e below (T26.setTop (mkF m 16 #[.val (.ref a), .val (.int p1), .val (.int (16 : Int32))] [(.ref arr)])) _
    refine XS.aloadN X26.here hx rfl (hb hby own_d4_16) rfl rfl ?_
    show Steps p.tables e below (T26.setTop (mkF m 17 #[.val (.ref a), .val (.int p1), .val (.int (16 : Int32))] [(.ref a), (.ref arr)])) _
    refine XS.dup X26.here hx rfl (hb hby own_d4_17) rfl rfl ?_
    exact k
  obtain ⟨T29, X29, e29, st29⟩ := getF X26 hx hZ hown (host := "") (Or.inl (hw _ (List.mem_of_getElem? (i := 26) rfl))) Via.refl e26 f23 (g := (mkF m 18 #[.val (.ref a), .val (.int p1), .val (.int (16 : Int32))] [(.ref a), (.ref a), (.ref arr)])) rfl rfl (hb hby own_d4_18)
  have k30 : ∀ t, Steps p.tables e below (T29.setTop (mkF m 21 #[.val (.ref a), .val (.int p1), .val (.int (16 : Int32))] [(.int (5 : Int32)), (.ref a), (.ref arr)])) t → Steps p.tables e below (s₁.setTop (entryFrame m #[(.ref a), (.int p1)] 3)) t := fun t k => k28 t (st29 t k)
  have k31 : ∀ t, Steps p.tables e below (T29.setTop (mkF m 24 #[.val (.ref a), .val (.int p1), .val (.int (16 : Int32))] [(.int (6 : Int32)), (.ref a), (.int (5 : Int32)), (.ref arr)])) t → Steps p.tables e below (s₁.setTop (entryFrame m #[(.ref a), (.int p1)] 3)) t := by
    intro t k
    refine k30 t ?_
    show Steps p.tables e below (T29.setTop (mkF m 21 #[.val (.ref a), .val (.int p1), .val (.int (16 : Int32))] [(.int (5 : Int32)), (.ref a), (.ref arr)])) _
    refine XS.dupX1 X29.here hx rfl (hb hby own_d4_21) rfl rfl rfl ?_
    show Steps p.tables e below (T29.setTop (mkF m 22 #[.val (.ref a), .val (.int p1), .val (.int (16 : Int32))] [(.int (5 : Int32)), (.ref a), (.int (5 : Int32)), (.ref arr)])) _
    refine XS.iconst X29.here hx rfl (hb hby own_d4_22) ?_
    show Steps p.tables e below (T29.setTop (mkF m 23 #[.val (.ref a), .val (.int p1), .val (.int (16 : Int32))] [(.int (1 : Int32)), (.int (5 : Int32)), (.ref a), (.int (5 : Int32)), (.ref arr)])) _
    refine XS.iadd X29.here hx rfl (hb hby own_d4_23) rfl ?_
    exact k
  obtain ⟨T32, h32, X32, e32, W32, st32⟩ := putF X29 hx hZ hown (host := "") (Or.inl (hw _ (List.mem_of_getElem? (i := 26) rfl))) Via.refl e29 f23 f21 (Or.inl (hw _ (List.mem_of_getElem? (i := 27) rfl))) (hw _ (List.mem_of_getElem? (i := 1) rfl)) (ty := .int) (by decide) rfl rfl (g := (mkF m 24 #[.val (.ref a), .val (.int p1), .val (.int (16 : Int32))] [(.int (6 : Int32)), (.ref a), (.int (5 : Int32)), (.ref arr)])) rfl rfl (hb hby own_d4_24)
  have f33 := f21.wr W32
  have f34 := f22.other W32 (Or.inr (slot_ne (Or.inl (hw _ (List.mem_of_getElem? (i := 11) rfl))) (Or.inl (hw _ (List.mem_of_getElem? (i := 27) rfl))) (by decide) (t := (.array .byte)) (t' := .int) (by decide) (by decide)))
  have f35 := V20.other W32 (Ne.symm hne)
  have f36 := f23.same W32
  have N32 := Fr.snoc X32 N20 ga
  have K32 : Keep h0 h32 [a, arr] := K20.wr W32 (Or.inl (List.mem_of_getElem? (i := 0) rfl))
  have Z32 : n0 ≤ h32.size := Nat.le_trans Z20 (Keep.of_wr W32).1
  have k37 : ∀ t, Steps p.tables e below (T32.setTop (mkF m 27 #[.val (.ref a), .val (.int p1), .val (.int (16 : Int32))] [(.int (5 : Int32)), (.ref arr)])) t → Steps p.tables e below (s₁.setTop (entryFrame m #[(.ref a), (.int p1)] 3)) t := fun t k => k31 t (st32 t k)
  have k38 : ∀ t, Steps p.tables e below (T32.setTop (mkF m 31 #[.val (.ref a), .val (.int p1), .val (.int (16 : Int32))] [(.int (((p1.toUInt32 >>> ((16 : Int32) &&& 31).toUInt32).toInt32).toInt8.toInt32)), (.int (5 : Int32)), (.ref arr)])) t → Steps p.tables e below (s₁.setTop (entryFrame m #[(.ref a), (.int p1)] 3)) t := by
    intro t k
    refine k37 t ?_
    show Steps p.tables e below (T32.setTop (mkF m 27 #[.val (.ref a), .val (.int p1), .val (.int (16 : Int32))] [(.int (5 : Int32)), (.ref arr)])) _
    refine XS.iloadN X32.here hx rfl (hb hby own_d4_27) rfl ?_
    show Steps p.tables e below (T32.setTop (mkF m 28 #[.val (.ref a), .val (.int p1), .val (.int (16 : Int32))] [(.int p1), (.int (5 : Int32)), (.ref arr)])) _
    refine XS.iloadN X32.here hx rfl (hb hby own_d4_28) rfl ?_
    show Steps p.tables e below (T32.setTop (mkF m 29 #[.val (.ref a), .val (.int p1), .val (.int (16 : Int32))] [(.int (16 : Int32)), (.int p1), (.int (5 : Int32)), (.ref arr)])) _
    refine XS.iushr X32.here hx rfl (hb hby own_d4_29) rfl ?_
    show Steps p.tables e below (T32.setTop (mkF m 30 #[.val (.ref a), .val (.int p1), .val (.int (16 : Int32))] [(.int ((p1.toUInt32 >>> ((16 : Int32) &&& 31).toUInt32).toInt32)), (.int (5 : Int32)), (.ref arr)])) _
    refine XS.i2b X32.here hx rfl (hb hby own_d4_30) rfl ?_
    exact k
  obtain ⟨cl39, Ar39, qa39, Sa39, Na39, Ha39, Ga39⟩ := id f35
  have hin40 : ¬ ((5 : Int32) < 0 ∨ cl39.slots.size ≤ ((5 : Int32)).toNatClampNeg) := inb_of Sa39 ⟨by decide, by decide⟩
  obtain ⟨T41, h41, X41, e41, W41, st41⟩ := stB X32 hx hZ e32 Ar39 (j := (5 : Int32)) hin40 (g := (mkF m 31 #[.val (.ref a), .val (.int p1), .val (.int (16 : Int32))] [(.int (((p1.toUInt32 >>> ((16 : Int32) &&& 31).toUInt32).toInt32).toInt8.toInt32)), (.int (5 : Int32)), (.ref arr)])) rfl rfl (hb hby own_d4_31)
  have f42 := f33.wr W41
  have f43 := f34.other W41 (Or.inl hne)
  have f44 := f36.other W41 (Or.inl hne)
  have V41 : Arv Z h41 arr cc .byte (64 : Int32) [(.int v0), (.int v1), (.int v2), (.int v3), (.int (nar .byte (((p1.toUInt32 >>> ((24 : Int32) &&& 31).toUInt32).toInt32).toInt8.toInt32))), (.int (nar .byte (((p1.toUInt32 >>> ((16 : Int32) &&& 31).toUInt32).toInt32).toInt8.toInt32))), (.int v6), (.int v7)] (.int (0 : Int32)) := Arv.set Ar39 qa39 Sa39 Na39 Ha39 Ga39 (fits_nar_byte _) W41 5 rfl (Nat.le_of_ble_eq_true rfl)
  have N41 := Fr.snoc X41 N32 gb
  have K41 : Keep h0 h41 [a, arr] := K32.wr W41 (Or.inl (List.mem_of_getElem? (i := 1) rfl))
  have Z41 : n0 ≤ h41.size := Nat.le_trans Z32 (Keep.of_wr W41).1
  have k45 : ∀ t, Steps p.tables e below (T41.setTop (mkF m 32 #[.val (.ref a), .val (.int p1), .val (.int (16 : Int32))] [])) t → Steps p.tables e below (s₁.setTop (entryFrame m #[(.ref a), (.int p1)] 3)) t := fun t k => k38 t (st41 t k)
  have k46 : ∀ t, Steps p.tables e below (T41.setTop (mkF m 13 #[.val (.ref a), .val (.int p1), .val (.int (8 : Int32))] [(.ref a)])) t → Steps p.tables e below (s₁.setTop (entryFrame m #[(.ref a), (.int p1)] 3)) t := by
    intro t k
    refine k45 t ?_
    show Steps p.tables e below (T41.setTop (mkF m 32 #[.val (.ref a), .val (.int p1), .val (.int (16 : Int32))] [])) _
    refine XS.iinc X41.here hx rfl (hb hby own_d4_32) rfl (l' := #[.val (.ref a), .val (.int p1), .val (.int (8 : Int32))]) rfl ?_
    show Steps p.tables e below (T41.setTop (mkF m 35 #[.val (.ref a), .val (.int p1), .val (.int (8 : Int32))] [])) _
    refine XS.goto X41.here hx rfl (pc0 := 35) (pc' := 8) rfl (hb hby own_d4_35) (by decide) (by decide) ?_
    show Steps p.tables e below (T41.setTop (mkF m 8 #[.val (.ref a), .val (.int p1), .val (.int (8 : Int32))] [])) _
    refine XS.iloadN X41.here hx rfl (hb hby own_d4_8) rfl ?_
    show Steps p.tables e below (T41.setTop (mkF m 9 #[.val (.ref a), .val (.int p1), .val (.int (8 : Int32))] [(.int (8 : Int32))])) _
    refine XS.ifNo X41.here hx rfl (hb hby own_d4_9) rfl ((if0 _ _).trans (flt (by decide : ¬ ((8 : Int32) < (0 : Int32)))).1) ?_
    show Steps p.tables e below (T41.setTop (mkF m 12 #[.val (.ref a), .val (.int p1), .val (.int (8 : Int32))] [])) _
    refine XS.aloadN X41.here hx rfl (hb hby own_d4_12) rfl rfl ?_
    exact k
  obtain ⟨T47, X47, e47, st47⟩ := getF X41 hx hZ hown (host := "") (Or.inl (hw _ (List.mem_of_getElem? (i := 10) rfl))) Via.refl e41 f43 (g := (mkF m 13 #[.val (.ref a), .val (.int p1), .val (.int (8 : Int32))] [(.ref a)])) rfl rfl (hb hby own_d4_13)
  have k48 : ∀ t, Steps p.tables e below (T47.setTop (mkF m 16 #[.val (.ref a), .val (.int p1), .val (.int (8 : Int32))] [(.ref arr)])) t → Steps p.tables e below (s₁.setTop (entryFrame m #[(.ref a), (.int p1)] 3)) t := fun t k => k46 t (st47 t k)
  have k49 : ∀ t, Steps p.tables e below (T47.setTop (mkF m 18 #[.val (.ref a), .val (.int p1), .val (.int (8 : Int32))] [(.ref a), (.ref a), (.ref arr)])) t → Steps p.tables e below (s₁.setTop (entryFrame m #[(.ref a), (.int p1)] 3)) t := by
    intro t k
    refine k48 t ?_
    show Steps p.tables e below (T47.setTop (mkF m 16 #[.val (.ref a), .val (.int p1), .val (.int (8 : Int32))] [(.ref arr)])) _
    refine XS.aloadN X47.here hx rfl (hb hby own_d4_16) rfl rfl ?_
    show Steps p.tables e below (T47.setTop (mkF m 17 #[.val (.ref a), .val (.int p1), .val (.int (8 : Int32))] [(.ref a), (.ref arr)])) _
    refine XS.dup X47.here hx rfl (hb hby own_d4_17) rfl rfl ?_
    exact k
  obtain ⟨T50, X50, e50, st50⟩ := getF X47 hx hZ hown (host := "") (Or.inl (hw _ (List.mem_of_getElem? (i := 26) rfl))) Via.refl e47 f44 (g := (mkF m 18 #[.val (.ref a), .val (.int p1), .val (.int (8 : Int32))] [(.ref a), (.ref a), (.ref arr)])) rfl rfl (hb hby own_d4_18)
  have k51 : ∀ t, Steps p.tables e below (T50.setTop (mkF m 21 #[.val (.ref a), .val (.int p1), .val (.int (8 : Int32))] [(.int (6 : Int32)), (.ref a), (.ref arr)])) t → Steps p.tables e below (s₁.setTop (entryFrame m #[(.ref a), (.int p1)] 3)) t := fun t k => k49 t (st50 t k)
  have k52 : ∀ t, Steps p.tables e below (T50.setTop (mkF m 24 #[.val (.ref a), .val (.int p1), .val (.int (8 : Int32))] [(.int (7 : Int32)), (.ref a), (.int (6 : Int32)), (.ref arr)])) t → Steps p.tables e below (s₁.setTop (entryFrame m #[(.ref a), (.int p1)] 3)) t := by
    intro t k
    refine k51 t ?_
    show Steps p.tables e below (T50.setTop (mkF m 21 #[.val (.ref a), .val (.int p1), .val (.int (8 : Int32))] [(.int (6 : Int32)), (.ref a), (.ref arr)])) _
    refine XS.dupX1 X50.here hx rfl (hb hby own_d4_21) rfl rfl rfl ?_
    show Steps p.tables e below (T50.setTop (mkF m 22 #[.val (.ref a), .val (.int p1), .val (.int (8 : Int32))] [(.int (6 : Int32)), (.ref a), (.int (6 : Int32)), (.ref arr)])) _
    refine XS.iconst X50.here hx rfl (hb hby own_d4_22) ?_
    show Steps p.tables e below (T50.setTop (mkF m 23 #[.val (.ref a), .val (.int p1), .val (.int (8 : Int32))] [(.int (1 : Int32)), (.int (6 : Int32)), (.ref a), (.int (6 : Int32)), (.ref arr)])) _
    refine XS.iadd X50.here hx rfl (hb hby own_d4_23) rfl ?_
    exact k
  obtain ⟨T53, h53, X53, e53, W53, st53⟩ := putF X50 hx hZ hown (host := "") (Or.inl (hw _ (List.mem_of_getElem? (i := 26) rfl))) Via.refl e50 f44 f42 (Or.inl (hw _ (List.mem_of_getElem? (i := 27) rfl))) (hw _ (List.mem_of_getElem? (i := 1) rfl)) (ty := .int) (by decide) rfl rfl (g := (mkF m 24 #[.val (.ref a), .val (.int p1), .val (.int (8 : Int32))] [(.int (7 : Int32)), (.ref a), (.int (6 : Int32)), (.ref arr)])) rfl rfl (hb hby own_d4_24)
  have f54 := f42.wr W53
  have f55 := f43.other W53 (Or.inr (slot_ne (Or.inl (hw _ (List.mem_of_getElem? (i := 11) rfl))) (Or.inl (hw _ (List.mem_of_getElem? (i := 27) rfl))) (by decide) (t := (.array .byte)) (t' := .int) (by decide) (by decide)))
  have f56 := V41.other W53 (Ne.symm hne)
  have f57 := f44.same W53
  have N53 := Fr.snoc X53 N41 ga
  have K53 : Keep h0 h53 [a, arr] := K41.wr W53 (Or.inl (List.mem_of_getElem? (i := 0) rfl))
  have Z53 : n0 ≤ h53.size := Nat.le_trans Z41 (Keep.of_wr W53).1
  have k58 : ∀ t, Steps p.tables e below (T53.setTop (mkF m 27 #[.val (.ref a), .val (.int p1), .val (.int (8 : Int32))] [(.int (6 : Int32)), (.ref arr)])) t → Steps p.tables e below (s₁.setTop (entryFrame m #[(.ref a), (.int p1)] 3)) t := fun t k => k52 t (st53 t k)
  have k59 : ∀ t, Steps p.tables e below (T53.setTop (mkF m 31 #[.val (.ref a), .val (.int p1), .val (.int (8 : Int32))] [(.int (((p1.toUInt32 >>> ((8 : Int32) &&& 31).toUInt32).toInt32).toInt8.toInt32)), (.int (6 : Int32)), (.ref arr)])) t → Steps p.tables e below (s₁.setTop (entryFrame m #[(.ref a), (.int p1)] 3)) t := by
    intro t k
    refine k58 t ?_
    show Steps p.tables e below (T53.setTop (mkF m 27 #[.val (.ref a), .val (.int p1), .val (.int (8 : Int32))] [(.int (6 : Int32)), (.ref arr)])) _
    refine XS.iloadN X53.here hx rfl (hb hby own_d4_27) rfl ?_
    show Steps p.tables e below (T53.setTop (mkF m 28 #[.val (.ref a), .val (.int p1), .val (.int (8 : Int32))] [(.int p1), (.int (6 : Int32)), (.ref arr)])) _
    refine XS.iloadN X53.here hx rfl (hb hby own_d4_28) rfl ?_
    show Steps p.tables e below (T53.setTop (mkF m 29 #[.val (.ref a), .val (.int p1), .val (.int (8 : Int32))] [(.int (8 : Int32)), (.int p1), (.int (6 : Int32)), (.ref arr)])) _
    refine XS.iushr X53.here hx rfl (hb hby own_d4_29) rfl ?_
    show Steps p.tables e below (T53.setTop (mkF m 30 #[.val (.ref a), .val (.int p1), .val (.int (8 : Int32))] [(.int ((p1.toUInt32 >>> ((8 : Int32) &&& 31).toUInt32).toInt32)), (.int (6 : Int32)), (.ref arr)])) _
    refine XS.i2b X53.here hx rfl (hb hby own_d4_30) rfl ?_
    exact k
  obtain ⟨cl60, Ar60, qa60, Sa60, Na60, Ha60, Ga60⟩ := id f56
  have hin61 : ¬ ((6 : Int32) < 0 ∨ cl60.slots.size ≤ ((6 : Int32)).toNatClampNeg) := inb_of Sa60 ⟨by decide, by decide⟩
  obtain ⟨T62, h62, X62, e62, W62, st62⟩ := stB X53 hx hZ e53 Ar60 (j := (6 : Int32)) hin61 (g := (mkF m 31 #[.val (.ref a), .val (.int p1), .val (.int (8 : Int32))] [(.int (((p1.toUInt32 >>> ((8 : Int32) &&& 31).toUInt32).toInt32).toInt8.toInt32)), (.int (6 : Int32)), (.ref arr)])) rfl rfl (hb hby own_d4_31)
  have f63 := f54.wr W62
  have f64 := f55.other W62 (Or.inl hne)
  have f65 := f57.other W62 (Or.inl hne)
  have V62 : Arv Z h62 arr cc .byte (64 : Int32) [(.int v0), (.int v1), (.int v2), (.int v3), (.int (nar .byte (((p1.toUInt32 >>> ((24 : Int32) &&& 31).toUInt32).toInt32).toInt8.toInt32))), (.int (nar .byte (((p1.toUInt32 >>> ((16 : Int32) &&& 31).toUInt32).toInt32).toInt8.toInt32))), (.int (nar .byte (((p1.toUInt32 >>> ((8 : Int32) &&& 31).toUInt32).toInt32).toInt8.toInt32))), (.int v7)] (.int (0 : Int32)) := Arv.set Ar60 qa60 Sa60 Na60 Ha60 Ga60 (fits_nar_byte _) W62 6 rfl (Nat.le_of_ble_eq_true rfl)
  have N62 := Fr.snoc X62 N53 gb
  have K62 : Keep h0 h62 [a, arr] := K53.wr W62 (Or.inl (List.mem_of_getElem? (i := 1) rfl))
  have Z62 : n0 ≤ h62.size := Nat.le_trans Z53 (Keep.of_wr W62).1
  have k66 : ∀ t, Steps p.tables e below (T62.setTop (mkF m 32 #[.val (.ref a), .val (.int p1), .val (.int (8 : Int32))] [])) t → Steps p.tables e below (s₁.setTop (entryFrame m #[(.ref a), (.int p1)] 3)) t := fun t k => k59 t (st62 t k)
  have k67 : ∀ t, Steps p.tables e below (T62.setTop (mkF m 13 #[.val (.ref a), .val (.int p1), .val (.int (0 : Int32))] [(.ref a)])) t → Steps p.tables e below (s₁.setTop (entryFrame m #[(.ref a), (.int p1)] 3)) t := by
    intro t k
    refine k66 t ?_
    show Steps p.tables e below (T62.setTop (mkF m 32 #[.val (.ref a), .val (.int p1), .val (.int (8 : Int32))] [])) _
    refine XS.iinc X62.here hx rfl (hb hby own_d4_32) rfl (l' := #[.val (.ref a), .val (.int p1), .val (.int (0 : Int32))]) rfl ?_
    show Steps p.tables e below (T62.setTop (mkF m 35 #[.val (.ref a), .val (.int p1), .val (.int (0 : Int32))] [])) _
    refine XS.goto X62.here hx rfl (pc0 := 35) (pc' := 8) rfl (hb hby own_d4_35) (by decide) (by decide) ?_
    show Steps p.tables e below (T62.setTop (mkF m 8 #[.val (.ref a), .val (.int p1), .val (.int (0 : Int32))] [])) _
    refine XS.iloadN X62.here hx rfl (hb hby own_d4_8) rfl ?_
    show Steps p.tables e below (T62.setTop (mkF m 9 #[.val (.ref a), .val (.int p1), .val (.int (0 : Int32))] [(.int (0 : Int32))])) _
    refine XS.ifNo X62.here hx rfl (hb hby own_d4_9) rfl ((if0 _ _).trans (flt (Int32.lt_irrefl : ¬ ((0 : Int32) < (0 : Int32)))).1) ?_
    show Steps p.tables e below (T62.setTop (mkF m 12 #[.val (.ref a), .val (.int p1), .val (.int (0 : Int32))] [])) _
    refine XS.aloadN X62.here hx rfl (hb hby own_d4_12) rfl rfl ?_
    exact k
  obtain ⟨T68, X68, e68, st68⟩ := getF X62 hx hZ hown (host := "") (Or.inl (hw _ (List.mem_of_getElem? (i := 10) rfl))) Via.refl e62 f64 (g := (mkF m 13 #[.val (.ref a), .val (.int p1), .val (.int (0 : Int32))] [(.ref a)])) rfl rfl (hb hby own_d4_13)
  have k69 : ∀ t, Steps p.tables e below (T68.setTop (mkF m 16 #[.val (.ref a), .val (.int p1), .val (.int (0 : Int32))] [(.ref arr)])) t → Steps p.tables e below (s₁.setTop (entryFrame m #[(.ref a), (.int p1)] 3)) t := fun t k => k67 t (st68 t k)
  have k70 : ∀ t, Steps p.tables e below (T68.setTop (mkF m 18 #[.val (.ref a), .val (.int p1), .val (.int (0 : Int32))] [(.ref a), (.ref a), (.ref arr)])) t → Steps p.tables e below (s₁.setTop (entryFrame m #[(.ref a), (.int p1)] 3)) t := by
    intro t k
    refine k69 t ?_
    show Steps p.tables e below (T68.setTop (mkF m 16 #[.val (.ref a), .val (.int p1), .val (.int (0 : Int32))] [(.ref arr)])) _
    refine XS.aloadN X68.here hx rfl (hb hby own_d4_16) rfl rfl ?_
    show Steps p.tables e below (T68.setTop (mkF m 17 #[.val (.ref a), .val (.int p1), .val (.int (0 : Int32))] [(.ref a), (.ref arr)])) _
    refine XS.dup X68.here hx rfl (hb hby own_d4_17) rfl rfl ?_
    exact k
  obtain ⟨T71, X71, e71, st71⟩ := getF X68 hx hZ hown (host := "") (Or.inl (hw _ (List.mem_of_getElem? (i := 26) rfl))) Via.refl e68 f65 (g := (mkF m 18 #[.val (.ref a), .val (.int p1), .val (.int (0 : Int32))] [(.ref a), (.ref a), (.ref arr)])) rfl rfl (hb hby own_d4_18)
  have k72 : ∀ t, Steps p.tables e below (T71.setTop (mkF m 21 #[.val (.ref a), .val (.int p1), .val (.int (0 : Int32))] [(.int (7 : Int32)), (.ref a), (.ref arr)])) t → Steps p.tables e below (s₁.setTop (entryFrame m #[(.ref a), (.int p1)] 3)) t := fun t k => k70 t (st71 t k)
  have k73 : ∀ t, Steps p.tables e below (T71.setTop (mkF m 24 #[.val (.ref a), .val (.int p1), .val (.int (0 : Int32))] [(.int (8 : Int32)), (.ref a), (.int (7 : Int32)), (.ref arr)])) t → Steps p.tables e below (s₁.setTop (entryFrame m #[(.ref a), (.int p1)] 3)) t := by
    intro t k
    refine k72 t ?_
    show Steps p.tables e below (T71.setTop (mkF m 21 #[.val (.ref a), .val (.int p1), .val (.int (0 : Int32))] [(.int (7 : Int32)), (.ref a), (.ref arr)])) _
    refine XS.dupX1 X71.here hx rfl (hb hby own_d4_21) rfl rfl rfl ?_
    show Steps p.tables e below (T71.setTop (mkF m 22 #[.val (.ref a), .val (.int p1), .val (.int (0 : Int32))] [(.int (7 : Int32)), (.ref a), (.int (7 : Int32)), (.ref arr)])) _
    refine XS.iconst X71.here hx rfl (hb hby own_d4_22) ?_
    show Steps p.tables e below (T71.setTop (mkF m 23 #[.val (.ref a), .val (.int p1), .val (.int (0 : Int32))] [(.int (1 : Int32)), (.int (7 : Int32)), (.ref a), (.int (7 : Int32)), (.ref arr)])) _
    refine XS.iadd X71.here hx rfl (hb hby own_d4_23) rfl ?_
    exact k
  obtain ⟨T74, h74, X74, e74, W74, st74⟩ := putF X71 hx hZ hown (host := "") (Or.inl (hw _ (List.mem_of_getElem? (i := 26) rfl))) Via.refl e71 f65 f63 (Or.inl (hw _ (List.mem_of_getElem? (i := 27) rfl))) (hw _ (List.mem_of_getElem? (i := 1) rfl)) (ty := .int) (by decide) rfl rfl (g := (mkF m 24 #[.val (.ref a), .val (.int p1), .val (.int (0 : Int32))] [(.int (8 : Int32)), (.ref a), (.int (7 : Int32)), (.ref arr)])) rfl rfl (hb hby own_d4_24)
  have f75 := f63.wr W74
  have f76 := f64.other W74 (Or.inr (slot_ne (Or.inl (hw _ (List.mem_of_getElem? (i := 11) rfl))) (Or.inl (hw _ (List.mem_of_getElem? (i := 27) rfl))) (by decide) (t := (.array .byte)) (t' := .int) (by decide) (by decide)))
  have f77 := V62.other W74 (Ne.symm hne)
  have f78 := f65.same W74
  have N74 := Fr.snoc X74 N62 ga
  have K74 : Keep h0 h74 [a, arr] := K62.wr W74 (Or.inl (List.mem_of_getElem? (i := 0) rfl))
  have Z74 : n0 ≤ h74.size := Nat.le_trans Z62 (Keep.of_wr W74).1
  have k79 : ∀ t, Steps p.tables e below (T74.setTop (mkF m 27 #[.val (.ref a), .val (.int p1), .val (.int (0 : Int32))] [(.int (7 : Int32)), (.ref arr)])) t → Steps p.tables e below (s₁.setTop (entryFrame m #[(.ref a), (.int p1)] 3)) t := fun t k => k73 t (st74 t k)
  have k80 : ∀ t, Steps p.tables e below (T74.setTop (mkF m 31 #[.val (.ref a), .val (.int p1), .val (.int (0 : Int32))] [(.int (((p1.toUInt32 >>> ((0 : Int32) &&& 31).toUInt32).toInt32).toInt8.toInt32)), (.int (7 : Int32)), (.ref arr)])) t → Steps p.tables e below (s₁.setTop (entryFrame m #[(.ref a), (.int p1)] 3)) t := by
    intro t k
    refine k79 t ?_
    show Steps p.tables e below (T74.setTop (mkF m 27 #[.val (.ref a), .val (.int p1), .val (.int (0 : Int32))] [(.int (7 : Int32)), (.ref arr)])) _
    refine XS.iloadN X74.here hx rfl (hb hby own_d4_27) rfl ?_
    show Steps p.tables e below (T74.setTop (mkF m 28 #[.val (.ref a), .val (.int p1), .val (.int (0 : Int32))] [(.int p1), (.int (7 : Int32)), (.ref arr)])) _
    refine XS.iloadN X74.here hx rfl (hb hby own_d4_28) rfl ?_
    show Steps p.tables e below (T74.setTop (mkF m 29 #[.val (.ref a), .val (.int p1), .val (.int (0 : Int32))] [(.int (0 : Int32)), (.int p1), (.int (7 : Int32)), (.ref arr)])) _
    refine XS.iushr X74.here hx rfl (hb hby own_d4_29) rfl ?_
    show Steps p.tables e below (T74.setTop (mkF m 30 #[.val (.ref a), .val (.int p1), .val (.int (0 : Int32))] [(.int ((p1.toUInt32 >>> ((0 : Int32) &&& 31).toUInt32).toInt32)), (.int (7 : Int32)), (.ref arr)])) _
    refine XS.i2b X74.here hx rfl (hb hby own_d4_30) rfl ?_
    exact k
  obtain ⟨cl81, Ar81, qa81, Sa81, Na81, Ha81, Ga81⟩ := id f77
  have hin82 : ¬ ((7 : Int32) < 0 ∨ cl81.slots.size ≤ ((7 : Int32)).toNatClampNeg) := inb_of Sa81 ⟨by decide, by decide⟩
  obtain ⟨T83, h83, X83, e83, W83, st83⟩ := stB X74 hx hZ e74 Ar81 (j := (7 : Int32)) hin82 (g := (mkF m 31 #[.val (.ref a), .val (.int p1), .val (.int (0 : Int32))] [(.int (((p1.toUInt32 >>> ((0 : Int32) &&& 31).toUInt32).toInt32).toInt8.toInt32)), (.int (7 : Int32)), (.ref arr)])) rfl rfl (hb hby own_d4_31)
  have f84 := f75.wr W83
  have f85 := f76.other W83 (Or.inl hne)
  have f86 := f78.other W83 (Or.inl hne)
  have V83 : Arv Z h83 arr cc .byte (64 : Int32) [(.int v0), (.int v1), (.int v2), (.int v3), (.int (nar .byte (((p1.toUInt32 >>> ((24 : Int32) &&& 31).toUInt32).toInt32).toInt8.toInt32))), (.int (nar .byte (((p1.toUInt32 >>> ((16 : Int32) &&& 31).toUInt32).toInt32).toInt8.toInt32))), (.int (nar .byte (((p1.toUInt32 >>> ((8 : Int32) &&& 31).toUInt32).toInt32).toInt8.toInt32))), (.int (nar .byte (((p1.toUInt32 >>> ((0 : Int32) &&& 31).toUInt32).toInt32).toInt8.toInt32)))] (.int (0 : Int32)) := Arv.set Ar81 qa81 Sa81 Na81 Ha81 Ga81 (fits_nar_byte _) W83 7 rfl (Nat.le_of_ble_eq_true rfl)
  have N83 := Fr.snoc X83 N74 gb
  have K83 : Keep h0 h83 [a, arr] := K74.wr W83 (Or.inl (List.mem_of_getElem? (i := 1) rfl))
  have Z83 : n0 ≤ h83.size := Nat.le_trans Z74 (Keep.of_wr W83).1
  have k87 : ∀ t, Steps p.tables e below (T83.setTop (mkF m 32 #[.val (.ref a), .val (.int p1), .val (.int (0 : Int32))] [])) t → Steps p.tables e below (s₁.setTop (entryFrame m #[(.ref a), (.int p1)] 3)) t := fun t k => k80 t (st83 t k)
  have k88 : ∀ t, Steps p.tables e below (T83.setTop (mkF m 39 #[.val (.ref a), .val (.int p1), .val (.int (-8 : Int32))] [(.ref a)])) t → Steps p.tables e below (s₁.setTop (entryFrame m #[(.ref a), (.int p1)] 3)) t := by
    intro t k
    refine k87 t ?_
    show Steps p.tables e below (T83.setTop (mkF m 32 #[.val (.ref a), .val (.int p1), .val (.int (0 : Int32))] [])) _
    refine XS.iinc X83.here hx rfl (hb hby own_d4_32) rfl (l' := #[.val (.ref a), .val (.int p1), .val (.int (-8 : Int32))]) rfl ?_
    show Steps p.tables e below (T83.setTop (mkF m 35 #[.val (.ref a), .val (.int p1), .val (.int (-8 : Int32))] [])) _
    refine XS.goto X83.here hx rfl (pc0 := 35) (pc' := 8) rfl (hb hby own_d4_35) (by decide) (by decide) ?_
    show Steps p.tables e below (T83.setTop (mkF m 8 #[.val (.ref a), .val (.int p1), .val (.int (-8 : Int32))] [])) _
    refine XS.iloadN X83.here hx rfl (hb hby own_d4_8) rfl ?_
    show Steps p.tables e below (T83.setTop (mkF m 9 #[.val (.ref a), .val (.int p1), .val (.int (-8 : Int32))] [(.int (-8 : Int32))])) _
    refine XS.ifYes X83.here hx rfl (pc0 := 9) (pc' := 38) rfl (hb hby own_d4_9) rfl ((if0 _ _).trans (tlt (by decide : (-8 : Int32) < (0 : Int32))).1) (by decide) (by decide) ?_
    show Steps p.tables e below (T83.setTop (mkF m 38 #[.val (.ref a), .val (.int p1), .val (.int (-8 : Int32))] [])) _
    refine XS.aloadN X83.here hx rfl (hb hby own_d4_38) rfl rfl ?_
    exact k
  obtain ⟨fs, hr, hrun, hended, hW, hsame⟩ := X83.leave (v := (some (.ref a))) (fun h => by rw [Bd.returns] at h; cases h)
  refine ⟨_, _, k88 _ ?_, hrun, hended, _, _, rfl, ?_, ⟨_, rfl⟩, hW, hsame.mono (by decide) (by decide)⟩
  · exact retOut X83 hx Bd.returns rfl (Or.inr (Or.inr (Or.inr (Or.inr ⟨rfl, rfl, rfl⟩)))) (hb hby own_d4_39) hr
  · show own_Qu4b Z a p1 arr cc v0 v1 v2 v3 v4 v5 v6 v7 h0 n0 _ T83.heap _
    rw [e83]
    exact ⟨rfl, N83, K83, f84, f85, f86, V83⟩
theorem own_d3_0 : decode prog_9_method_6_code 0 = .ok (.aload_n 0, 1) := by decide +kernel
theorem own_d3_1 : decode prog_9_method_6_code 1 = .ok (.lload_n 1, 1) := by decide +kernel
theorem own_d3_2 : decode prog_9_method_6_code 2 = .ok (.bipush 32, 2) := by decide +kernel
theorem own_d3_4 : decode prog_9_method_6_code 4 = .ok (.lushr, 1) := by decide +kernel
theorem own_d3_5 : decode prog_9_method_6_code 5 = .ok (.l2i, 1) := by decide +kernel
theorem own_d3_6 : decode prog_9_method_6_code 6 = .ok (.invokevirtual 21, 3) := by decide +kernel
theorem own_d3_9 : decode prog_9_method_6_code 9 = .ok (.pop, 1) := by decide +kernel
theorem own_d3_10 : decode prog_9_method_6_code 10 = .ok (.aload_n 0, 1) := by decide +kernel
theorem own_d3_11 : decode prog_9_method_6_code 11 = .ok (.lload_n 1, 1) := by decide +kernel
theorem own_d3_12 : decode prog_9_method_6_code 12 = .ok (.l2i, 1) := by decide +kernel
theorem own_d3_13 : decode prog_9_method_6_code 13 = .ok (.invokevirtual 21, 3) := by decide +kernel
theorem own_d3_16 : decode prog_9_method_6_code 16 = .ok (.areturn, 1) := by decide +kernel
theorem own_pd1 : parseMethodDescriptor "(I)Lcom/example/reckoner/reckoner/Bytes;" = some ⟨[.int], some (.object "com/example/reckoner/reckoner/Bytes")⟩ := by decide +kernel
theorem own_efu8 (m : MethodId) (x0 : Addr) (x1 : Int64) : entryFrame m #[(.ref x0), (.long x1)] 3 = mkF m 0 #[.val (.ref x0), .val (.long x1), .second] [] := by first | (simp [entryFrame, mkF, argsToLocals, Value.category]; done) | rfl
def own_Qu8 (Z : State) (a : Addr) (p1 : Int64) (arr : Addr) (cc : ClassId) (v0 : Int32) (v1 : Int32) (v2 : Int32) (v3 : Int32) (v4 : Int32) (v5 : Int32) (v6 : Int32) (v7 : Int32) (h0 : Heap) (n0 : Nat) (v : Option Value) (h : Heap) (L : List Loc) : Prop := v = some (.ref a) ∧ Fr n0 L ∧ Keep h0 h [a, arr] ∧ Exa Z h a "com/example/reckoner/reckoner/Bytes" ∧ Fld Z h a "com/example/reckoner/reckoner/Bytes" "bytes" "[B" (.ref arr) ∧ Fld Z h a "com/example/reckoner/reckoner/Bytes" "length" "I" (.int (8 : Int32)) ∧ Arv Z h arr cc .byte (64 : Int32) [(.int (nar .byte ((((((p1.toUInt64 >>> ((32 : Int32) &&& 0x3f).toInt64.toUInt64).toInt64).toInt32).toUInt32 >>> ((24 : Int32) &&& 31).toUInt32).toInt32).toInt8.toInt32))), (.int (nar .byte ((((((p1.toUInt64 >>> ((32 : Int32) &&& 0x3f).toInt64.toUInt64).toInt64).toInt32).toUInt32 >>> ((16 : Int32) &&& 31).toUInt32).toInt32).toInt8.toInt32))), (.int (nar .byte ((((((p1.toUInt64 >>> ((32 : Int32) &&& 0x3f).toInt64.toUInt64).toInt64).toInt32).toUInt32 >>> ((8 : Int32) &&& 31).toUInt32).toInt32).toInt8.toInt32))), (.int (nar .byte ((((((p1.toUInt64 >>> ((32 : Int32) &&& 0x3f).toInt64.toUInt64).toInt64).toInt32).toUInt32 >>> ((0 : Int32) &&& 31).toUInt32).toInt32).toInt8.toInt32))), (.int (nar .byte ((((p1.toInt32).toUInt32 >>> ((24 : Int32) &&& 31).toUInt32).toInt32).toInt8.toInt32))), (.int (nar .byte ((((p1.toInt32).toUInt32 >>> ((16 : Int32) &&& 31).toUInt32).toInt32).toInt8.toInt32))), (.int (nar .byte ((((p1.toInt32).toUInt32 >>> ((8 : Int32) &&& 31).toUInt32).toInt32).toInt8.toInt32))), (.int (nar .byte ((((p1.toInt32).toUInt32 >>> ((0 : Int32) &&& 31).toUInt32).toInt32).toInt8.toInt32)))] (.int (0 : Int32))
set_option maxRecDepth 65536 in
set_option maxHeartbeats 40000000 in
theorem own_rmu8 (l : Launch) (Z : State) (a0 : Array Value) (hw : ∀ d ∈ tables_1, d.before a0 Z = true) (ws : List Jvm.Cond) (a : Addr) (p1 : Int64) (arr : Addr) (cc : ClassId) (v0 : Int32) (v1 : Int32) (v2 : Int32) (v3 : Int32) (v4 : Int32) (v5 : Int32) (v6 : Int32) (v7 : Int32) (h0 : Heap) (n0 : Nat) (Z0 : n0 ≤ h0.size) (Ea : Exa Z h0 a "com/example/reckoner/reckoner/Bytes") (F1 : Fld Z h0 a "com/example/reckoner/reckoner/Bytes" "bytes" "[B" (.ref arr)) (F2 : Fld Z h0 a "com/example/reckoner/reckoner/Bytes" "length" "I" (.int (0 : Int32))) (V0 : Arv Z h0 arr cc .byte (64 : Int32) [(.int v0), (.int v1), (.int v2), (.int v3), (.int v4), (.int v5), (.int v6), (.int v7)] (.int (0 : Int32))) (ga : n0 ≤ a) (gb : n0 ≤ arr) (hne : a ≠ arr) :
    MetFree l (⟨"com/example/reckoner/reckoner/Bytes", "u8", "(J)Lcom/example/reckoner/reckoner/Bytes;"⟩ : MethodName) (head1 (Jvm.Cond.code (⟨"com/example/reckoner/reckoner/Bytes", "u8", "(J)Lcom/example/reckoner/reckoner/Bytes;"⟩ : MethodName) prog_9_method_6_code 3 (some (.object "com/example/reckoner/reckoner/Bytes")) :: ws) ({ frames := 2, cells := 0, slots := 0, locals := 27 } : Room)) (fun aa U => aa = #[(.ref a), (.long p1)] ∧ Z.Warmed39 U.vm ∧ U.heap = h0) (fun _ _ _ _ _ => True) (fun _ U o U' => ∃ v L, o = .returned v ∧ own_Qu8 Z a p1 arr cc v0 v1 v2 v3 v4 v5 v6 v7 h0 n0 v U'.heap L ∧ FrameEnd U o U' L ({ frames := 2, cells := 0, slots := 0, locals := 27 } : Room).cells ({ frames := 2, cells := 0, slots := 0, locals := 27 } : Room).slots) := by
  refine MetFree.of_bodySF (plainFor_of_name own_pn0) hisR ?_
  intro p e s m args below meth c s₁ Bd hml0 hP hK
  obtain ⟨rfl, hZ, hh⟩ := hP
  have hx := Bd.exec
  have hby := Bd.bytes
  have hml : c.maxLocals = 3 := hml0
  have hown : s.vm.findClass "com/example/reckoner/reckoner/Bytes" = some m.cls := findClass_of_methodNamed Bd.named
  have hnm := (name_of_methodNamed Bd.named Bd.method).1
  have X0 : Stand p l e ({ frames := 2, cells := 0, slots := 0, locals := 27 } : Room) s m #[(.ref a), (.long p1)] below meth c s₁ [] 0 0 := Stand.of_body Bd
  have e0 : s₁.heap = h0 := by rw [← hh, Bd.state]; rfl
  have N0 := Fr.nil n0
  have pre0 : ∀ t, Steps p.tables e below (s₁.setTop (mkF m 0 #[.val (.ref a), .val (.long p1), .second] [])) t → Steps p.tables e below (s₁.setTop (entryFrame m #[(.ref a), (.long p1)] 3)) t := fun t k => castTop (own_efu8 m a p1) k
  have k1 : ∀ t, Steps p.tables e below (s₁.setTop (mkF m 6 #[.val (.ref a), .val (.long p1), .second] [(.int (((p1.toUInt64 >>> ((32 : Int32) &&& 0x3f).toInt64.toUInt64).toInt64).toInt32)), (.ref a)])) t → Steps p.tables e below (s₁.setTop (entryFrame m #[(.ref a), (.long p1)] 3)) t := by
    intro t k
    refine pre0 t ?_
    show Steps p.tables e below (s₁.setTop (mkF m 0 #[.val (.ref a), .val (.long p1), .second] [])) _
    refine XS.aloadN X0.here hx rfl (hb hby own_d3_0) rfl rfl ?_
    show Steps p.tables e below (s₁.setTop (mkF m 1 #[.val (.ref a), .val (.long p1), .second] [(.ref a)])) _
    refine XS.lloadN X0.here hx rfl (hb hby own_d3_1) rfl ?_
    show Steps p.tables e below (s₁.setTop (mkF m 2 #[.val (.ref a), .val (.long p1), .second] [(.long p1), (.ref a)])) _
    refine XS.bipush X0.here hx rfl (hb hby own_d3_2) ?_
    show Steps p.tables e below (s₁.setTop (mkF m 4 #[.val (.ref a), .val (.long p1), .second] [(.int (32 : Int32)), (.long p1), (.ref a)])) _
    refine XS.lushr X0.here hx rfl (hb hby own_d3_4) rfl ?_
    show Steps p.tables e below (s₁.setTop (mkF m 5 #[.val (.ref a), .val (.long p1), .second] [(.long ((p1.toUInt64 >>> ((32 : Int32) &&& 0x3f).toInt64.toUInt64).toInt64)), (.ref a)])) _
    refine XS.l2i X0.here hx rfl (hb hby own_d3_5) rfl ?_
    exact k
  obtain ⟨cq2, kq2, q2a, q2b, q2c⟩ := isOf hZ e0 Ea
  obtain ⟨_, _, ⟨T2, L2, k2c, n2⟩, -, X2, ⟨Lc2, hQ2, l2, y2, z2⟩, st2⟩ := X0.virtualBack hx (y := (⟨"com/example/reckoner/reckoner/Bytes", "u4", "(I)Lcom/example/reckoner/reckoner/Bytes;"⟩ : MethodName)) (z := (⟨"com/example/reckoner/reckoner/Bytes", "u4", "(I)Lcom/example/reckoner/reckoner/Bytes;"⟩ : MethodName)) hown (mvT hZ (hw _ (List.mem_of_getElem? (i := 17) rfl))) (mvT hZ (hw _ (List.mem_of_getElem? (i := 18) rfl))) (notFace_of_selects (args := #[]) (mvT hZ (hw _ (List.mem_of_getElem? (i := 20) rfl)))) (mvT hZ (hw _ (List.mem_of_getElem? (i := 20) rfl))) (mvT hZ (hw _ (List.mem_of_getElem? (i := 19) rfl))) (by decide) (backOf (W := 0) (own_rmu4a l Z a0 hw [] a (((p1.toUInt64 >>> ((32 : Int32) &&& 0x3f).toInt64.toUInt64).toInt64).toInt32) arr cc v0 v1 v2 v3 v4 v5 v6 v7 h0 n0 Z0 Ea F1 F2 V0 ga gb hne) hZ (hw _ (List.mem_of_getElem? (i := 21) rfl)) (hw _ (List.mem_of_getElem? (i := 2) rfl)) (by decide) (by decide)) q2a q2c (g := (mkF m 6 #[.val (.ref a), .val (.long p1), .second] [(.int (((p1.toUInt64 >>> ((32 : Int32) &&& 0x3f).toInt64.toUInt64).toInt64).toInt32)), (.ref a)])) rfl (by rw [hml]; rfl) (Steps.refl _) (argsL := [(.int (((p1.toUInt64 >>> ((32 : Int32) &&& 0x3f).toInt64.toUInt64).toInt64).toInt32))]) (rest := []) (lenOf own_pd1 rfl) rfl (by show 2 * 0 + _ ≤ _; exact Nat.le_of_eq rfl) (hb hby own_d3_6) (fun _ _ => ⟨rfl, e0, (by decide : 0 + 0 ≤ _), (by decide : 0 + 0 ≤ _)⟩)
  dsimp only [Pt.U, Pt.locs, Pt.cells, Pt.slots] at X2 l2 y2 z2 st2 hQ2
  subst l2 y2 z2
  obtain ⟨rfl, N2q, Kq2, Eq2, Fa2, Fb2, Vq2⟩ := hQ2
  have N2 := Fr.app N0 N2q
  have Z2 : n0 ≤ T2.heap.size := Nat.le_trans Z0 Kq2.1
  have K2 : Keep h0 T2.heap [a, arr] := (Keep.refl h0 [a, arr]).trans Kq2 (fun x hx => by rcases List.mem_cons.mp hx with rfl | hx; exact Or.inl (List.mem_of_getElem? (i := 0) rfl); rcases List.mem_cons.mp hx with rfl | hx; exact Or.inl (List.mem_of_getElem? (i := 1) rfl); exact nomatch hx)
  have k3 : ∀ t, Steps p.tables e below (T2.setTop (mkF m 9 #[.val (.ref a), .val (.long p1), .second] [(.ref a)])) t → Steps p.tables e below (s₁.setTop (entryFrame m #[(.ref a), (.long p1)] 3)) t := fun t k => k1 t (st2.trans k)
  have k4 : ∀ t, Steps p.tables e below (T2.setTop (mkF m 13 #[.val (.ref a), .val (.long p1), .second] [(.int (p1.toInt32)), (.ref a)])) t → Steps p.tables e below (s₁.setTop (entryFrame m #[(.ref a), (.long p1)] 3)) t := by
    intro t k
    refine k3 t ?_
    show Steps p.tables e below (T2.setTop (mkF m 9 #[.val (.ref a), .val (.long p1), .second] [(.ref a)])) _
    refine XS.pop X2.here hx rfl (hb hby own_d3_9) rfl rfl ?_
    show Steps p.tables e below (T2.setTop (mkF m 10 #[.val (.ref a), .val (.long p1), .second] [])) _
    refine XS.aloadN X2.here hx rfl (hb hby own_d3_10) rfl rfl ?_
    show Steps p.tables e below (T2.setTop (mkF m 11 #[.val (.ref a), .val (.long p1), .second] [(.ref a)])) _
    refine XS.lloadN X2.here hx rfl (hb hby own_d3_11) rfl ?_
    show Steps p.tables e below (T2.setTop (mkF m 12 #[.val (.ref a), .val (.long p1), .second] [(.long p1), (.ref a)])) _
    refine XS.l2i X2.here hx rfl (hb hby own_d3_12) rfl ?_
    exact k
  obtain ⟨cq5, kq5, q5a, q5b, q5c⟩ := isOf hZ rfl Eq2
  obtain ⟨_, _, ⟨T5, L5, k5c, n5⟩, -, X5, ⟨Lc5, hQ5, l5, y5, z5⟩, st5⟩ := X2.virtualBack hx (y := (⟨"com/example/reckoner/reckoner/Bytes", "u4", "(I)Lcom/example/reckoner/reckoner/Bytes;"⟩ : MethodName)) (z := (⟨"com/example/reckoner/reckoner/Bytes", "u4", "(I)Lcom/example/reckoner/reckoner/Bytes;"⟩ : MethodName)) hown (mvT hZ (hw _ (List.mem_of_getElem? (i := 17) rfl))) (mvT hZ (hw _ (List.mem_of_getElem? (i := 18) rfl))) (notFace_of_selects (args := #[]) (mvT hZ (hw _ (List.mem_of_getElem? (i := 20) rfl)))) (mvT hZ (hw _ (List.mem_of_getElem? (i := 20) rfl))) (mvT hZ (hw _ (List.mem_of_getElem? (i := 19) rfl))) (by decide) (backOf (W := 0) (own_rmu4b l Z a0 hw [] a (p1.toInt32) arr cc (nar .byte ((((((p1.toUInt64 >>> ((32 : Int32) &&& 0x3f).toInt64.toUInt64).toInt64).toInt32).toUInt32 >>> ((24 : Int32) &&& 31).toUInt32).toInt32).toInt8.toInt32)) (nar .byte ((((((p1.toUInt64 >>> ((32 : Int32) &&& 0x3f).toInt64.toUInt64).toInt64).toInt32).toUInt32 >>> ((16 : Int32) &&& 31).toUInt32).toInt32).toInt8.toInt32)) (nar .byte ((((((p1.toUInt64 >>> ((32 : Int32) &&& 0x3f).toInt64.toUInt64).toInt64).toInt32).toUInt32 >>> ((8 : Int32) &&& 31).toUInt32).toInt32).toInt8.toInt32)) (nar .byte ((((((p1.toUInt64 >>> ((32 : Int32) &&& 0x3f).toInt64.toUInt64).toInt64).toInt32).toUInt32 >>> ((0 : Int32) &&& 31).toUInt32).toInt32).toInt8.toInt32)) v4 v5 v6 v7 T2.heap n0 Z2 Eq2 Fa2 Fb2 Vq2 ga gb hne) hZ (hw _ (List.mem_of_getElem? (i := 21) rfl)) (hw _ (List.mem_of_getElem? (i := 2) rfl)) (by decide) (by decide)) q5a q5c (g := (mkF m 13 #[.val (.ref a), .val (.long p1), .second] [(.int (p1.toInt32)), (.ref a)])) rfl (by rw [hml]; rfl) (Steps.refl _) (argsL := [(.int (p1.toInt32))]) (rest := []) (lenOf own_pd1 rfl) rfl (by show 2 * 0 + _ ≤ _; exact Nat.le_of_eq rfl) (hb hby own_d3_13) (fun _ _ => ⟨rfl, rfl, (by decide : 0 + 0 ≤ _), (by decide : 0 + 0 ≤ _)⟩)
  dsimp only [Pt.U, Pt.locs, Pt.cells, Pt.slots] at X5 l5 y5 z5 st5 hQ5
  subst l5 y5 z5
  obtain ⟨rfl, N5q, Kq5, Eq5, Fa5, Fb5, Vq5⟩ := hQ5
  have N5 := Fr.app N2 N5q
  have Z5 : n0 ≤ T5.heap.size := Nat.le_trans Z2 Kq5.1
  have K5 : Keep h0 T5.heap [a, arr] := K2.trans Kq5 (fun x hx => by rcases List.mem_cons.mp hx with rfl | hx; exact Or.inl (List.mem_of_getElem? (i := 0) rfl); rcases List.mem_cons.mp hx with rfl | hx; exact Or.inl (List.mem_of_getElem? (i := 1) rfl); exact nomatch hx)
  have k6 : ∀ t, Steps p.tables e below (T5.setTop (mkF m 16 #[.val (.ref a), .val (.long p1), .second] [(.ref a)])) t → Steps p.tables e below (s₁.setTop (entryFrame m #[(.ref a), (.long p1)] 3)) t := fun t k => k4 t (st5.trans k)
  obtain ⟨fs, hr, hrun, hended, hW, hsame⟩ := X5.leave (v := (some (.ref a))) (fun h => by rw [Bd.returns] at h; cases h)
  refine ⟨_, _, k6 _ ?_, hrun, hended, _, _, rfl, ?_, ⟨_, rfl⟩, hW, hsame.mono (by decide) (by decide)⟩
  · exact retOut X5 hx Bd.returns rfl (Or.inr (Or.inr (Or.inr (Or.inr ⟨rfl, rfl, rfl⟩)))) (hb hby own_d3_16) hr
  · show own_Qu8 Z a p1 arr cc v0 v1 v2 v3 v4 v5 v6 v7 h0 n0 _ T5.heap _
    exact ⟨rfl, N5, K5, Eq5, Fa5, Fb5, Vq5⟩
theorem own_d6_0 : decode prog_9_method_9_code 0 = .ok (.aload_n 0, 1) := by decide +kernel
theorem own_d6_1 : decode prog_9_method_9_code 1 = .ok (.getfield 7, 3) := by decide +kernel
theorem own_d6_4 : decode prog_9_method_9_code 4 = .ok (.iload_n 1, 1) := by decide +kernel
theorem own_d6_5 : decode prog_9_method_9_code 5 = .ok (.iload_n 2, 1) := by decide +kernel
theorem own_d6_6 : decode prog_9_method_9_code 6 = .ok (.bipush 8, 2) := by decide +kernel
theorem own_d6_8 : decode prog_9_method_9_code 8 = .ok (.iushr, 1) := by decide +kernel
theorem own_d6_9 : decode prog_9_method_9_code 9 = .ok (.i2b, 1) := by decide +kernel
theorem own_d6_10 : decode prog_9_method_9_code 10 = .ok (.bastore, 1) := by decide +kernel
theorem own_d6_11 : decode prog_9_method_9_code 11 = .ok (.aload_n 0, 1) := by decide +kernel
theorem own_d6_12 : decode prog_9_method_9_code 12 = .ok (.getfield 7, 3) := by decide +kernel
theorem own_d6_15 : decode prog_9_method_9_code 15 = .ok (.iload_n 1, 1) := by decide +kernel
theorem own_d6_16 : decode prog_9_method_9_code 16 = .ok (.iconst 1, 1) := by decide +kernel
theorem own_d6_17 : decode prog_9_method_9_code 17 = .ok (.iadd, 1) := by decide +kernel
theorem own_d6_18 : decode prog_9_method_9_code 18 = .ok (.iload_n 2, 1) := by decide +kernel
theorem own_d6_19 : decode prog_9_method_9_code 19 = .ok (.i2b, 1) := by decide +kernel
theorem own_d6_20 : decode prog_9_method_9_code 20 = .ok (.bastore, 1) := by decide +kernel
theorem own_d6_21 : decode prog_9_method_9_code 21 = .ok (.return_, 1) := by decide +kernel
theorem own_efsu0 (m : MethodId) (x0 : Addr) (x2 : Int32) : entryFrame m #[(.ref x0), (.int (0 : Int32)), (.int x2)] 3 = mkF m 0 #[.val (.ref x0), .val (.int (0 : Int32)), .val (.int x2)] [] := by first | (simp [entryFrame, mkF, argsToLocals, Value.category]; done) | rfl
def own_Qsu0 (Z : State) (a : Addr) (p2 : Int32) (w1 : Int32) (arr : Addr) (cc : ClassId) (v0 : Int32) (v1 : Int32) (v2 : Int32) (v3 : Int32) (v4 : Int32) (v5 : Int32) (v6 : Int32) (v7 : Int32) (h0 : Heap) (n0 : Nat) (v : Option Value) (h : Heap) (L : List Loc) : Prop := v = none ∧ Fr n0 L ∧ Keep h0 h [arr] ∧ Exa Z h a "com/example/reckoner/reckoner/Bytes" ∧ Fld Z h a "com/example/reckoner/reckoner/Bytes" "bytes" "[B" (.ref arr) ∧ Fld Z h a "com/example/reckoner/reckoner/Bytes" "length" "I" (.int w1) ∧ Arv Z h arr cc .byte (64 : Int32) [(.int (nar .byte (((p2.toUInt32 >>> ((8 : Int32) &&& 31).toUInt32).toInt32).toInt8.toInt32))), (.int (nar .byte (p2.toInt8.toInt32))), (.int v2), (.int v3), (.int v4), (.int v5), (.int v6), (.int v7)] (.int (0 : Int32))
set_option maxRecDepth 65536 in
set_option maxHeartbeats 40000000 in
theorem own_rmsu0 (l : Launch) (Z : State) (a0 : Array Value) (hw : ∀ d ∈ tables_1, d.before a0 Z = true) (ws : List Jvm.Cond) (a : Addr) (p2 : Int32) (w1 : Int32) (arr : Addr) (cc : ClassId) (v0 : Int32) (v1 : Int32) (v2 : Int32) (v3 : Int32) (v4 : Int32) (v5 : Int32) (v6 : Int32) (v7 : Int32) (h0 : Heap) (n0 : Nat) (Z0 : n0 ≤ h0.size) (Ea : Exa Z h0 a "com/example/reckoner/reckoner/Bytes") (F1 : Fld Z h0 a "com/example/reckoner/reckoner/Bytes" "bytes" "[B" (.ref arr)) (F2 : Fld Z h0 a "com/example/reckoner/reckoner/Bytes" "length" "I" (.int w1)) (V0 : Arv Z h0 arr cc .byte (64 : Int32) [(.int v0), (.int v1), (.int v2), (.int v3), (.int v4), (.int v5), (.int v6), (.int v7)] (.int (0 : Int32))) (ga : n0 ≤ a) (gb : n0 ≤ arr) (hne : a ≠ arr) :
    MetFree l (⟨"com/example/reckoner/reckoner/Bytes", "setU2", "(II)V"⟩ : MethodName) (head1 (Jvm.Cond.code (⟨"com/example/reckoner/reckoner/Bytes", "setU2", "(II)V"⟩ : MethodName) prog_9_method_9_code 3 none :: ws) ({ frames := 0, cells := 0, slots := 0, locals := 0 } : Room)) (fun aa U => aa = #[(.ref a), (.int (0 : Int32)), (.int p2)] ∧ Z.Warmed39 U.vm ∧ U.heap = h0) (fun _ _ _ _ _ => True) (fun _ U o U' => ∃ v L, o = .returned v ∧ own_Qsu0 Z a p2 w1 arr cc v0 v1 v2 v3 v4 v5 v6 v7 h0 n0 v U'.heap L ∧ FrameEnd U o U' L ({ frames := 0, cells := 0, slots := 0, locals := 0 } : Room).cells ({ frames := 0, cells := 0, slots := 0, locals := 0 } : Room).slots) := by
  refine MetFree.of_bodySF (plainFor_of_name own_pn0) hisR ?_
  intro p e s m args below meth c s₁ Bd hml0 hP hK
  obtain ⟨rfl, hZ, hh⟩ := hP
  have hx := Bd.exec
  have hby := Bd.bytes
  have hml : c.maxLocals = 3 := hml0
  have hown : s.vm.findClass "com/example/reckoner/reckoner/Bytes" = some m.cls := findClass_of_methodNamed Bd.named
  have hnm := (name_of_methodNamed Bd.named Bd.method).1
  have X0 : Stand p l e ({ frames := 0, cells := 0, slots := 0, locals := 0 } : Room) s m #[(.ref a), (.int (0 : Int32)), (.int p2)] below meth c s₁ [] 0 0 := Stand.of_body Bd
  have e0 : s₁.heap = h0 := by rw [← hh, Bd.state]; rfl
  have N0 := Fr.nil n0
  have pre0 : ∀ t, Steps p.tables e below (s₁.setTop (mkF m 0 #[.val (.ref a), .val (.int (0 : Int32)), .val (.int p2)] [])) t → Steps p.tables e below (s₁.setTop (entryFrame m #[(.ref a), (.int (0 : Int32)), (.int p2)] 3)) t := fun t k => castTop (own_efsu0 m a p2) k
  have k1 : ∀ t, Steps p.tables e below (s₁.setTop (mkF m 1 #[.val (.ref a), .val (.int (0 : Int32)), .val (.int p2)] [(.ref a)])) t → Steps p.tables e below (s₁.setTop (entryFrame m #[(.ref a), (.int (0 : Int32)), (.int p2)] 3)) t := by
    intro t k
    refine pre0 t ?_
    show Steps p.tables e below (s₁.setTop (mkF m 0 #[.val (.ref a), .val (.int (0 : Int32)), .val (.int p2)] [])) _
    refine XS.aloadN X0.here hx rfl (hb hby own_d6_0) rfl rfl ?_
    exact k
  obtain ⟨T2, X2, e2, st2⟩ := getF X0 hx hZ hown (host := "") (Or.inl (hw _ (List.mem_of_getElem? (i := 10) rfl))) Via.refl e0 F1 (g := (mkF m 1 #[.val (.ref a), .val (.int (0 : Int32)), .val (.int p2)] [(.ref a)])) rfl rfl (hb hby own_d6_1)
  have k3 : ∀ t, Steps p.tables e below (T2.setTop (mkF m 4 #[.val (.ref a), .val (.int (0 : Int32)), .val (.int p2)] [(.ref arr)])) t → Steps p.tables e below (s₁.setTop (entryFrame m #[(.ref a), (.int (0 : Int32)), (.int p2)] 3)) t := fun t k => k1 t (st2 t k)
  have k4 : ∀ t, Steps p.tables e below (T2.setTop (mkF m 10 #[.val (.ref a), .val (.int (0 : Int32)), .val (.int p2)] [(.int (((p2.toUInt32 >>> ((8 : Int32) &&& 31).toUInt32).toInt32).toInt8.toInt32)), (.int (0 : Int32)), (.ref arr)])) t → Steps p.tables e below (s₁.setTop (entryFrame m #[(.ref a), (.int (0 : Int32)), (.int p2)] 3)) t := by
    intro t k
    refine k3 t ?_
    show Steps p.tables e below (T2.setTop (mkF m 4 #[.val (.ref a), .val (.int (0 : Int32)), .val (.int p2)] [(.ref arr)])) _
    refine XS.iloadN X2.here hx rfl (hb hby own_d6_4) rfl ?_
    show Steps p.tables e below (T2.setTop (mkF m 5 #[.val (.ref a), .val (.int (0 : Int32)), .val (.int p2)] [(.int (0 : Int32)), (.ref arr)])) _
    refine XS.iloadN X2.here hx rfl (hb hby own_d6_5) rfl ?_
    show Steps p.tables e below (T2.setTop (mkF m 6 #[.val (.ref a), .val (.int (0 : Int32)), .val (.int p2)] [(.int p2), (.int (0 : Int32)), (.ref arr)])) _
    refine XS.bipush X2.here hx rfl (hb hby own_d6_6) ?_
    show Steps p.tables e below (T2.setTop (mkF m 8 #[.val (.ref a), .val (.int (0 : Int32)), .val (.int p2)] [(.int (8 : Int32)), (.int p2), (.int (0 : Int32)), (.ref arr)])) _
    refine XS.iushr X2.here hx rfl (hb hby own_d6_8) rfl ?_
    show Steps p.tables e below (T2.setTop (mkF m 9 #[.val (.ref a), .val (.int (0 : Int32)), .val (.int p2)] [(.int ((p2.toUInt32 >>> ((8 : Int32) &&& 31).toUInt32).toInt32)), (.int (0 : Int32)), (.ref arr)])) _
    refine XS.i2b X2.here hx rfl (hb hby own_d6_9) rfl ?_
    exact k
  obtain ⟨cl5, Ar5, qa5, Sa5, Na5, Ha5, Ga5⟩ := id V0
  have hin6 : ¬ ((0 : Int32) < 0 ∨ cl5.slots.size ≤ ((0 : Int32)).toNatClampNeg) := inb_of Sa5 ⟨by decide, by decide⟩
  obtain ⟨T7, h7, X7, e7, W7, st7⟩ := stB X2 hx hZ e2 Ar5 (j := (0 : Int32)) hin6 (g := (mkF m 10 #[.val (.ref a), .val (.int (0 : Int32)), .val (.int p2)] [(.int (((p2.toUInt32 >>> ((8 : Int32) &&& 31).toUInt32).toInt32).toInt8.toInt32)), (.int (0 : Int32)), (.ref arr)])) rfl rfl (hb hby own_d6_10)
  have f8 := Ea.wr W7
  have f9 := F1.other W7 (Or.inl hne)
  have f10 := F2.other W7 (Or.inl hne)
  have V7 : Arv Z h7 arr cc .byte (64 : Int32) [(.int (nar .byte (((p2.toUInt32 >>> ((8 : Int32) &&& 31).toUInt32).toInt32).toInt8.toInt32))), (.int v1), (.int v2), (.int v3), (.int v4), (.int v5), (.int v6), (.int v7)] (.int (0 : Int32)) := Arv.set Ar5 qa5 Sa5 Na5 Ha5 Ga5 (fits_nar_byte _) W7 0 rfl (Nat.le_of_ble_eq_true rfl)
  have N7 := Fr.snoc X7 N0 gb
  have K7 : Keep h0 h7 [arr] := (Keep.refl h0 [arr]).wr W7 (Or.inl (List.mem_of_getElem? (i := 0) rfl))
  have Z7 : n0 ≤ h7.size := Nat.le_trans Z0 (Keep.of_wr W7).1
  have k11 : ∀ t, Steps p.tables e below (T7.setTop (mkF m 11 #[.val (.ref a), .val (.int (0 : Int32)), .val (.int p2)] [])) t → Steps p.tables e below (s₁.setTop (entryFrame m #[(.ref a), (.int (0 : Int32)), (.int p2)] 3)) t := fun t k => k4 t (st7 t k)
  have k12 : ∀ t, Steps p.tables e below (T7.setTop (mkF m 12 #[.val (.ref a), .val (.int (0 : Int32)), .val (.int p2)] [(.ref a)])) t → Steps p.tables e below (s₁.setTop (entryFrame m #[(.ref a), (.int (0 : Int32)), (.int p2)] 3)) t := by
    intro t k
    refine k11 t ?_
    show Steps p.tables e below (T7.setTop (mkF m 11 #[.val (.ref a), .val (.int (0 : Int32)), .val (.int p2)] [])) _
    refine XS.aloadN X7.here hx rfl (hb hby own_d6_11) rfl rfl ?_
    exact k
  obtain ⟨T13, X13, e13, st13⟩ := getF X7 hx hZ hown (host := "") (Or.inl (hw _ (List.mem_of_getElem? (i := 10) rfl))) Via.refl e7 f9 (g := (mkF m 12 #[.val (.ref a), .val (.int (0 : Int32)), .val (.int p2)] [(.ref a)])) rfl rfl (hb hby own_d6_12)
  have k14 : ∀ t, Steps p.tables e below (T13.setTop (mkF m 15 #[.val (.ref a), .val (.int (0 : Int32)), .val (.int p2)] [(.ref arr)])) t → Steps p.tables e below (s₁.setTop (entryFrame m #[(.ref a), (.int (0 : Int32)), (.int p2)] 3)) t := fun t k => k12 t (st13 t k)
  have k15 : ∀ t, Steps p.tables e below (T13.setTop (mkF m 20 #[.val (.ref a), .val (.int (0 : Int32)), .val (.int p2)] [(.int (p2.toInt8.toInt32)), (.int (1 : Int32)), (.ref arr)])) t → Steps p.tables e below (s₁.setTop (entryFrame m #[(.ref a), (.int (0 : Int32)), (.int p2)] 3)) t := by
    intro t k
    refine k14 t ?_
    show Steps p.tables e below (T13.setTop (mkF m 15 #[.val (.ref a), .val (.int (0 : Int32)), .val (.int p2)] [(.ref arr)])) _
    refine XS.iloadN X13.here hx rfl (hb hby own_d6_15) rfl ?_
    show Steps p.tables e below (T13.setTop (mkF m 16 #[.val (.ref a), .val (.int (0 : Int32)), .val (.int p2)] [(.int (0 : Int32)), (.ref arr)])) _
    refine XS.iconst X13.here hx rfl (hb hby own_d6_16) ?_
    show Steps p.tables e below (T13.setTop (mkF m 17 #[.val (.ref a), .val (.int (0 : Int32)), .val (.int p2)] [(.int (1 : Int32)), (.int (0 : Int32)), (.ref arr)])) _
    refine XS.iadd X13.here hx rfl (hb hby own_d6_17) rfl ?_
    show Steps p.tables e below (T13.setTop (mkF m 18 #[.val (.ref a), .val (.int (0 : Int32)), .val (.int p2)] [(.int (1 : Int32)), (.ref arr)])) _
    refine XS.iloadN X13.here hx rfl (hb hby own_d6_18) rfl ?_
    show Steps p.tables e below (T13.setTop (mkF m 19 #[.val (.ref a), .val (.int (0 : Int32)), .val (.int p2)] [(.int p2), (.int (1 : Int32)), (.ref arr)])) _
    refine XS.i2b X13.here hx rfl (hb hby own_d6_19) rfl ?_
    exact k
  obtain ⟨cl16, Ar16, qa16, Sa16, Na16, Ha16, Ga16⟩ := id V7
  have hin17 : ¬ ((1 : Int32) < 0 ∨ cl16.slots.size ≤ ((1 : Int32)).toNatClampNeg) := inb_of Sa16 ⟨by decide, by decide⟩
  obtain ⟨T18, h18, X18, e18, W18, st18⟩ := stB X13 hx hZ e13 Ar16 (j := (1 : Int32)) hin17 (g := (mkF m 20 #[.val (.ref a), .val (.int (0 : Int32)), .val (.int p2)] [(.int (p2.toInt8.toInt32)), (.int (1 : Int32)), (.ref arr)])) rfl rfl (hb hby own_d6_20)
  have f19 := f8.wr W18
  have f20 := f9.other W18 (Or.inl hne)
  have f21 := f10.other W18 (Or.inl hne)
  have V18 : Arv Z h18 arr cc .byte (64 : Int32) [(.int (nar .byte (((p2.toUInt32 >>> ((8 : Int32) &&& 31).toUInt32).toInt32).toInt8.toInt32))), (.int (nar .byte (p2.toInt8.toInt32))), (.int v2), (.int v3), (.int v4), (.int v5), (.int v6), (.int v7)] (.int (0 : Int32)) := Arv.set Ar16 qa16 Sa16 Na16 Ha16 Ga16 (fits_nar_byte _) W18 1 rfl (Nat.le_of_ble_eq_true rfl)
  have N18 := Fr.snoc X18 N7 gb
  have K18 : Keep h0 h18 [arr] := K7.wr W18 (Or.inl (List.mem_of_getElem? (i := 0) rfl))
  have Z18 : n0 ≤ h18.size := Nat.le_trans Z7 (Keep.of_wr W18).1
  have k22 : ∀ t, Steps p.tables e below (T18.setTop (mkF m 21 #[.val (.ref a), .val (.int (0 : Int32)), .val (.int p2)] [])) t → Steps p.tables e below (s₁.setTop (entryFrame m #[(.ref a), (.int (0 : Int32)), (.int p2)] 3)) t := fun t k => k15 t (st18 t k)
  obtain ⟨fs, hr, hrun, hended, hW, hsame⟩ := X18.leave (v := none) (fun _ => rfl)
  refine ⟨_, _, k22 _ ?_, hrun, hended, _, _, rfl, ?_, ⟨_, rfl⟩, hW, hsame.mono (by decide) (by decide)⟩
  · exact X18.returnOut hx Bd.returns (hb hby own_d6_21) hr
  · show own_Qsu0 Z a p2 w1 arr cc v0 v1 v2 v3 v4 v5 v6 v7 h0 n0 _ T18.heap _
    rw [e18]
    exact ⟨rfl, N18, K18, f19, f20, f21, V18⟩
theorem own_efsu1 (m : MethodId) (x0 : Addr) (x2 : Int32) : entryFrame m #[(.ref x0), (.int (1 : Int32)), (.int x2)] 3 = mkF m 0 #[.val (.ref x0), .val (.int (1 : Int32)), .val (.int x2)] [] := by first | (simp [entryFrame, mkF, argsToLocals, Value.category]; done) | rfl
def own_Qsu1 (Z : State) (a : Addr) (p2 : Int32) (w1 : Int32) (arr : Addr) (cc : ClassId) (v0 : Int32) (v1 : Int32) (v2 : Int32) (v3 : Int32) (v4 : Int32) (v5 : Int32) (v6 : Int32) (v7 : Int32) (h0 : Heap) (n0 : Nat) (v : Option Value) (h : Heap) (L : List Loc) : Prop := v = none ∧ Fr n0 L ∧ Keep h0 h [arr] ∧ Exa Z h a "com/example/reckoner/reckoner/Bytes" ∧ Fld Z h a "com/example/reckoner/reckoner/Bytes" "bytes" "[B" (.ref arr) ∧ Fld Z h a "com/example/reckoner/reckoner/Bytes" "length" "I" (.int w1) ∧ Arv Z h arr cc .byte (64 : Int32) [(.int v0), (.int (nar .byte (((p2.toUInt32 >>> ((8 : Int32) &&& 31).toUInt32).toInt32).toInt8.toInt32))), (.int (nar .byte (p2.toInt8.toInt32))), (.int v3), (.int v4), (.int v5), (.int v6), (.int v7)] (.int (0 : Int32))
set_option maxRecDepth 65536 in
set_option maxHeartbeats 40000000 in
theorem own_rmsu1 (l : Launch) (Z : State) (a0 : Array Value) (hw : ∀ d ∈ tables_1, d.before a0 Z = true) (ws : List Jvm.Cond) (a : Addr) (p2 : Int32) (w1 : Int32) (arr : Addr) (cc : ClassId) (v0 : Int32) (v1 : Int32) (v2 : Int32) (v3 : Int32) (v4 : Int32) (v5 : Int32) (v6 : Int32) (v7 : Int32) (h0 : Heap) (n0 : Nat) (Z0 : n0 ≤ h0.size) (Ea : Exa Z h0 a "com/example/reckoner/reckoner/Bytes") (F1 : Fld Z h0 a "com/example/reckoner/reckoner/Bytes" "bytes" "[B" (.ref arr)) (F2 : Fld Z h0 a "com/example/reckoner/reckoner/Bytes" "length" "I" (.int w1)) (V0 : Arv Z h0 arr cc .byte (64 : Int32) [(.int v0), (.int v1), (.int v2), (.int v3), (.int v4), (.int v5), (.int v6), (.int v7)] (.int (0 : Int32))) (ga : n0 ≤ a) (gb : n0 ≤ arr) (hne : a ≠ arr) :
    MetFree l (⟨"com/example/reckoner/reckoner/Bytes", "setU2", "(II)V"⟩ : MethodName) (head1 (Jvm.Cond.code (⟨"com/example/reckoner/reckoner/Bytes", "setU2", "(II)V"⟩ : MethodName) prog_9_method_9_code 3 none :: ws) ({ frames := 0, cells := 0, slots := 0, locals := 0 } : Room)) (fun aa U => aa = #[(.ref a), (.int (1 : Int32)), (.int p2)] ∧ Z.Warmed39 U.vm ∧ U.heap = h0) (fun _ _ _ _ _ => True) (fun _ U o U' => ∃ v L, o = .returned v ∧ own_Qsu1 Z a p2 w1 arr cc v0 v1 v2 v3 v4 v5 v6 v7 h0 n0 v U'.heap L ∧ FrameEnd U o U' L ({ frames := 0, cells := 0, slots := 0, locals := 0 } : Room).cells ({ frames := 0, cells := 0, slots := 0, locals := 0 } : Room).slots) := by
  refine MetFree.of_bodySF (plainFor_of_name own_pn0) hisR ?_
  intro p e s m args below meth c s₁ Bd hml0 hP hK
  obtain ⟨rfl, hZ, hh⟩ := hP
  have hx := Bd.exec
  have hby := Bd.bytes
  have hml : c.maxLocals = 3 := hml0
  have hown : s.vm.findClass "com/example/reckoner/reckoner/Bytes" = some m.cls := findClass_of_methodNamed Bd.named
  have hnm := (name_of_methodNamed Bd.named Bd.method).1
  have X0 : Stand p l e ({ frames := 0, cells := 0, slots := 0, locals := 0 } : Room) s m #[(.ref a), (.int (1 : Int32)), (.int p2)] below meth c s₁ [] 0 0 := Stand.of_body Bd
  have e0 : s₁.heap = h0 := by rw [← hh, Bd.state]; rfl
  have N0 := Fr.nil n0
  have pre0 : ∀ t, Steps p.tables e below (s₁.setTop (mkF m 0 #[.val (.ref a), .val (.int (1 : Int32)), .val (.int p2)] [])) t → Steps p.tables e below (s₁.setTop (entryFrame m #[(.ref a), (.int (1 : Int32)), (.int p2)] 3)) t := fun t k => castTop (own_efsu1 m a p2) k
  have k1 : ∀ t, Steps p.tables e below (s₁.setTop (mkF m 1 #[.val (.ref a), .val (.int (1 : Int32)), .val (.int p2)] [(.ref a)])) t → Steps p.tables e below (s₁.setTop (entryFrame m #[(.ref a), (.int (1 : Int32)), (.int p2)] 3)) t := by
    intro t k
    refine pre0 t ?_
    show Steps p.tables e below (s₁.setTop (mkF m 0 #[.val (.ref a), .val (.int (1 : Int32)), .val (.int p2)] [])) _
    refine XS.aloadN X0.here hx rfl (hb hby own_d6_0) rfl rfl ?_
    exact k
  obtain ⟨T2, X2, e2, st2⟩ := getF X0 hx hZ hown (host := "") (Or.inl (hw _ (List.mem_of_getElem? (i := 10) rfl))) Via.refl e0 F1 (g := (mkF m 1 #[.val (.ref a), .val (.int (1 : Int32)), .val (.int p2)] [(.ref a)])) rfl rfl (hb hby own_d6_1)
  have k3 : ∀ t, Steps p.tables e below (T2.setTop (mkF m 4 #[.val (.ref a), .val (.int (1 : Int32)), .val (.int p2)] [(.ref arr)])) t → Steps p.tables e below (s₁.setTop (entryFrame m #[(.ref a), (.int (1 : Int32)), (.int p2)] 3)) t := fun t k => k1 t (st2 t k)
  have k4 : ∀ t, Steps p.tables e below (T2.setTop (mkF m 10 #[.val (.ref a), .val (.int (1 : Int32)), .val (.int p2)] [(.int (((p2.toUInt32 >>> ((8 : Int32) &&& 31).toUInt32).toInt32).toInt8.toInt32)), (.int (1 : Int32)), (.ref arr)])) t → Steps p.tables e below (s₁.setTop (entryFrame m #[(.ref a), (.int (1 : Int32)), (.int p2)] 3)) t := by
    intro t k
    refine k3 t ?_
    show Steps p.tables e below (T2.setTop (mkF m 4 #[.val (.ref a), .val (.int (1 : Int32)), .val (.int p2)] [(.ref arr)])) _
    refine XS.iloadN X2.here hx rfl (hb hby own_d6_4) rfl ?_
    show Steps p.tables e below (T2.setTop (mkF m 5 #[.val (.ref a), .val (.int (1 : Int32)), .val (.int p2)] [(.int (1 : Int32)), (.ref arr)])) _
    refine XS.iloadN X2.here hx rfl (hb hby own_d6_5) rfl ?_
    show Steps p.tables e below (T2.setTop (mkF m 6 #[.val (.ref a), .val (.int (1 : Int32)), .val (.int p2)] [(.int p2), (.int (1 : Int32)), (.ref arr)])) _
    refine XS.bipush X2.here hx rfl (hb hby own_d6_6) ?_
    show Steps p.tables e below (T2.setTop (mkF m 8 #[.val (.ref a), .val (.int (1 : Int32)), .val (.int p2)] [(.int (8 : Int32)), (.int p2), (.int (1 : Int32)), (.ref arr)])) _
    refine XS.iushr X2.here hx rfl (hb hby own_d6_8) rfl ?_
    show Steps p.tables e below (T2.setTop (mkF m 9 #[.val (.ref a), .val (.int (1 : Int32)), .val (.int p2)] [(.int ((p2.toUInt32 >>> ((8 : Int32) &&& 31).toUInt32).toInt32)), (.int (1 : Int32)), (.ref arr)])) _
    refine XS.i2b X2.here hx rfl (hb hby own_d6_9) rfl ?_
    exact k
  obtain ⟨cl5, Ar5, qa5, Sa5, Na5, Ha5, Ga5⟩ := id V0
  have hin6 : ¬ ((1 : Int32) < 0 ∨ cl5.slots.size ≤ ((1 : Int32)).toNatClampNeg) := inb_of Sa5 ⟨by decide, by decide⟩
  obtain ⟨T7, h7, X7, e7, W7, st7⟩ := stB X2 hx hZ e2 Ar5 (j := (1 : Int32)) hin6 (g := (mkF m 10 #[.val (.ref a), .val (.int (1 : Int32)), .val (.int p2)] [(.int (((p2.toUInt32 >>> ((8 : Int32) &&& 31).toUInt32).toInt32).toInt8.toInt32)), (.int (1 : Int32)), (.ref arr)])) rfl rfl (hb hby own_d6_10)
  have f8 := Ea.wr W7
  have f9 := F1.other W7 (Or.inl hne)
  have f10 := F2.other W7 (Or.inl hne)
  have V7 : Arv Z h7 arr cc .byte (64 : Int32) [(.int v0), (.int (nar .byte (((p2.toUInt32 >>> ((8 : Int32) &&& 31).toUInt32).toInt32).toInt8.toInt32))), (.int v2), (.int v3), (.int v4), (.int v5), (.int v6), (.int v7)] (.int (0 : Int32)) := Arv.set Ar5 qa5 Sa5 Na5 Ha5 Ga5 (fits_nar_byte _) W7 1 rfl (Nat.le_of_ble_eq_true rfl)
  have N7 := Fr.snoc X7 N0 gb
  have K7 : Keep h0 h7 [arr] := (Keep.refl h0 [arr]).wr W7 (Or.inl (List.mem_of_getElem? (i := 0) rfl))
  have Z7 : n0 ≤ h7.size := Nat.le_trans Z0 (Keep.of_wr W7).1
  have k11 : ∀ t, Steps p.tables e below (T7.setTop (mkF m 11 #[.val (.ref a), .val (.int (1 : Int32)), .val (.int p2)] [])) t → Steps p.tables e below (s₁.setTop (entryFrame m #[(.ref a), (.int (1 : Int32)), (.int p2)] 3)) t := fun t k => k4 t (st7 t k)
  have k12 : ∀ t, Steps p.tables e below (T7.setTop (mkF m 12 #[.val (.ref a), .val (.int (1 : Int32)), .val (.int p2)] [(.ref a)])) t → Steps p.tables e below (s₁.setTop (entryFrame m #[(.ref a), (.int (1 : Int32)), (.int p2)] 3)) t := by
    intro t k
    refine k11 t ?_
    show Steps p.tables e below (T7.setTop (mkF m 11 #[.val (.ref a), .val (.int (1 : Int32)), .val (.int p2)] [])) _
    refine XS.aloadN X7.here hx rfl (hb hby own_d6_11) rfl rfl ?_
    exact k
  obtain ⟨T13, X13, e13, st13⟩ := getF X7 hx hZ hown (host := "") (Or.inl (hw _ (List.mem_of_getElem? (i := 10) rfl))) Via.refl e7 f9 (g := (mkF m 12 #[.val (.ref a), .val (.int (1 : Int32)), .val (.int p2)] [(.ref a)])) rfl rfl (hb hby own_d6_12)
  have k14 : ∀ t, Steps p.tables e below (T13.setTop (mkF m 15 #[.val (.ref a), .val (.int (1 : Int32)), .val (.int p2)] [(.ref arr)])) t → Steps p.tables e below (s₁.setTop (entryFrame m #[(.ref a), (.int (1 : Int32)), (.int p2)] 3)) t := fun t k => k12 t (st13 t k)
  have k15 : ∀ t, Steps p.tables e below (T13.setTop (mkF m 20 #[.val (.ref a), .val (.int (1 : Int32)), .val (.int p2)] [(.int (p2.toInt8.toInt32)), (.int (2 : Int32)), (.ref arr)])) t → Steps p.tables e below (s₁.setTop (entryFrame m #[(.ref a), (.int (1 : Int32)), (.int p2)] 3)) t := by
    intro t k
    refine k14 t ?_
    show Steps p.tables e below (T13.setTop (mkF m 15 #[.val (.ref a), .val (.int (1 : Int32)), .val (.int p2)] [(.ref arr)])) _
    refine XS.iloadN X13.here hx rfl (hb hby own_d6_15) rfl ?_
    show Steps p.tables e below (T13.setTop (mkF m 16 #[.val (.ref a), .val (.int (1 : Int32)), .val (.int p2)] [(.int (1 : Int32)), (.ref arr)])) _
    refine XS.iconst X13.here hx rfl (hb hby own_d6_16) ?_
    show Steps p.tables e below (T13.setTop (mkF m 17 #[.val (.ref a), .val (.int (1 : Int32)), .val (.int p2)] [(.int (1 : Int32)), (.int (1 : Int32)), (.ref arr)])) _
    refine XS.iadd X13.here hx rfl (hb hby own_d6_17) rfl ?_
    show Steps p.tables e below (T13.setTop (mkF m 18 #[.val (.ref a), .val (.int (1 : Int32)), .val (.int p2)] [(.int (2 : Int32)), (.ref arr)])) _
    refine XS.iloadN X13.here hx rfl (hb hby own_d6_18) rfl ?_
    show Steps p.tables e below (T13.setTop (mkF m 19 #[.val (.ref a), .val (.int (1 : Int32)), .val (.int p2)] [(.int p2), (.int (2 : Int32)), (.ref arr)])) _
    refine XS.i2b X13.here hx rfl (hb hby own_d6_19) rfl ?_
    exact k
  obtain ⟨cl16, Ar16, qa16, Sa16, Na16, Ha16, Ga16⟩ := id V7
  have hin17 : ¬ ((2 : Int32) < 0 ∨ cl16.slots.size ≤ ((2 : Int32)).toNatClampNeg) := inb_of Sa16 ⟨by decide, by decide⟩
  obtain ⟨T18, h18, X18, e18, W18, st18⟩ := stB X13 hx hZ e13 Ar16 (j := (2 : Int32)) hin17 (g := (mkF m 20 #[.val (.ref a), .val (.int (1 : Int32)), .val (.int p2)] [(.int (p2.toInt8.toInt32)), (.int (2 : Int32)), (.ref arr)])) rfl rfl (hb hby own_d6_20)
  have f19 := f8.wr W18
  have f20 := f9.other W18 (Or.inl hne)
  have f21 := f10.other W18 (Or.inl hne)
  have V18 : Arv Z h18 arr cc .byte (64 : Int32) [(.int v0), (.int (nar .byte (((p2.toUInt32 >>> ((8 : Int32) &&& 31).toUInt32).toInt32).toInt8.toInt32))), (.int (nar .byte (p2.toInt8.toInt32))), (.int v3), (.int v4), (.int v5), (.int v6), (.int v7)] (.int (0 : Int32)) := Arv.set Ar16 qa16 Sa16 Na16 Ha16 Ga16 (fits_nar_byte _) W18 2 rfl (Nat.le_of_ble_eq_true rfl)
  have N18 := Fr.snoc X18 N7 gb
  have K18 : Keep h0 h18 [arr] := K7.wr W18 (Or.inl (List.mem_of_getElem? (i := 0) rfl))
  have Z18 : n0 ≤ h18.size := Nat.le_trans Z7 (Keep.of_wr W18).1
  have k22 : ∀ t, Steps p.tables e below (T18.setTop (mkF m 21 #[.val (.ref a), .val (.int (1 : Int32)), .val (.int p2)] [])) t → Steps p.tables e below (s₁.setTop (entryFrame m #[(.ref a), (.int (1 : Int32)), (.int p2)] 3)) t := fun t k => k15 t (st18 t k)
  obtain ⟨fs, hr, hrun, hended, hW, hsame⟩ := X18.leave (v := none) (fun _ => rfl)
  refine ⟨_, _, k22 _ ?_, hrun, hended, _, _, rfl, ?_, ⟨_, rfl⟩, hW, hsame.mono (by decide) (by decide)⟩
  · exact X18.returnOut hx Bd.returns (hb hby own_d6_21) hr
  · show own_Qsu1 Z a p2 w1 arr cc v0 v1 v2 v3 v4 v5 v6 v7 h0 n0 _ T18.heap _
    rw [e18]
    exact ⟨rfl, N18, K18, f19, f20, f21, V18⟩
theorem own_efsu2 (m : MethodId) (x0 : Addr) (x2 : Int32) : entryFrame m #[(.ref x0), (.int (2 : Int32)), (.int x2)] 3 = mkF m 0 #[.val (.ref x0), .val (.int (2 : Int32)), .val (.int x2)] [] := by first | (simp [entryFrame, mkF, argsToLocals, Value.category]; done) | rfl
def own_Qsu2 (Z : State) (a : Addr) (p2 : Int32) (w1 : Int32) (arr : Addr) (cc : ClassId) (v0 : Int32) (v1 : Int32) (v2 : Int32) (v3 : Int32) (v4 : Int32) (v5 : Int32) (v6 : Int32) (v7 : Int32) (h0 : Heap) (n0 : Nat) (v : Option Value) (h : Heap) (L : List Loc) : Prop := v = none ∧ Fr n0 L ∧ Keep h0 h [arr] ∧ Exa Z h a "com/example/reckoner/reckoner/Bytes" ∧ Fld Z h a "com/example/reckoner/reckoner/Bytes" "bytes" "[B" (.ref arr) ∧ Fld Z h a "com/example/reckoner/reckoner/Bytes" "length" "I" (.int w1) ∧ Arv Z h arr cc .byte (64 : Int32) [(.int v0), (.int v1), (.int (nar .byte (((p2.toUInt32 >>> ((8 : Int32) &&& 31).toUInt32).toInt32).toInt8.toInt32))), (.int (nar .byte (p2.toInt8.toInt32))), (.int v4), (.int v5), (.int v6), (.int v7)] (.int (0 : Int32))
set_option maxRecDepth 65536 in
set_option maxHeartbeats 40000000 in
theorem own_rmsu2 (l : Launch) (Z : State) (a0 : Array Value) (hw : ∀ d ∈ tables_1, d.before a0 Z = true) (ws : List Jvm.Cond) (a : Addr) (p2 : Int32) (w1 : Int32) (arr : Addr) (cc : ClassId) (v0 : Int32) (v1 : Int32) (v2 : Int32) (v3 : Int32) (v4 : Int32) (v5 : Int32) (v6 : Int32) (v7 : Int32) (h0 : Heap) (n0 : Nat) (Z0 : n0 ≤ h0.size) (Ea : Exa Z h0 a "com/example/reckoner/reckoner/Bytes") (F1 : Fld Z h0 a "com/example/reckoner/reckoner/Bytes" "bytes" "[B" (.ref arr)) (F2 : Fld Z h0 a "com/example/reckoner/reckoner/Bytes" "length" "I" (.int w1)) (V0 : Arv Z h0 arr cc .byte (64 : Int32) [(.int v0), (.int v1), (.int v2), (.int v3), (.int v4), (.int v5), (.int v6), (.int v7)] (.int (0 : Int32))) (ga : n0 ≤ a) (gb : n0 ≤ arr) (hne : a ≠ arr) :
    MetFree l (⟨"com/example/reckoner/reckoner/Bytes", "setU2", "(II)V"⟩ : MethodName) (head1 (Jvm.Cond.code (⟨"com/example/reckoner/reckoner/Bytes", "setU2", "(II)V"⟩ : MethodName) prog_9_method_9_code 3 none :: ws) ({ frames := 0, cells := 0, slots := 0, locals := 0 } : Room)) (fun aa U => aa = #[(.ref a), (.int (2 : Int32)), (.int p2)] ∧ Z.Warmed39 U.vm ∧ U.heap = h0) (fun _ _ _ _ _ => True) (fun _ U o U' => ∃ v L, o = .returned v ∧ own_Qsu2 Z a p2 w1 arr cc v0 v1 v2 v3 v4 v5 v6 v7 h0 n0 v U'.heap L ∧ FrameEnd U o U' L ({ frames := 0, cells := 0, slots := 0, locals := 0 } : Room).cells ({ frames := 0, cells := 0, slots := 0, locals := 0 } : Room).slots) := by
  refine MetFree.of_bodySF (plainFor_of_name own_pn0) hisR ?_
  intro p e s m args below meth c s₁ Bd hml0 hP hK
  obtain ⟨rfl, hZ, hh⟩ := hP
  have hx := Bd.exec
  have hby := Bd.bytes
  have hml : c.maxLocals = 3 := hml0
  have hown : s.vm.findClass "com/example/reckoner/reckoner/Bytes" = some m.cls := findClass_of_methodNamed Bd.named
  have hnm := (name_of_methodNamed Bd.named Bd.method).1
  have X0 : Stand p l e ({ frames := 0, cells := 0, slots := 0, locals := 0 } : Room) s m #[(.ref a), (.int (2 : Int32)), (.int p2)] below meth c s₁ [] 0 0 := Stand.of_body Bd
  have e0 : s₁.heap = h0 := by rw [← hh, Bd.state]; rfl
  have N0 := Fr.nil n0
  have pre0 : ∀ t, Steps p.tables e below (s₁.setTop (mkF m 0 #[.val (.ref a), .val (.int (2 : Int32)), .val (.int p2)] [])) t → Steps p.tables e below (s₁.setTop (entryFrame m #[(.ref a), (.int (2 : Int32)), (.int p2)] 3)) t := fun t k => castTop (own_efsu2 m a p2) k
  have k1 : ∀ t, Steps p.tables e below (s₁.setTop (mkF m 1 #[.val (.ref a), .val (.int (2 : Int32)), .val (.int p2)] [(.ref a)])) t → Steps p.tables e below (s₁.setTop (entryFrame m #[(.ref a), (.int (2 : Int32)), (.int p2)] 3)) t := by
    intro t k
    refine pre0 t ?_
    show Steps p.tables e below (s₁.setTop (mkF m 0 #[.val (.ref a), .val (.int (2 : Int32)), .val (.int p2)] [])) _
    refine XS.aloadN X0.here hx rfl (hb hby own_d6_0) rfl rfl ?_
    exact k
  obtain ⟨T2, X2, e2, st2⟩ := getF X0 hx hZ hown (host := "") (Or.inl (hw _ (List.mem_of_getElem? (i := 10) rfl))) Via.refl e0 F1 (g := (mkF m 1 #[.val (.ref a), .val (.int (2 : Int32)), .val (.int p2)] [(.ref a)])) rfl rfl (hb hby own_d6_1)
  have k3 : ∀ t, Steps p.tables e below (T2.setTop (mkF m 4 #[.val (.ref a), .val (.int (2 : Int32)), .val (.int p2)] [(.ref arr)])) t → Steps p.tables e below (s₁.setTop (entryFrame m #[(.ref a), (.int (2 : Int32)), (.int p2)] 3)) t := fun t k => k1 t (st2 t k)
  have k4 : ∀ t, Steps p.tables e below (T2.setTop (mkF m 10 #[.val (.ref a), .val (.int (2 : Int32)), .val (.int p2)] [(.int (((p2.toUInt32 >>> ((8 : Int32) &&& 31).toUInt32).toInt32).toInt8.toInt32)), (.int (2 : Int32)), (.ref arr)])) t → Steps p.tables e below (s₁.setTop (entryFrame m #[(.ref a), (.int (2 : Int32)), (.int p2)] 3)) t := by
    intro t k
    refine k3 t ?_
    show Steps p.tables e below (T2.setTop (mkF m 4 #[.val (.ref a), .val (.int (2 : Int32)), .val (.int p2)] [(.ref arr)])) _
    refine XS.iloadN X2.here hx rfl (hb hby own_d6_4) rfl ?_
    show Steps p.tables e below (T2.setTop (mkF m 5 #[.val (.ref a), .val (.int (2 : Int32)), .val (.int p2)] [(.int (2 : Int32)), (.ref arr)])) _
    refine XS.iloadN X2.here hx rfl (hb hby own_d6_5) rfl ?_
    show Steps p.tables e below (T2.setTop (mkF m 6 #[.val (.ref a), .val (.int (2 : Int32)), .val (.int p2)] [(.int p2), (.int (2 : Int32)), (.ref arr)])) _
    refine XS.bipush X2.here hx rfl (hb hby own_d6_6) ?_
    show Steps p.tables e below (T2.setTop (mkF m 8 #[.val (.ref a), .val (.int (2 : Int32)), .val (.int p2)] [(.int (8 : Int32)), (.int p2), (.int (2 : Int32)), (.ref arr)])) _
    refine XS.iushr X2.here hx rfl (hb hby own_d6_8) rfl ?_
    show Steps p.tables e below (T2.setTop (mkF m 9 #[.val (.ref a), .val (.int (2 : Int32)), .val (.int p2)] [(.int ((p2.toUInt32 >>> ((8 : Int32) &&& 31).toUInt32).toInt32)), (.int (2 : Int32)), (.ref arr)])) _
    refine XS.i2b X2.here hx rfl (hb hby own_d6_9) rfl ?_
    exact k
  obtain ⟨cl5, Ar5, qa5, Sa5, Na5, Ha5, Ga5⟩ := id V0
  have hin6 : ¬ ((2 : Int32) < 0 ∨ cl5.slots.size ≤ ((2 : Int32)).toNatClampNeg) := inb_of Sa5 ⟨by decide, by decide⟩
  obtain ⟨T7, h7, X7, e7, W7, st7⟩ := stB X2 hx hZ e2 Ar5 (j := (2 : Int32)) hin6 (g := (mkF m 10 #[.val (.ref a), .val (.int (2 : Int32)), .val (.int p2)] [(.int (((p2.toUInt32 >>> ((8 : Int32) &&& 31).toUInt32).toInt32).toInt8.toInt32)), (.int (2 : Int32)), (.ref arr)])) rfl rfl (hb hby own_d6_10)
  have f8 := Ea.wr W7
  have f9 := F1.other W7 (Or.inl hne)
  have f10 := F2.other W7 (Or.inl hne)
  have V7 : Arv Z h7 arr cc .byte (64 : Int32) [(.int v0), (.int v1), (.int (nar .byte (((p2.toUInt32 >>> ((8 : Int32) &&& 31).toUInt32).toInt32).toInt8.toInt32))), (.int v3), (.int v4), (.int v5), (.int v6), (.int v7)] (.int (0 : Int32)) := Arv.set Ar5 qa5 Sa5 Na5 Ha5 Ga5 (fits_nar_byte _) W7 2 rfl (Nat.le_of_ble_eq_true rfl)
  have N7 := Fr.snoc X7 N0 gb
  have K7 : Keep h0 h7 [arr] := (Keep.refl h0 [arr]).wr W7 (Or.inl (List.mem_of_getElem? (i := 0) rfl))
  have Z7 : n0 ≤ h7.size := Nat.le_trans Z0 (Keep.of_wr W7).1
  have k11 : ∀ t, Steps p.tables e below (T7.setTop (mkF m 11 #[.val (.ref a), .val (.int (2 : Int32)), .val (.int p2)] [])) t → Steps p.tables e below (s₁.setTop (entryFrame m #[(.ref a), (.int (2 : Int32)), (.int p2)] 3)) t := fun t k => k4 t (st7 t k)
  have k12 : ∀ t, Steps p.tables e below (T7.setTop (mkF m 12 #[.val (.ref a), .val (.int (2 : Int32)), .val (.int p2)] [(.ref a)])) t → Steps p.tables e below (s₁.setTop (entryFrame m #[(.ref a), (.int (2 : Int32)), (.int p2)] 3)) t := by
    intro t k
    refine k11 t ?_
    show Steps p.tables e below (T7.setTop (mkF m 11 #[.val (.ref a), .val (.int (2 : Int32)), .val (.int p2)] [])) _
    refine XS.aloadN X7.here hx rfl (hb hby own_d6_11) rfl rfl ?_
    exact k
  obtain ⟨T13, X13, e13, st13⟩ := getF X7 hx hZ hown (host := "") (Or.inl (hw _ (List.mem_of_getElem? (i := 10) rfl))) Via.refl e7 f9 (g := (mkF m 12 #[.val (.ref a), .val (.int (2 : Int32)), .val (.int p2)] [(.ref a)])) rfl rfl (hb hby own_d6_12)
  have k14 : ∀ t, Steps p.tables e below (T13.setTop (mkF m 15 #[.val (.ref a), .val (.int (2 : Int32)), .val (.int p2)] [(.ref arr)])) t → Steps p.tables e below (s₁.setTop (entryFrame m #[(.ref a), (.int (2 : Int32)), (.int p2)] 3)) t := fun t k => k12 t (st13 t k)
  have k15 : ∀ t, Steps p.tables e below (T13.setTop (mkF m 20 #[.val (.ref a), .val (.int (2 : Int32)), .val (.int p2)] [(.int (p2.toInt8.toInt32)), (.int (3 : Int32)), (.ref arr)])) t → Steps p.tables e below (s₁.setTop (entryFrame m #[(.ref a), (.int (2 : Int32)), (.int p2)] 3)) t := by
    intro t k
    refine k14 t ?_
    show Steps p.tables e below (T13.setTop (mkF m 15 #[.val (.ref a), .val (.int (2 : Int32)), .val (.int p2)] [(.ref arr)])) _
    refine XS.iloadN X13.here hx rfl (hb hby own_d6_15) rfl ?_
    show Steps p.tables e below (T13.setTop (mkF m 16 #[.val (.ref a), .val (.int (2 : Int32)), .val (.int p2)] [(.int (2 : Int32)), (.ref arr)])) _
    refine XS.iconst X13.here hx rfl (hb hby own_d6_16) ?_
    show Steps p.tables e below (T13.setTop (mkF m 17 #[.val (.ref a), .val (.int (2 : Int32)), .val (.int p2)] [(.int (1 : Int32)), (.int (2 : Int32)), (.ref arr)])) _
    refine XS.iadd X13.here hx rfl (hb hby own_d6_17) rfl ?_
    show Steps p.tables e below (T13.setTop (mkF m 18 #[.val (.ref a), .val (.int (2 : Int32)), .val (.int p2)] [(.int (3 : Int32)), (.ref arr)])) _
    refine XS.iloadN X13.here hx rfl (hb hby own_d6_18) rfl ?_
    show Steps p.tables e below (T13.setTop (mkF m 19 #[.val (.ref a), .val (.int (2 : Int32)), .val (.int p2)] [(.int p2), (.int (3 : Int32)), (.ref arr)])) _
    refine XS.i2b X13.here hx rfl (hb hby own_d6_19) rfl ?_
    exact k
  obtain ⟨cl16, Ar16, qa16, Sa16, Na16, Ha16, Ga16⟩ := id V7
  have hin17 : ¬ ((3 : Int32) < 0 ∨ cl16.slots.size ≤ ((3 : Int32)).toNatClampNeg) := inb_of Sa16 ⟨by decide, by decide⟩
  obtain ⟨T18, h18, X18, e18, W18, st18⟩ := stB X13 hx hZ e13 Ar16 (j := (3 : Int32)) hin17 (g := (mkF m 20 #[.val (.ref a), .val (.int (2 : Int32)), .val (.int p2)] [(.int (p2.toInt8.toInt32)), (.int (3 : Int32)), (.ref arr)])) rfl rfl (hb hby own_d6_20)
  have f19 := f8.wr W18
  have f20 := f9.other W18 (Or.inl hne)
  have f21 := f10.other W18 (Or.inl hne)
  have V18 : Arv Z h18 arr cc .byte (64 : Int32) [(.int v0), (.int v1), (.int (nar .byte (((p2.toUInt32 >>> ((8 : Int32) &&& 31).toUInt32).toInt32).toInt8.toInt32))), (.int (nar .byte (p2.toInt8.toInt32))), (.int v4), (.int v5), (.int v6), (.int v7)] (.int (0 : Int32)) := Arv.set Ar16 qa16 Sa16 Na16 Ha16 Ga16 (fits_nar_byte _) W18 3 rfl (Nat.le_of_ble_eq_true rfl)
  have N18 := Fr.snoc X18 N7 gb
  have K18 : Keep h0 h18 [arr] := K7.wr W18 (Or.inl (List.mem_of_getElem? (i := 0) rfl))
  have Z18 : n0 ≤ h18.size := Nat.le_trans Z7 (Keep.of_wr W18).1
  have k22 : ∀ t, Steps p.tables e below (T18.setTop (mkF m 21 #[.val (.ref a), .val (.int (2 : Int32)), .val (.int p2)] [])) t → Steps p.tables e below (s₁.setTop (entryFrame m #[(.ref a), (.int (2 : Int32)), (.int p2)] 3)) t := fun t k => k15 t (st18 t k)
  obtain ⟨fs, hr, hrun, hended, hW, hsame⟩ := X18.leave (v := none) (fun _ => rfl)
  refine ⟨_, _, k22 _ ?_, hrun, hended, _, _, rfl, ?_, ⟨_, rfl⟩, hW, hsame.mono (by decide) (by decide)⟩
  · exact X18.returnOut hx Bd.returns (hb hby own_d6_21) hr
  · show own_Qsu2 Z a p2 w1 arr cc v0 v1 v2 v3 v4 v5 v6 v7 h0 n0 _ T18.heap _
    rw [e18]
    exact ⟨rfl, N18, K18, f19, f20, f21, V18⟩
theorem own_efsu3 (m : MethodId) (x0 : Addr) (x2 : Int32) : entryFrame m #[(.ref x0), (.int (3 : Int32)), (.int x2)] 3 = mkF m 0 #[.val (.ref x0), .val (.int (3 : Int32)), .val (.int x2)] [] := by first | (simp [entryFrame, mkF, argsToLocals, Value.category]; done) | rfl
def own_Qsu3 (Z : State) (a : Addr) (p2 : Int32) (w1 : Int32) (arr : Addr) (cc : ClassId) (v0 : Int32) (v1 : Int32) (v2 : Int32) (v3 : Int32) (v4 : Int32) (v5 : Int32) (v6 : Int32) (v7 : Int32) (h0 : Heap) (n0 : Nat) (v : Option Value) (h : Heap) (L : List Loc) : Prop := v = none ∧ Fr n0 L ∧ Keep h0 h [arr] ∧ Exa Z h a "com/example/reckoner/reckoner/Bytes" ∧ Fld Z h a "com/example/reckoner/reckoner/Bytes" "bytes" "[B" (.ref arr) ∧ Fld Z h a "com/example/reckoner/reckoner/Bytes" "length" "I" (.int w1) ∧ Arv Z h arr cc .byte (64 : Int32) [(.int v0), (.int v1), (.int v2), (.int (nar .byte (((p2.toUInt32 >>> ((8 : Int32) &&& 31).toUInt32).toInt32).toInt8.toInt32))), (.int (nar .byte (p2.toInt8.toInt32))), (.int v5), (.int v6), (.int v7)] (.int (0 : Int32))
set_option maxRecDepth 65536 in
set_option maxHeartbeats 40000000 in
theorem own_rmsu3 (l : Launch) (Z : State) (a0 : Array Value) (hw : ∀ d ∈ tables_1, d.before a0 Z = true) (ws : List Jvm.Cond) (a : Addr) (p2 : Int32) (w1 : Int32) (arr : Addr) (cc : ClassId) (v0 : Int32) (v1 : Int32) (v2 : Int32) (v3 : Int32) (v4 : Int32) (v5 : Int32) (v6 : Int32) (v7 : Int32) (h0 : Heap) (n0 : Nat) (Z0 : n0 ≤ h0.size) (Ea : Exa Z h0 a "com/example/reckoner/reckoner/Bytes") (F1 : Fld Z h0 a "com/example/reckoner/reckoner/Bytes" "bytes" "[B" (.ref arr)) (F2 : Fld Z h0 a "com/example/reckoner/reckoner/Bytes" "length" "I" (.int w1)) (V0 : Arv Z h0 arr cc .byte (64 : Int32) [(.int v0), (.int v1), (.int v2), (.int v3), (.int v4), (.int v5), (.int v6), (.int v7)] (.int (0 : Int32))) (ga : n0 ≤ a) (gb : n0 ≤ arr) (hne : a ≠ arr) :
    MetFree l (⟨"com/example/reckoner/reckoner/Bytes", "setU2", "(II)V"⟩ : MethodName) (head1 (Jvm.Cond.code (⟨"com/example/reckoner/reckoner/Bytes", "setU2", "(II)V"⟩ : MethodName) prog_9_method_9_code 3 none :: ws) ({ frames := 0, cells := 0, slots := 0, locals := 0 } : Room)) (fun aa U => aa = #[(.ref a), (.int (3 : Int32)), (.int p2)] ∧ Z.Warmed39 U.vm ∧ U.heap = h0) (fun _ _ _ _ _ => True) (fun _ U o U' => ∃ v L, o = .returned v ∧ own_Qsu3 Z a p2 w1 arr cc v0 v1 v2 v3 v4 v5 v6 v7 h0 n0 v U'.heap L ∧ FrameEnd U o U' L ({ frames := 0, cells := 0, slots := 0, locals := 0 } : Room).cells ({ frames := 0, cells := 0, slots := 0, locals := 0 } : Room).slots) := by
  refine MetFree.of_bodySF (plainFor_of_name own_pn0) hisR ?_
  intro p e s m args below meth c s₁ Bd hml0 hP hK
  obtain ⟨rfl, hZ, hh⟩ := hP
  have hx := Bd.exec
  have hby := Bd.bytes
  have hml : c.maxLocals = 3 := hml0
  have hown : s.vm.findClass "com/example/reckoner/reckoner/Bytes" = some m.cls := findClass_of_methodNamed Bd.named
  have hnm := (name_of_methodNamed Bd.named Bd.method).1
  have X0 : Stand p l e ({ frames := 0, cells := 0, slots := 0, locals := 0 } : Room) s m #[(.ref a), (.int (3 : Int32)), (.int p2)] below meth c s₁ [] 0 0 := Stand.of_body Bd
  have e0 : s₁.heap = h0 := by rw [← hh, Bd.state]; rfl
  have N0 := Fr.nil n0
  have pre0 : ∀ t, Steps p.tables e below (s₁.setTop (mkF m 0 #[.val (.ref a), .val (.int (3 : Int32)), .val (.int p2)] [])) t → Steps p.tables e below (s₁.setTop (entryFrame m #[(.ref a), (.int (3 : Int32)), (.int p2)] 3)) t := fun t k => castTop (own_efsu3 m a p2) k
  have k1 : ∀ t, Steps p.tables e below (s₁.setTop (mkF m 1 #[.val (.ref a), .val (.int (3 : Int32)), .val (.int p2)] [(.ref a)])) t → Steps p.tables e below (s₁.setTop (entryFrame m #[(.ref a), (.int (3 : Int32)), (.int p2)] 3)) t := by
    intro t k
    refine pre0 t ?_
    show Steps p.tables e below (s₁.setTop (mkF m 0 #[.val (.ref a), .val (.int (3 : Int32)), .val (.int p2)] [])) _
    refine XS.aloadN X0.here hx rfl (hb hby own_d6_0) rfl rfl ?_
    exact k
  obtain ⟨T2, X2, e2, st2⟩ := getF X0 hx hZ hown (host := "") (Or.inl (hw _ (List.mem_of_getElem? (i := 10) rfl))) Via.refl e0 F1 (g := (mkF m 1 #[.val (.ref a), .val (.int (3 : Int32)), .val (.int p2)] [(.ref a)])) rfl rfl (hb hby own_d6_1)
  have k3 : ∀ t, Steps p.tables e below (T2.setTop (mkF m 4 #[.val (.ref a), .val (.int (3 : Int32)), .val (.int p2)] [(.ref arr)])) t → Steps p.tables e below (s₁.setTop (entryFrame m #[(.ref a), (.int (3 : Int32)), (.int p2)] 3)) t := fun t k => k1 t (st2 t k)
  have k4 : ∀ t, Steps p.tables e below (T2.setTop (mkF m 10 #[.val (.ref a), .val (.int (3 : Int32)), .val (.int p2)] [(.int (((p2.toUInt32 >>> ((8 : Int32) &&& 31).toUInt32).toInt32).toInt8.toInt32)), (.int (3 : Int32)), (.ref arr)])) t → Steps p.tables e below (s₁.setTop (entryFrame m #[(.ref a), (.int (3 : Int32)), (.int p2)] 3)) t := by
    intro t k
    refine k3 t ?_
    show Steps p.tables e below (T2.setTop (mkF m 4 #[.val (.ref a), .val (.int (3 : Int32)), .val (.int p2)] [(.ref arr)])) _
    refine XS.iloadN X2.here hx rfl (hb hby own_d6_4) rfl ?_
    show Steps p.tables e below (T2.setTop (mkF m 5 #[.val (.ref a), .val (.int (3 : Int32)), .val (.int p2)] [(.int (3 : Int32)), (.ref arr)])) _
    refine XS.iloadN X2.here hx rfl (hb hby own_d6_5) rfl ?_
    show Steps p.tables e below (T2.setTop (mkF m 6 #[.val (.ref a), .val (.int (3 : Int32)), .val (.int p2)] [(.int p2), (.int (3 : Int32)), (.ref arr)])) _
    refine XS.bipush X2.here hx rfl (hb hby own_d6_6) ?_
    show Steps p.tables e below (T2.setTop (mkF m 8 #[.val (.ref a), .val (.int (3 : Int32)), .val (.int p2)] [(.int (8 : Int32)), (.int p2), (.int (3 : Int32)), (.ref arr)])) _
    refine XS.iushr X2.here hx rfl (hb hby own_d6_8) rfl ?_
    show Steps p.tables e below (T2.setTop (mkF m 9 #[.val (.ref a), .val (.int (3 : Int32)), .val (.int p2)] [(.int ((p2.toUInt32 >>> ((8 : Int32) &&& 31).toUInt32).toInt32)), (.int (3 : Int32)), (.ref arr)])) _
    refine XS.i2b X2.here hx rfl (hb hby own_d6_9) rfl ?_
    exact k
  obtain ⟨cl5, Ar5, qa5, Sa5, Na5, Ha5, Ga5⟩ := id V0
  have hin6 : ¬ ((3 : Int32) < 0 ∨ cl5.slots.size ≤ ((3 : Int32)).toNatClampNeg) := inb_of Sa5 ⟨by decide, by decide⟩
  obtain ⟨T7, h7, X7, e7, W7, st7⟩ := stB X2 hx hZ e2 Ar5 (j := (3 : Int32)) hin6 (g := (mkF m 10 #[.val (.ref a), .val (.int (3 : Int32)), .val (.int p2)] [(.int (((p2.toUInt32 >>> ((8 : Int32) &&& 31).toUInt32).toInt32).toInt8.toInt32)), (.int (3 : Int32)), (.ref arr)])) rfl rfl (hb hby own_d6_10)
  have f8 := Ea.wr W7
  have f9 := F1.other W7 (Or.inl hne)
  have f10 := F2.other W7 (Or.inl hne)
  have V7 : Arv Z h7 arr cc .byte (64 : Int32) [(.int v0), (.int v1), (.int v2), (.int (nar .byte (((p2.toUInt32 >>> ((8 : Int32) &&& 31).toUInt32).toInt32).toInt8.toInt32))), (.int v4), (.int v5), (.int v6), (.int v7)] (.int (0 : Int32)) := Arv.set Ar5 qa5 Sa5 Na5 Ha5 Ga5 (fits_nar_byte _) W7 3 rfl (Nat.le_of_ble_eq_true rfl)
  have N7 := Fr.snoc X7 N0 gb
  have K7 : Keep h0 h7 [arr] := (Keep.refl h0 [arr]).wr W7 (Or.inl (List.mem_of_getElem? (i := 0) rfl))
  have Z7 : n0 ≤ h7.size := Nat.le_trans Z0 (Keep.of_wr W7).1
  have k11 : ∀ t, Steps p.tables e below (T7.setTop (mkF m 11 #[.val (.ref a), .val (.int (3 : Int32)), .val (.int p2)] [])) t → Steps p.tables e below (s₁.setTop (entryFrame m #[(.ref a), (.int (3 : Int32)), (.int p2)] 3)) t := fun t k => k4 t (st7 t k)
  have k12 : ∀ t, Steps p.tables e below (T7.setTop (mkF m 12 #[.val (.ref a), .val (.int (3 : Int32)), .val (.int p2)] [(.ref a)])) t → Steps p.tables e below (s₁.setTop (entryFrame m #[(.ref a), (.int (3 : Int32)), (.int p2)] 3)) t := by
    intro t k
    refine k11 t ?_
    show Steps p.tables e below (T7.setTop (mkF m 11 #[.val (.ref a), .val (.int (3 : Int32)), .val (.int p2)] [])) _
    refine XS.aloadN X7.here hx rfl (hb hby own_d6_11) rfl rfl ?_
    exact k
  obtain ⟨T13, X13, e13, st13⟩ := getF X7 hx hZ hown (host := "") (Or.inl (hw _ (List.mem_of_getElem? (i := 10) rfl))) Via.refl e7 f9 (g := (mkF m 12 #[.val (.ref a), .val (.int (3 : Int32)), .val (.int p2)] [(.ref a)])) rfl rfl (hb hby own_d6_12)
  have k14 : ∀ t, Steps p.tables e below (T13.setTop (mkF m 15 #[.val (.ref a), .val (.int (3 : Int32)), .val (.int p2)] [(.ref arr)])) t → Steps p.tables e below (s₁.setTop (entryFrame m #[(.ref a), (.int (3 : Int32)), (.int p2)] 3)) t := fun t k => k12 t (st13 t k)
  have k15 : ∀ t, Steps p.tables e below (T13.setTop (mkF m 20 #[.val (.ref a), .val (.int (3 : Int32)), .val (.int p2)] [(.int (p2.toInt8.toInt32)), (.int (4 : Int32)), (.ref arr)])) t → Steps p.tables e below (s₁.setTop (entryFrame m #[(.ref a), (.int (3 : Int32)), (.int p2)] 3)) t := by
    intro t k
    refine k14 t ?_
    show Steps p.tables e below (T13.setTop (mkF m 15 #[.val (.ref a), .val (.int (3 : Int32)), .val (.int p2)] [(.ref arr)])) _
    refine XS.iloadN X13.here hx rfl (hb hby own_d6_15) rfl ?_
    show Steps p.tables e below (T13.setTop (mkF m 16 #[.val (.ref a), .val (.int (3 : Int32)), .val (.int p2)] [(.int (3 : Int32)), (.ref arr)])) _
    refine XS.iconst X13.here hx rfl (hb hby own_d6_16) ?_
    show Steps p.tables e below (T13.setTop (mkF m 17 #[.val (.ref a), .val (.int (3 : Int32)), .val (.int p2)] [(.int (1 : Int32)), (.int (3 : Int32)), (.ref arr)])) _
    refine XS.iadd X13.here hx rfl (hb hby own_d6_17) rfl ?_
    show Steps p.tables e below (T13.setTop (mkF m 18 #[.val (.ref a), .val (.int (3 : Int32)), .val (.int p2)] [(.int (4 : Int32)), (.ref arr)])) _
    refine XS.iloadN X13.here hx rfl (hb hby own_d6_18) rfl ?_
    show Steps p.tables e below (T13.setTop (mkF m 19 #[.val (.ref a), .val (.int (3 : Int32)), .val (.int p2)] [(.int p2), (.int (4 : Int32)), (.ref arr)])) _
    refine XS.i2b X13.here hx rfl (hb hby own_d6_19) rfl ?_
    exact k
  obtain ⟨cl16, Ar16, qa16, Sa16, Na16, Ha16, Ga16⟩ := id V7
  have hin17 : ¬ ((4 : Int32) < 0 ∨ cl16.slots.size ≤ ((4 : Int32)).toNatClampNeg) := inb_of Sa16 ⟨by decide, by decide⟩
  obtain ⟨T18, h18, X18, e18, W18, st18⟩ := stB X13 hx hZ e13 Ar16 (j := (4 : Int32)) hin17 (g := (mkF m 20 #[.val (.ref a), .val (.int (3 : Int32)), .val (.int p2)] [(.int (p2.toInt8.toInt32)), (.int (4 : Int32)), (.ref arr)])) rfl rfl (hb hby own_d6_20)
  have f19 := f8.wr W18
  have f20 := f9.other W18 (Or.inl hne)
  have f21 := f10.other W18 (Or.inl hne)
  have V18 : Arv Z h18 arr cc .byte (64 : Int32) [(.int v0), (.int v1), (.int v2), (.int (nar .byte (((p2.toUInt32 >>> ((8 : Int32) &&& 31).toUInt32).toInt32).toInt8.toInt32))), (.int (nar .byte (p2.toInt8.toInt32))), (.int v5), (.int v6), (.int v7)] (.int (0 : Int32)) := Arv.set Ar16 qa16 Sa16 Na16 Ha16 Ga16 (fits_nar_byte _) W18 4 rfl (Nat.le_of_ble_eq_true rfl)
  have N18 := Fr.snoc X18 N7 gb
  have K18 : Keep h0 h18 [arr] := K7.wr W18 (Or.inl (List.mem_of_getElem? (i := 0) rfl))
  have Z18 : n0 ≤ h18.size := Nat.le_trans Z7 (Keep.of_wr W18).1
  have k22 : ∀ t, Steps p.tables e below (T18.setTop (mkF m 21 #[.val (.ref a), .val (.int (3 : Int32)), .val (.int p2)] [])) t → Steps p.tables e below (s₁.setTop (entryFrame m #[(.ref a), (.int (3 : Int32)), (.int p2)] 3)) t := fun t k => k15 t (st18 t k)
  obtain ⟨fs, hr, hrun, hended, hW, hsame⟩ := X18.leave (v := none) (fun _ => rfl)
  refine ⟨_, _, k22 _ ?_, hrun, hended, _, _, rfl, ?_, ⟨_, rfl⟩, hW, hsame.mono (by decide) (by decide)⟩
  · exact X18.returnOut hx Bd.returns (hb hby own_d6_21) hr
  · show own_Qsu3 Z a p2 w1 arr cc v0 v1 v2 v3 v4 v5 v6 v7 h0 n0 _ T18.heap _
    rw [e18]
    exact ⟨rfl, N18, K18, f19, f20, f21, V18⟩
theorem own_efsu4 (m : MethodId) (x0 : Addr) (x2 : Int32) : entryFrame m #[(.ref x0), (.int (4 : Int32)), (.int x2)] 3 = mkF m 0 #[.val (.ref x0), .val (.int (4 : Int32)), .val (.int x2)] [] := by first | (simp [entryFrame, mkF, argsToLocals, Value.category]; done) | rfl
def own_Qsu4 (Z : State) (a : Addr) (p2 : Int32) (w1 : Int32) (arr : Addr) (cc : ClassId) (v0 : Int32) (v1 : Int32) (v2 : Int32) (v3 : Int32) (v4 : Int32) (v5 : Int32) (v6 : Int32) (v7 : Int32) (h0 : Heap) (n0 : Nat) (v : Option Value) (h : Heap) (L : List Loc) : Prop := v = none ∧ Fr n0 L ∧ Keep h0 h [arr] ∧ Exa Z h a "com/example/reckoner/reckoner/Bytes" ∧ Fld Z h a "com/example/reckoner/reckoner/Bytes" "bytes" "[B" (.ref arr) ∧ Fld Z h a "com/example/reckoner/reckoner/Bytes" "length" "I" (.int w1) ∧ Arv Z h arr cc .byte (64 : Int32) [(.int v0), (.int v1), (.int v2), (.int v3), (.int (nar .byte (((p2.toUInt32 >>> ((8 : Int32) &&& 31).toUInt32).toInt32).toInt8.toInt32))), (.int (nar .byte (p2.toInt8.toInt32))), (.int v6), (.int v7)] (.int (0 : Int32))
set_option maxRecDepth 65536 in
set_option maxHeartbeats 40000000 in
theorem own_rmsu4 (l : Launch) (Z : State) (a0 : Array Value) (hw : ∀ d ∈ tables_1, d.before a0 Z = true) (ws : List Jvm.Cond) (a : Addr) (p2 : Int32) (w1 : Int32) (arr : Addr) (cc : ClassId) (v0 : Int32) (v1 : Int32) (v2 : Int32) (v3 : Int32) (v4 : Int32) (v5 : Int32) (v6 : Int32) (v7 : Int32) (h0 : Heap) (n0 : Nat) (Z0 : n0 ≤ h0.size) (Ea : Exa Z h0 a "com/example/reckoner/reckoner/Bytes") (F1 : Fld Z h0 a "com/example/reckoner/reckoner/Bytes" "bytes" "[B" (.ref arr)) (F2 : Fld Z h0 a "com/example/reckoner/reckoner/Bytes" "length" "I" (.int w1)) (V0 : Arv Z h0 arr cc .byte (64 : Int32) [(.int v0), (.int v1), (.int v2), (.int v3), (.int v4), (.int v5), (.int v6), (.int v7)] (.int (0 : Int32))) (ga : n0 ≤ a) (gb : n0 ≤ arr) (hne : a ≠ arr) :
    MetFree l (⟨"com/example/reckoner/reckoner/Bytes", "setU2", "(II)V"⟩ : MethodName) (head1 (Jvm.Cond.code (⟨"com/example/reckoner/reckoner/Bytes", "setU2", "(II)V"⟩ : MethodName) prog_9_method_9_code 3 none :: ws) ({ frames := 0, cells := 0, slots := 0, locals := 0 } : Room)) (fun aa U => aa = #[(.ref a), (.int (4 : Int32)), (.int p2)] ∧ Z.Warmed39 U.vm ∧ U.heap = h0) (fun _ _ _ _ _ => True) (fun _ U o U' => ∃ v L, o = .returned v ∧ own_Qsu4 Z a p2 w1 arr cc v0 v1 v2 v3 v4 v5 v6 v7 h0 n0 v U'.heap L ∧ FrameEnd U o U' L ({ frames := 0, cells := 0, slots := 0, locals := 0 } : Room).cells ({ frames := 0, cells := 0, slots := 0, locals := 0 } : Room).slots) := by
  refine MetFree.of_bodySF (plainFor_of_name own_pn0) hisR ?_
  intro p e s m args below meth c s₁ Bd hml0 hP hK
  obtain ⟨rfl, hZ, hh⟩ := hP
  have hx := Bd.exec
  have hby := Bd.bytes
  have hml : c.maxLocals = 3 := hml0
  have hown : s.vm.findClass "com/example/reckoner/reckoner/Bytes" = some m.cls := findClass_of_methodNamed Bd.named
  have hnm := (name_of_methodNamed Bd.named Bd.method).1
  have X0 : Stand p l e ({ frames := 0, cells := 0, slots := 0, locals := 0 } : Room) s m #[(.ref a), (.int (4 : Int32)), (.int p2)] below meth c s₁ [] 0 0 := Stand.of_body Bd
  have e0 : s₁.heap = h0 := by rw [← hh, Bd.state]; rfl
  have N0 := Fr.nil n0
  have pre0 : ∀ t, Steps p.tables e below (s₁.setTop (mkF m 0 #[.val (.ref a), .val (.int (4 : Int32)), .val (.int p2)] [])) t → Steps p.tables e below (s₁.setTop (entryFrame m #[(.ref a), (.int (4 : Int32)), (.int p2)] 3)) t := fun t k => castTop (own_efsu4 m a p2) k
  have k1 : ∀ t, Steps p.tables e below (s₁.setTop (mkF m 1 #[.val (.ref a), .val (.int (4 : Int32)), .val (.int p2)] [(.ref a)])) t → Steps p.tables e below (s₁.setTop (entryFrame m #[(.ref a), (.int (4 : Int32)), (.int p2)] 3)) t := by
    intro t k
    refine pre0 t ?_
    show Steps p.tables e below (s₁.setTop (mkF m 0 #[.val (.ref a), .val (.int (4 : Int32)), .val (.int p2)] [])) _
    refine XS.aloadN X0.here hx rfl (hb hby own_d6_0) rfl rfl ?_
    exact k
  obtain ⟨T2, X2, e2, st2⟩ := getF X0 hx hZ hown (host := "") (Or.inl (hw _ (List.mem_of_getElem? (i := 10) rfl))) Via.refl e0 F1 (g := (mkF m 1 #[.val (.ref a), .val (.int (4 : Int32)), .val (.int p2)] [(.ref a)])) rfl rfl (hb hby own_d6_1)
  have k3 : ∀ t, Steps p.tables e below (T2.setTop (mkF m 4 #[.val (.ref a), .val (.int (4 : Int32)), .val (.int p2)] [(.ref arr)])) t → Steps p.tables e below (s₁.setTop (entryFrame m #[(.ref a), (.int (4 : Int32)), (.int p2)] 3)) t := fun t k => k1 t (st2 t k)
  have k4 : ∀ t, Steps p.tables e below (T2.setTop (mkF m 10 #[.val (.ref a), .val (.int (4 : Int32)), .val (.int p2)] [(.int (((p2.toUInt32 >>> ((8 : Int32) &&& 31).toUInt32).toInt32).toInt8.toInt32)), (.int (4 : Int32)), (.ref arr)])) t → Steps p.tables e below (s₁.setTop (entryFrame m #[(.ref a), (.int (4 : Int32)), (.int p2)] 3)) t := by
    intro t k
    refine k3 t ?_
    show Steps p.tables e below (T2.setTop (mkF m 4 #[.val (.ref a), .val (.int (4 : Int32)), .val (.int p2)] [(.ref arr)])) _
    refine XS.iloadN X2.here hx rfl (hb hby own_d6_4) rfl ?_
    show Steps p.tables e below (T2.setTop (mkF m 5 #[.val (.ref a), .val (.int (4 : Int32)), .val (.int p2)] [(.int (4 : Int32)), (.ref arr)])) _
    refine XS.iloadN X2.here hx rfl (hb hby own_d6_5) rfl ?_
    show Steps p.tables e below (T2.setTop (mkF m 6 #[.val (.ref a), .val (.int (4 : Int32)), .val (.int p2)] [(.int p2), (.int (4 : Int32)), (.ref arr)])) _
    refine XS.bipush X2.here hx rfl (hb hby own_d6_6) ?_
    show Steps p.tables e below (T2.setTop (mkF m 8 #[.val (.ref a), .val (.int (4 : Int32)), .val (.int p2)] [(.int (8 : Int32)), (.int p2), (.int (4 : Int32)), (.ref arr)])) _
    refine XS.iushr X2.here hx rfl (hb hby own_d6_8) rfl ?_
    show Steps p.tables e below (T2.setTop (mkF m 9 #[.val (.ref a), .val (.int (4 : Int32)), .val (.int p2)] [(.int ((p2.toUInt32 >>> ((8 : Int32) &&& 31).toUInt32).toInt32)), (.int (4 : Int32)), (.ref arr)])) _
    refine XS.i2b X2.here hx rfl (hb hby own_d6_9) rfl ?_
    exact k
  obtain ⟨cl5, Ar5, qa5, Sa5, Na5, Ha5, Ga5⟩ := id V0
  have hin6 : ¬ ((4 : Int32) < 0 ∨ cl5.slots.size ≤ ((4 : Int32)).toNatClampNeg) := inb_of Sa5 ⟨by decide, by decide⟩
  obtain ⟨T7, h7, X7, e7, W7, st7⟩ := stB X2 hx hZ e2 Ar5 (j := (4 : Int32)) hin6 (g := (mkF m 10 #[.val (.ref a), .val (.int (4 : Int32)), .val (.int p2)] [(.int (((p2.toUInt32 >>> ((8 : Int32) &&& 31).toUInt32).toInt32).toInt8.toInt32)), (.int (4 : Int32)), (.ref arr)])) rfl rfl (hb hby own_d6_10)
  have f8 := Ea.wr W7
  have f9 := F1.other W7 (Or.inl hne)
  have f10 := F2.other W7 (Or.inl hne)
  have V7 : Arv Z h7 arr cc .byte (64 : Int32) [(.int v0), (.int v1), (.int v2), (.int v3), (.int (nar .byte (((p2.toUInt32 >>> ((8 : Int32) &&& 31).toUInt32).toInt32).toInt8.toInt32))), (.int v5), (.int v6), (.int v7)] (.int (0 : Int32)) := Arv.set Ar5 qa5 Sa5 Na5 Ha5 Ga5 (fits_nar_byte _) W7 4 rfl (Nat.le_of_ble_eq_true rfl)
  have N7 := Fr.snoc X7 N0 gb
  have K7 : Keep h0 h7 [arr] := (Keep.refl h0 [arr]).wr W7 (Or.inl (List.mem_of_getElem? (i := 0) rfl))
  have Z7 : n0 ≤ h7.size := Nat.le_trans Z0 (Keep.of_wr W7).1
  have k11 : ∀ t, Steps p.tables e below (T7.setTop (mkF m 11 #[.val (.ref a), .val (.int (4 : Int32)), .val (.int p2)] [])) t → Steps p.tables e below (s₁.setTop (entryFrame m #[(.ref a), (.int (4 : Int32)), (.int p2)] 3)) t := fun t k => k4 t (st7 t k)
  have k12 : ∀ t, Steps p.tables e below (T7.setTop (mkF m 12 #[.val (.ref a), .val (.int (4 : Int32)), .val (.int p2)] [(.ref a)])) t → Steps p.tables e below (s₁.setTop (entryFrame m #[(.ref a), (.int (4 : Int32)), (.int p2)] 3)) t := by
    intro t k
    refine k11 t ?_
    show Steps p.tables e below (T7.setTop (mkF m 11 #[.val (.ref a), .val (.int (4 : Int32)), .val (.int p2)] [])) _
    refine XS.aloadN X7.here hx rfl (hb hby own_d6_11) rfl rfl ?_
    exact k
  obtain ⟨T13, X13, e13, st13⟩ := getF X7 hx hZ hown (host := "") (Or.inl (hw _ (List.mem_of_getElem? (i := 10) rfl))) Via.refl e7 f9 (g := (mkF m 12 #[.val (.ref a), .val (.int (4 : Int32)), .val (.int p2)] [(.ref a)])) rfl rfl (hb hby own_d6_12)
  have k14 : ∀ t, Steps p.tables e below (T13.setTop (mkF m 15 #[.val (.ref a), .val (.int (4 : Int32)), .val (.int p2)] [(.ref arr)])) t → Steps p.tables e below (s₁.setTop (entryFrame m #[(.ref a), (.int (4 : Int32)), (.int p2)] 3)) t := fun t k => k12 t (st13 t k)
  have k15 : ∀ t, Steps p.tables e below (T13.setTop (mkF m 20 #[.val (.ref a), .val (.int (4 : Int32)), .val (.int p2)] [(.int (p2.toInt8.toInt32)), (.int (5 : Int32)), (.ref arr)])) t → Steps p.tables e below (s₁.setTop (entryFrame m #[(.ref a), (.int (4 : Int32)), (.int p2)] 3)) t := by
    intro t k
    refine k14 t ?_
    show Steps p.tables e below (T13.setTop (mkF m 15 #[.val (.ref a), .val (.int (4 : Int32)), .val (.int p2)] [(.ref arr)])) _
    refine XS.iloadN X13.here hx rfl (hb hby own_d6_15) rfl ?_
    show Steps p.tables e below (T13.setTop (mkF m 16 #[.val (.ref a), .val (.int (4 : Int32)), .val (.int p2)] [(.int (4 : Int32)), (.ref arr)])) _
    refine XS.iconst X13.here hx rfl (hb hby own_d6_16) ?_
    show Steps p.tables e below (T13.setTop (mkF m 17 #[.val (.ref a), .val (.int (4 : Int32)), .val (.int p2)] [(.int (1 : Int32)), (.int (4 : Int32)), (.ref arr)])) _
    refine XS.iadd X13.here hx rfl (hb hby own_d6_17) rfl ?_
    show Steps p.tables e below (T13.setTop (mkF m 18 #[.val (.ref a), .val (.int (4 : Int32)), .val (.int p2)] [(.int (5 : Int32)), (.ref arr)])) _
    refine XS.iloadN X13.here hx rfl (hb hby own_d6_18) rfl ?_
    show Steps p.tables e below (T13.setTop (mkF m 19 #[.val (.ref a), .val (.int (4 : Int32)), .val (.int p2)] [(.int p2), (.int (5 : Int32)), (.ref arr)])) _
    refine XS.i2b X13.here hx rfl (hb hby own_d6_19) rfl ?_
    exact k
  obtain ⟨cl16, Ar16, qa16, Sa16, Na16, Ha16, Ga16⟩ := id V7
  have hin17 : ¬ ((5 : Int32) < 0 ∨ cl16.slots.size ≤ ((5 : Int32)).toNatClampNeg) := inb_of Sa16 ⟨by decide, by decide⟩
  obtain ⟨T18, h18, X18, e18, W18, st18⟩ := stB X13 hx hZ e13 Ar16 (j := (5 : Int32)) hin17 (g := (mkF m 20 #[.val (.ref a), .val (.int (4 : Int32)), .val (.int p2)] [(.int (p2.toInt8.toInt32)), (.int (5 : Int32)), (.ref arr)])) rfl rfl (hb hby own_d6_20)
  have f19 := f8.wr W18
  have f20 := f9.other W18 (Or.inl hne)
  have f21 := f10.other W18 (Or.inl hne)
  have V18 : Arv Z h18 arr cc .byte (64 : Int32) [(.int v0), (.int v1), (.int v2), (.int v3), (.int (nar .byte (((p2.toUInt32 >>> ((8 : Int32) &&& 31).toUInt32).toInt32).toInt8.toInt32))), (.int (nar .byte (p2.toInt8.toInt32))), (.int v6), (.int v7)] (.int (0 : Int32)) := Arv.set Ar16 qa16 Sa16 Na16 Ha16 Ga16 (fits_nar_byte _) W18 5 rfl (Nat.le_of_ble_eq_true rfl)
  have N18 := Fr.snoc X18 N7 gb
  have K18 : Keep h0 h18 [arr] := K7.wr W18 (Or.inl (List.mem_of_getElem? (i := 0) rfl))
  have Z18 : n0 ≤ h18.size := Nat.le_trans Z7 (Keep.of_wr W18).1
  have k22 : ∀ t, Steps p.tables e below (T18.setTop (mkF m 21 #[.val (.ref a), .val (.int (4 : Int32)), .val (.int p2)] [])) t → Steps p.tables e below (s₁.setTop (entryFrame m #[(.ref a), (.int (4 : Int32)), (.int p2)] 3)) t := fun t k => k15 t (st18 t k)
  obtain ⟨fs, hr, hrun, hended, hW, hsame⟩ := X18.leave (v := none) (fun _ => rfl)
  refine ⟨_, _, k22 _ ?_, hrun, hended, _, _, rfl, ?_, ⟨_, rfl⟩, hW, hsame.mono (by decide) (by decide)⟩
  · exact X18.returnOut hx Bd.returns (hb hby own_d6_21) hr
  · show own_Qsu4 Z a p2 w1 arr cc v0 v1 v2 v3 v4 v5 v6 v7 h0 n0 _ T18.heap _
    rw [e18]
    exact ⟨rfl, N18, K18, f19, f20, f21, V18⟩
theorem own_efsu5 (m : MethodId) (x0 : Addr) (x2 : Int32) : entryFrame m #[(.ref x0), (.int (5 : Int32)), (.int x2)] 3 = mkF m 0 #[.val (.ref x0), .val (.int (5 : Int32)), .val (.int x2)] [] := by first | (simp [entryFrame, mkF, argsToLocals, Value.category]; done) | rfl
def own_Qsu5 (Z : State) (a : Addr) (p2 : Int32) (w1 : Int32) (arr : Addr) (cc : ClassId) (v0 : Int32) (v1 : Int32) (v2 : Int32) (v3 : Int32) (v4 : Int32) (v5 : Int32) (v6 : Int32) (v7 : Int32) (h0 : Heap) (n0 : Nat) (v : Option Value) (h : Heap) (L : List Loc) : Prop := v = none ∧ Fr n0 L ∧ Keep h0 h [arr] ∧ Exa Z h a "com/example/reckoner/reckoner/Bytes" ∧ Fld Z h a "com/example/reckoner/reckoner/Bytes" "bytes" "[B" (.ref arr) ∧ Fld Z h a "com/example/reckoner/reckoner/Bytes" "length" "I" (.int w1) ∧ Arv Z h arr cc .byte (64 : Int32) [(.int v0), (.int v1), (.int v2), (.int v3), (.int v4), (.int (nar .byte (((p2.toUInt32 >>> ((8 : Int32) &&& 31).toUInt32).toInt32).toInt8.toInt32))), (.int (nar .byte (p2.toInt8.toInt32))), (.int v7)] (.int (0 : Int32))
set_option maxRecDepth 65536 in
set_option maxHeartbeats 40000000 in
theorem own_rmsu5 (l : Launch) (Z : State) (a0 : Array Value) (hw : ∀ d ∈ tables_1, d.before a0 Z = true) (ws : List Jvm.Cond) (a : Addr) (p2 : Int32) (w1 : Int32) (arr : Addr) (cc : ClassId) (v0 : Int32) (v1 : Int32) (v2 : Int32) (v3 : Int32) (v4 : Int32) (v5 : Int32) (v6 : Int32) (v7 : Int32) (h0 : Heap) (n0 : Nat) (Z0 : n0 ≤ h0.size) (Ea : Exa Z h0 a "com/example/reckoner/reckoner/Bytes") (F1 : Fld Z h0 a "com/example/reckoner/reckoner/Bytes" "bytes" "[B" (.ref arr)) (F2 : Fld Z h0 a "com/example/reckoner/reckoner/Bytes" "length" "I" (.int w1)) (V0 : Arv Z h0 arr cc .byte (64 : Int32) [(.int v0), (.int v1), (.int v2), (.int v3), (.int v4), (.int v5), (.int v6), (.int v7)] (.int (0 : Int32))) (ga : n0 ≤ a) (gb : n0 ≤ arr) (hne : a ≠ arr) :
    MetFree l (⟨"com/example/reckoner/reckoner/Bytes", "setU2", "(II)V"⟩ : MethodName) (head1 (Jvm.Cond.code (⟨"com/example/reckoner/reckoner/Bytes", "setU2", "(II)V"⟩ : MethodName) prog_9_method_9_code 3 none :: ws) ({ frames := 0, cells := 0, slots := 0, locals := 0 } : Room)) (fun aa U => aa = #[(.ref a), (.int (5 : Int32)), (.int p2)] ∧ Z.Warmed39 U.vm ∧ U.heap = h0) (fun _ _ _ _ _ => True) (fun _ U o U' => ∃ v L, o = .returned v ∧ own_Qsu5 Z a p2 w1 arr cc v0 v1 v2 v3 v4 v5 v6 v7 h0 n0 v U'.heap L ∧ FrameEnd U o U' L ({ frames := 0, cells := 0, slots := 0, locals := 0 } : Room).cells ({ frames := 0, cells := 0, slots := 0, locals := 0 } : Room).slots) := by
  refine MetFree.of_bodySF (plainFor_of_name own_pn0) hisR ?_
  intro p e s m args below meth c s₁ Bd hml0 hP hK
  obtain ⟨rfl, hZ, hh⟩ := hP
  have hx := Bd.exec
  have hby := Bd.bytes
  have hml : c.maxLocals = 3 := hml0
  have hown : s.vm.findClass "com/example/reckoner/reckoner/Bytes" = some m.cls := findClass_of_methodNamed Bd.named
  have hnm := (name_of_methodNamed Bd.named Bd.method).1
  have X0 : Stand p l e ({ frames := 0, cells := 0, slots := 0, locals := 0 } : Room) s m #[(.ref a), (.int (5 : Int32)), (.int p2)] below meth c s₁ [] 0 0 := Stand.of_body Bd
  have e0 : s₁.heap = h0 := by rw [← hh, Bd.state]; rfl
  have N0 := Fr.nil n0
  have pre0 : ∀ t, Steps p.tables e below (s₁.setTop (mkF m 0 #[.val (.ref a), .val (.int (5 : Int32)), .val (.int p2)] [])) t → Steps p.tables e below (s₁.setTop (entryFrame m #[(.ref a), (.int (5 : Int32)), (.int p2)] 3)) t := fun t k => castTop (own_efsu5 m a p2) k
  have k1 : ∀ t, Steps p.tables e below (s₁.setTop (mkF m 1 #[.val (.ref a), .val (.int (5 : Int32)), .val (.int p2)] [(.ref a)])) t → Steps p.tables e below (s₁.setTop (entryFrame m #[(.ref a), (.int (5 : Int32)), (.int p2)] 3)) t := by
    intro t k
    refine pre0 t ?_
    show Steps p.tables e below (s₁.setTop (mkF m 0 #[.val (.ref a), .val (.int (5 : Int32)), .val (.int p2)] [])) _
    refine XS.aloadN X0.here hx rfl (hb hby own_d6_0) rfl rfl ?_
    exact k
  obtain ⟨T2, X2, e2, st2⟩ := getF X0 hx hZ hown (host := "") (Or.inl (hw _ (List.mem_of_getElem? (i := 10) rfl))) Via.refl e0 F1 (g := (mkF m 1 #[.val (.ref a), .val (.int (5 : Int32)), .val (.int p2)] [(.ref a)])) rfl rfl (hb hby own_d6_1)
  have k3 : ∀ t, Steps p.tables e below (T2.setTop (mkF m 4 #[.val (.ref a), .val (.int (5 : Int32)), .val (.int p2)] [(.ref arr)])) t → Steps p.tables e below (s₁.setTop (entryFrame m #[(.ref a), (.int (5 : Int32)), (.int p2)] 3)) t := fun t k => k1 t (st2 t k)
  have k4 : ∀ t, Steps p.tables e below (T2.setTop (mkF m 10 #[.val (.ref a), .val (.int (5 : Int32)), .val (.int p2)] [(.int (((p2.toUInt32 >>> ((8 : Int32) &&& 31).toUInt32).toInt32).toInt8.toInt32)), (.int (5 : Int32)), (.ref arr)])) t → Steps p.tables e below (s₁.setTop (entryFrame m #[(.ref a), (.int (5 : Int32)), (.int p2)] 3)) t := by
    intro t k
    refine k3 t ?_
    show Steps p.tables e below (T2.setTop (mkF m 4 #[.val (.ref a), .val (.int (5 : Int32)), .val (.int p2)] [(.ref arr)])) _
    refine XS.iloadN X2.here hx rfl (hb hby own_d6_4) rfl ?_
    show Steps p.tables e below (T2.setTop (mkF m 5 #[.val (.ref a), .val (.int (5 : Int32)), .val (.int p2)] [(.int (5 : Int32)), (.ref arr)])) _
    refine XS.iloadN X2.here hx rfl (hb hby own_d6_5) rfl ?_
    show Steps p.tables e below (T2.setTop (mkF m 6 #[.val (.ref a), .val (.int (5 : Int32)), .val (.int p2)] [(.int p2), (.int (5 : Int32)), (.ref arr)])) _
    refine XS.bipush X2.here hx rfl (hb hby own_d6_6) ?_
    show Steps p.tables e below (T2.setTop (mkF m 8 #[.val (.ref a), .val (.int (5 : Int32)), .val (.int p2)] [(.int (8 : Int32)), (.int p2), (.int (5 : Int32)), (.ref arr)])) _
    refine XS.iushr X2.here hx rfl (hb hby own_d6_8) rfl ?_
    show Steps p.tables e below (T2.setTop (mkF m 9 #[.val (.ref a), .val (.int (5 : Int32)), .val (.int p2)] [(.int ((p2.toUInt32 >>> ((8 : Int32) &&& 31).toUInt32).toInt32)), (.int (5 : Int32)), (.ref arr)])) _
    refine XS.i2b X2.here hx rfl (hb hby own_d6_9) rfl ?_
    exact k
  obtain ⟨cl5, Ar5, qa5, Sa5, Na5, Ha5, Ga5⟩ := id V0
  have hin6 : ¬ ((5 : Int32) < 0 ∨ cl5.slots.size ≤ ((5 : Int32)).toNatClampNeg) := inb_of Sa5 ⟨by decide, by decide⟩
  obtain ⟨T7, h7, X7, e7, W7, st7⟩ := stB X2 hx hZ e2 Ar5 (j := (5 : Int32)) hin6 (g := (mkF m 10 #[.val (.ref a), .val (.int (5 : Int32)), .val (.int p2)] [(.int (((p2.toUInt32 >>> ((8 : Int32) &&& 31).toUInt32).toInt32).toInt8.toInt32)), (.int (5 : Int32)), (.ref arr)])) rfl rfl (hb hby own_d6_10)
  have f8 := Ea.wr W7
  have f9 := F1.other W7 (Or.inl hne)
  have f10 := F2.other W7 (Or.inl hne)
  have V7 : Arv Z h7 arr cc .byte (64 : Int32) [(.int v0), (.int v1), (.int v2), (.int v3), (.int v4), (.int (nar .byte (((p2.toUInt32 >>> ((8 : Int32) &&& 31).toUInt32).toInt32).toInt8.toInt32))), (.int v6), (.int v7)] (.int (0 : Int32)) := Arv.set Ar5 qa5 Sa5 Na5 Ha5 Ga5 (fits_nar_byte _) W7 5 rfl (Nat.le_of_ble_eq_true rfl)
  have N7 := Fr.snoc X7 N0 gb
  have K7 : Keep h0 h7 [arr] := (Keep.refl h0 [arr]).wr W7 (Or.inl (List.mem_of_getElem? (i := 0) rfl))
  have Z7 : n0 ≤ h7.size := Nat.le_trans Z0 (Keep.of_wr W7).1
  have k11 : ∀ t, Steps p.tables e below (T7.setTop (mkF m 11 #[.val (.ref a), .val (.int (5 : Int32)), .val (.int p2)] [])) t → Steps p.tables e below (s₁.setTop (entryFrame m #[(.ref a), (.int (5 : Int32)), (.int p2)] 3)) t := fun t k => k4 t (st7 t k)
  have k12 : ∀ t, Steps p.tables e below (T7.setTop (mkF m 12 #[.val (.ref a), .val (.int (5 : Int32)), .val (.int p2)] [(.ref a)])) t → Steps p.tables e below (s₁.setTop (entryFrame m #[(.ref a), (.int (5 : Int32)), (.int p2)] 3)) t := by
    intro t k
    refine k11 t ?_
    show Steps p.tables e below (T7.setTop (mkF m 11 #[.val (.ref a), .val (.int (5 : Int32)), .val (.int p2)] [])) _
    refine XS.aloadN X7.here hx rfl (hb hby own_d6_11) rfl rfl ?_
    exact k
  obtain ⟨T13, X13, e13, st13⟩ := getF X7 hx hZ hown (host := "") (Or.inl (hw _ (List.mem_of_getElem? (i := 10) rfl))) Via.refl e7 f9 (g := (mkF m 12 #[.val (.ref a), .val (.int (5 : Int32)), .val (.int p2)] [(.ref a)])) rfl rfl (hb hby own_d6_12)
  have k14 : ∀ t, Steps p.tables e below (T13.setTop (mkF m 15 #[.val (.ref a), .val (.int (5 : Int32)), .val (.int p2)] [(.ref arr)])) t → Steps p.tables e below (s₁.setTop (entryFrame m #[(.ref a), (.int (5 : Int32)), (.int p2)] 3)) t := fun t k => k12 t (st13 t k)
  have k15 : ∀ t, Steps p.tables e below (T13.setTop (mkF m 20 #[.val (.ref a), .val (.int (5 : Int32)), .val (.int p2)] [(.int (p2.toInt8.toInt32)), (.int (6 : Int32)), (.ref arr)])) t → Steps p.tables e below (s₁.setTop (entryFrame m #[(.ref a), (.int (5 : Int32)), (.int p2)] 3)) t := by
    intro t k
    refine k14 t ?_
    show Steps p.tables e below (T13.setTop (mkF m 15 #[.val (.ref a), .val (.int (5 : Int32)), .val (.int p2)] [(.ref arr)])) _
    refine XS.iloadN X13.here hx rfl (hb hby own_d6_15) rfl ?_
    show Steps p.tables e below (T13.setTop (mkF m 16 #[.val (.ref a), .val (.int (5 : Int32)), .val (.int p2)] [(.int (5 : Int32)), (.ref arr)])) _
    refine XS.iconst X13.here hx rfl (hb hby own_d6_16) ?_
    show Steps p.tables e below (T13.setTop (mkF m 17 #[.val (.ref a), .val (.int (5 : Int32)), .val (.int p2)] [(.int (1 : Int32)), (.int (5 : Int32)), (.ref arr)])) _
    refine XS.iadd X13.here hx rfl (hb hby own_d6_17) rfl ?_
    show Steps p.tables e below (T13.setTop (mkF m 18 #[.val (.ref a), .val (.int (5 : Int32)), .val (.int p2)] [(.int (6 : Int32)), (.ref arr)])) _
    refine XS.iloadN X13.here hx rfl (hb hby own_d6_18) rfl ?_
    show Steps p.tables e below (T13.setTop (mkF m 19 #[.val (.ref a), .val (.int (5 : Int32)), .val (.int p2)] [(.int p2), (.int (6 : Int32)), (.ref arr)])) _
    refine XS.i2b X13.here hx rfl (hb hby own_d6_19) rfl ?_
    exact k
  obtain ⟨cl16, Ar16, qa16, Sa16, Na16, Ha16, Ga16⟩ := id V7
  have hin17 : ¬ ((6 : Int32) < 0 ∨ cl16.slots.size ≤ ((6 : Int32)).toNatClampNeg) := inb_of Sa16 ⟨by decide, by decide⟩
  obtain ⟨T18, h18, X18, e18, W18, st18⟩ := stB X13 hx hZ e13 Ar16 (j := (6 : Int32)) hin17 (g := (mkF m 20 #[.val (.ref a), .val (.int (5 : Int32)), .val (.int p2)] [(.int (p2.toInt8.toInt32)), (.int (6 : Int32)), (.ref arr)])) rfl rfl (hb hby own_d6_20)
  have f19 := f8.wr W18
  have f20 := f9.other W18 (Or.inl hne)
  have f21 := f10.other W18 (Or.inl hne)
  have V18 : Arv Z h18 arr cc .byte (64 : Int32) [(.int v0), (.int v1), (.int v2), (.int v3), (.int v4), (.int (nar .byte (((p2.toUInt32 >>> ((8 : Int32) &&& 31).toUInt32).toInt32).toInt8.toInt32))), (.int (nar .byte (p2.toInt8.toInt32))), (.int v7)] (.int (0 : Int32)) := Arv.set Ar16 qa16 Sa16 Na16 Ha16 Ga16 (fits_nar_byte _) W18 6 rfl (Nat.le_of_ble_eq_true rfl)
  have N18 := Fr.snoc X18 N7 gb
  have K18 : Keep h0 h18 [arr] := K7.wr W18 (Or.inl (List.mem_of_getElem? (i := 0) rfl))
  have Z18 : n0 ≤ h18.size := Nat.le_trans Z7 (Keep.of_wr W18).1
  have k22 : ∀ t, Steps p.tables e below (T18.setTop (mkF m 21 #[.val (.ref a), .val (.int (5 : Int32)), .val (.int p2)] [])) t → Steps p.tables e below (s₁.setTop (entryFrame m #[(.ref a), (.int (5 : Int32)), (.int p2)] 3)) t := fun t k => k15 t (st18 t k)
  obtain ⟨fs, hr, hrun, hended, hW, hsame⟩ := X18.leave (v := none) (fun _ => rfl)
  refine ⟨_, _, k22 _ ?_, hrun, hended, _, _, rfl, ?_, ⟨_, rfl⟩, hW, hsame.mono (by decide) (by decide)⟩
  · exact X18.returnOut hx Bd.returns (hb hby own_d6_21) hr
  · show own_Qsu5 Z a p2 w1 arr cc v0 v1 v2 v3 v4 v5 v6 v7 h0 n0 _ T18.heap _
    rw [e18]
    exact ⟨rfl, N18, K18, f19, f20, f21, V18⟩
theorem own_efsu6 (m : MethodId) (x0 : Addr) (x2 : Int32) : entryFrame m #[(.ref x0), (.int (6 : Int32)), (.int x2)] 3 = mkF m 0 #[.val (.ref x0), .val (.int (6 : Int32)), .val (.int x2)] [] := by first | (simp [entryFrame, mkF, argsToLocals, Value.category]; done) | rfl
def own_Qsu6 (Z : State) (a : Addr) (p2 : Int32) (w1 : Int32) (arr : Addr) (cc : ClassId) (v0 : Int32) (v1 : Int32) (v2 : Int32) (v3 : Int32) (v4 : Int32) (v5 : Int32) (v6 : Int32) (v7 : Int32) (h0 : Heap) (n0 : Nat) (v : Option Value) (h : Heap) (L : List Loc) : Prop := v = none ∧ Fr n0 L ∧ Keep h0 h [arr] ∧ Exa Z h a "com/example/reckoner/reckoner/Bytes" ∧ Fld Z h a "com/example/reckoner/reckoner/Bytes" "bytes" "[B" (.ref arr) ∧ Fld Z h a "com/example/reckoner/reckoner/Bytes" "length" "I" (.int w1) ∧ Arv Z h arr cc .byte (64 : Int32) [(.int v0), (.int v1), (.int v2), (.int v3), (.int v4), (.int v5), (.int (nar .byte (((p2.toUInt32 >>> ((8 : Int32) &&& 31).toUInt32).toInt32).toInt8.toInt32))), (.int (nar .byte (p2.toInt8.toInt32)))] (.int (0 : Int32))
set_option maxRecDepth 65536 in
set_option maxHeartbeats 40000000 in
theorem own_rmsu6 (l : Launch) (Z : State) (a0 : Array Value) (hw : ∀ d ∈ tables_1, d.before a0 Z = true) (ws : List Jvm.Cond) (a : Addr) (p2 : Int32) (w1 : Int32) (arr : Addr) (cc : ClassId) (v0 : Int32) (v1 : Int32) (v2 : Int32) (v3 : Int32) (v4 : Int32) (v5 : Int32) (v6 : Int32) (v7 : Int32) (h0 : Heap) (n0 : Nat) (Z0 : n0 ≤ h0.size) (Ea : Exa Z h0 a "com/example/reckoner/reckoner/Bytes") (F1 : Fld Z h0 a "com/example/reckoner/reckoner/Bytes" "bytes" "[B" (.ref arr)) (F2 : Fld Z h0 a "com/example/reckoner/reckoner/Bytes" "length" "I" (.int w1)) (V0 : Arv Z h0 arr cc .byte (64 : Int32) [(.int v0), (.int v1), (.int v2), (.int v3), (.int v4), (.int v5), (.int v6), (.int v7)] (.int (0 : Int32))) (ga : n0 ≤ a) (gb : n0 ≤ arr) (hne : a ≠ arr) :
    MetFree l (⟨"com/example/reckoner/reckoner/Bytes", "setU2", "(II)V"⟩ : MethodName) (head1 (Jvm.Cond.code (⟨"com/example/reckoner/reckoner/Bytes", "setU2", "(II)V"⟩ : MethodName) prog_9_method_9_code 3 none :: ws) ({ frames := 0, cells := 0, slots := 0, locals := 0 } : Room)) (fun aa U => aa = #[(.ref a), (.int (6 : Int32)), (.int p2)] ∧ Z.Warmed39 U.vm ∧ U.heap = h0) (fun _ _ _ _ _ => True) (fun _ U o U' => ∃ v L, o = .returned v ∧ own_Qsu6 Z a p2 w1 arr cc v0 v1 v2 v3 v4 v5 v6 v7 h0 n0 v U'.heap L ∧ FrameEnd U o U' L ({ frames := 0, cells := 0, slots := 0, locals := 0 } : Room).cells ({ frames := 0, cells := 0, slots := 0, locals := 0 } : Room).slots) := by
  refine MetFree.of_bodySF (plainFor_of_name own_pn0) hisR ?_
  intro p e s m args below meth c s₁ Bd hml0 hP hK
  obtain ⟨rfl, hZ, hh⟩ := hP
  have hx := Bd.exec
  have hby := Bd.bytes
  have hml : c.maxLocals = 3 := hml0
  have hown : s.vm.findClass "com/example/reckoner/reckoner/Bytes" = some m.cls := findClass_of_methodNamed Bd.named
  have hnm := (name_of_methodNamed Bd.named Bd.method).1
  have X0 : Stand p l e ({ frames := 0, cells := 0, slots := 0, locals := 0 } : Room) s m #[(.ref a), (.int (6 : Int32)), (.int p2)] below meth c s₁ [] 0 0 := Stand.of_body Bd
  have e0 : s₁.heap = h0 := by rw [← hh, Bd.state]; rfl
  have N0 := Fr.nil n0
  have pre0 : ∀ t, Steps p.tables e below (s₁.setTop (mkF m 0 #[.val (.ref a), .val (.int (6 : Int32)), .val (.int p2)] [])) t → Steps p.tables e below (s₁.setTop (entryFrame m #[(.ref a), (.int (6 : Int32)), (.int p2)] 3)) t := fun t k => castTop (own_efsu6 m a p2) k
  have k1 : ∀ t, Steps p.tables e below (s₁.setTop (mkF m 1 #[.val (.ref a), .val (.int (6 : Int32)), .val (.int p2)] [(.ref a)])) t → Steps p.tables e below (s₁.setTop (entryFrame m #[(.ref a), (.int (6 : Int32)), (.int p2)] 3)) t := by
    intro t k
    refine pre0 t ?_
    show Steps p.tables e below (s₁.setTop (mkF m 0 #[.val (.ref a), .val (.int (6 : Int32)), .val (.int p2)] [])) _
    refine XS.aloadN X0.here hx rfl (hb hby own_d6_0) rfl rfl ?_
    exact k
  obtain ⟨T2, X2, e2, st2⟩ := getF X0 hx hZ hown (host := "") (Or.inl (hw _ (List.mem_of_getElem? (i := 10) rfl))) Via.refl e0 F1 (g := (mkF m 1 #[.val (.ref a), .val (.int (6 : Int32)), .val (.int p2)] [(.ref a)])) rfl rfl (hb hby own_d6_1)
  have k3 : ∀ t, Steps p.tables e below (T2.setTop (mkF m 4 #[.val (.ref a), .val (.int (6 : Int32)), .val (.int p2)] [(.ref arr)])) t → Steps p.tables e below (s₁.setTop (entryFrame m #[(.ref a), (.int (6 : Int32)), (.int p2)] 3)) t := fun t k => k1 t (st2 t k)
  have k4 : ∀ t, Steps p.tables e below (T2.setTop (mkF m 10 #[.val (.ref a), .val (.int (6 : Int32)), .val (.int p2)] [(.int (((p2.toUInt32 >>> ((8 : Int32) &&& 31).toUInt32).toInt32).toInt8.toInt32)), (.int (6 : Int32)), (.ref arr)])) t → Steps p.tables e below (s₁.setTop (entryFrame m #[(.ref a), (.int (6 : Int32)), (.int p2)] 3)) t := by
    intro t k
    refine k3 t ?_
    show Steps p.tables e below (T2.setTop (mkF m 4 #[.val (.ref a), .val (.int (6 : Int32)), .val (.int p2)] [(.ref arr)])) _
    refine XS.iloadN X2.here hx rfl (hb hby own_d6_4) rfl ?_
    show Steps p.tables e below (T2.setTop (mkF m 5 #[.val (.ref a), .val (.int (6 : Int32)), .val (.int p2)] [(.int (6 : Int32)), (.ref arr)])) _
    refine XS.iloadN X2.here hx rfl (hb hby own_d6_5) rfl ?_
    show Steps p.tables e below (T2.setTop (mkF m 6 #[.val (.ref a), .val (.int (6 : Int32)), .val (.int p2)] [(.int p2), (.int (6 : Int32)), (.ref arr)])) _
    refine XS.bipush X2.here hx rfl (hb hby own_d6_6) ?_
    show Steps p.tables e below (T2.setTop (mkF m 8 #[.val (.ref a), .val (.int (6 : Int32)), .val (.int p2)] [(.int (8 : Int32)), (.int p2), (.int (6 : Int32)), (.ref arr)])) _
    refine XS.iushr X2.here hx rfl (hb hby own_d6_8) rfl ?_
    show Steps p.tables e below (T2.setTop (mkF m 9 #[.val (.ref a), .val (.int (6 : Int32)), .val (.int p2)] [(.int ((p2.toUInt32 >>> ((8 : Int32) &&& 31).toUInt32).toInt32)), (.int (6 : Int32)), (.ref arr)])) _
    refine XS.i2b X2.here hx rfl (hb hby own_d6_9) rfl ?_
    exact k
  obtain ⟨cl5, Ar5, qa5, Sa5, Na5, Ha5, Ga5⟩ := id V0
  have hin6 : ¬ ((6 : Int32) < 0 ∨ cl5.slots.size ≤ ((6 : Int32)).toNatClampNeg) := inb_of Sa5 ⟨by decide, by decide⟩
  obtain ⟨T7, h7, X7, e7, W7, st7⟩ := stB X2 hx hZ e2 Ar5 (j := (6 : Int32)) hin6 (g := (mkF m 10 #[.val (.ref a), .val (.int (6 : Int32)), .val (.int p2)] [(.int (((p2.toUInt32 >>> ((8 : Int32) &&& 31).toUInt32).toInt32).toInt8.toInt32)), (.int (6 : Int32)), (.ref arr)])) rfl rfl (hb hby own_d6_10)
  have f8 := Ea.wr W7
  have f9 := F1.other W7 (Or.inl hne)
  have f10 := F2.other W7 (Or.inl hne)
  have V7 : Arv Z h7 arr cc .byte (64 : Int32) [(.int v0), (.int v1), (.int v2), (.int v3), (.int v4), (.int v5), (.int (nar .byte (((p2.toUInt32 >>> ((8 : Int32) &&& 31).toUInt32).toInt32).toInt8.toInt32))), (.int v7)] (.int (0 : Int32)) := Arv.set Ar5 qa5 Sa5 Na5 Ha5 Ga5 (fits_nar_byte _) W7 6 rfl (Nat.le_of_ble_eq_true rfl)
  have N7 := Fr.snoc X7 N0 gb
  have K7 : Keep h0 h7 [arr] := (Keep.refl h0 [arr]).wr W7 (Or.inl (List.mem_of_getElem? (i := 0) rfl))
  have Z7 : n0 ≤ h7.size := Nat.le_trans Z0 (Keep.of_wr W7).1
  have k11 : ∀ t, Steps p.tables e below (T7.setTop (mkF m 11 #[.val (.ref a), .val (.int (6 : Int32)), .val (.int p2)] [])) t → Steps p.tables e below (s₁.setTop (entryFrame m #[(.ref a), (.int (6 : Int32)), (.int p2)] 3)) t := fun t k => k4 t (st7 t k)
  have k12 : ∀ t, Steps p.tables e below (T7.setTop (mkF m 12 #[.val (.ref a), .val (.int (6 : Int32)), .val (.int p2)] [(.ref a)])) t → Steps p.tables e below (s₁.setTop (entryFrame m #[(.ref a), (.int (6 : Int32)), (.int p2)] 3)) t := by
    intro t k
    refine k11 t ?_
    show Steps p.tables e below (T7.setTop (mkF m 11 #[.val (.ref a), .val (.int (6 : Int32)), .val (.int p2)] [])) _
    refine XS.aloadN X7.here hx rfl (hb hby own_d6_11) rfl rfl ?_
    exact k
  obtain ⟨T13, X13, e13, st13⟩ := getF X7 hx hZ hown (host := "") (Or.inl (hw _ (List.mem_of_getElem? (i := 10) rfl))) Via.refl e7 f9 (g := (mkF m 12 #[.val (.ref a), .val (.int (6 : Int32)), .val (.int p2)] [(.ref a)])) rfl rfl (hb hby own_d6_12)
  have k14 : ∀ t, Steps p.tables e below (T13.setTop (mkF m 15 #[.val (.ref a), .val (.int (6 : Int32)), .val (.int p2)] [(.ref arr)])) t → Steps p.tables e below (s₁.setTop (entryFrame m #[(.ref a), (.int (6 : Int32)), (.int p2)] 3)) t := fun t k => k12 t (st13 t k)
  have k15 : ∀ t, Steps p.tables e below (T13.setTop (mkF m 20 #[.val (.ref a), .val (.int (6 : Int32)), .val (.int p2)] [(.int (p2.toInt8.toInt32)), (.int (7 : Int32)), (.ref arr)])) t → Steps p.tables e below (s₁.setTop (entryFrame m #[(.ref a), (.int (6 : Int32)), (.int p2)] 3)) t := by
    intro t k
    refine k14 t ?_
    show Steps p.tables e below (T13.setTop (mkF m 15 #[.val (.ref a), .val (.int (6 : Int32)), .val (.int p2)] [(.ref arr)])) _
    refine XS.iloadN X13.here hx rfl (hb hby own_d6_15) rfl ?_
    show Steps p.tables e below (T13.setTop (mkF m 16 #[.val (.ref a), .val (.int (6 : Int32)), .val (.int p2)] [(.int (6 : Int32)), (.ref arr)])) _
    refine XS.iconst X13.here hx rfl (hb hby own_d6_16) ?_
    show Steps p.tables e below (T13.setTop (mkF m 17 #[.val (.ref a), .val (.int (6 : Int32)), .val (.int p2)] [(.int (1 : Int32)), (.int (6 : Int32)), (.ref arr)])) _
    refine XS.iadd X13.here hx rfl (hb hby own_d6_17) rfl ?_
    show Steps p.tables e below (T13.setTop (mkF m 18 #[.val (.ref a), .val (.int (6 : Int32)), .val (.int p2)] [(.int (7 : Int32)), (.ref arr)])) _
    refine XS.iloadN X13.here hx rfl (hb hby own_d6_18) rfl ?_
    show Steps p.tables e below (T13.setTop (mkF m 19 #[.val (.ref a), .val (.int (6 : Int32)), .val (.int p2)] [(.int p2), (.int (7 : Int32)), (.ref arr)])) _
    refine XS.i2b X13.here hx rfl (hb hby own_d6_19) rfl ?_
    exact k
  obtain ⟨cl16, Ar16, qa16, Sa16, Na16, Ha16, Ga16⟩ := id V7
  have hin17 : ¬ ((7 : Int32) < 0 ∨ cl16.slots.size ≤ ((7 : Int32)).toNatClampNeg) := inb_of Sa16 ⟨by decide, by decide⟩
  obtain ⟨T18, h18, X18, e18, W18, st18⟩ := stB X13 hx hZ e13 Ar16 (j := (7 : Int32)) hin17 (g := (mkF m 20 #[.val (.ref a), .val (.int (6 : Int32)), .val (.int p2)] [(.int (p2.toInt8.toInt32)), (.int (7 : Int32)), (.ref arr)])) rfl rfl (hb hby own_d6_20)
  have f19 := f8.wr W18
  have f20 := f9.other W18 (Or.inl hne)
  have f21 := f10.other W18 (Or.inl hne)
  have V18 : Arv Z h18 arr cc .byte (64 : Int32) [(.int v0), (.int v1), (.int v2), (.int v3), (.int v4), (.int v5), (.int (nar .byte (((p2.toUInt32 >>> ((8 : Int32) &&& 31).toUInt32).toInt32).toInt8.toInt32))), (.int (nar .byte (p2.toInt8.toInt32)))] (.int (0 : Int32)) := Arv.set Ar16 qa16 Sa16 Na16 Ha16 Ga16 (fits_nar_byte _) W18 7 rfl (Nat.le_of_ble_eq_true rfl)
  have N18 := Fr.snoc X18 N7 gb
  have K18 : Keep h0 h18 [arr] := K7.wr W18 (Or.inl (List.mem_of_getElem? (i := 0) rfl))
  have Z18 : n0 ≤ h18.size := Nat.le_trans Z7 (Keep.of_wr W18).1
  have k22 : ∀ t, Steps p.tables e below (T18.setTop (mkF m 21 #[.val (.ref a), .val (.int (6 : Int32)), .val (.int p2)] [])) t → Steps p.tables e below (s₁.setTop (entryFrame m #[(.ref a), (.int (6 : Int32)), (.int p2)] 3)) t := fun t k => k15 t (st18 t k)
  obtain ⟨fs, hr, hrun, hended, hW, hsame⟩ := X18.leave (v := none) (fun _ => rfl)
  refine ⟨_, _, k22 _ ?_, hrun, hended, _, _, rfl, ?_, ⟨_, rfl⟩, hW, hsame.mono (by decide) (by decide)⟩
  · exact X18.returnOut hx Bd.returns (hb hby own_d6_21) hr
  · show own_Qsu6 Z a p2 w1 arr cc v0 v1 v2 v3 v4 v5 v6 v7 h0 n0 _ T18.heap _
    rw [e18]
    exact ⟨rfl, N18, K18, f19, f20, f21, V18⟩
theorem own_d8_0 : decode jdk_65_method_121_code 0 = .ok (.iload_n 1, 1) := by decide +kernel
theorem own_d8_1 : decode jdk_65_method_121_code 1 = .ok (.aload_n 0, 1) := by decide +kernel
theorem own_d8_2 : decode jdk_65_method_121_code 2 = .ok (.arraylength, 1) := by decide +kernel
theorem own_d8_3 : decode jdk_65_method_121_code 3 = .ok (.if_icmp .ne 11, 3) := by decide +kernel
theorem own_d8_14 : decode jdk_65_method_121_code 14 = .ok (.iload_n 1, 1) := by decide +kernel
theorem own_d8_15 : decode jdk_65_method_121_code 15 = .ok (.newarray .byte, 2) := by decide +kernel
theorem own_d8_17 : decode jdk_65_method_121_code 17 = .ok (.astore_n 2, 1) := by decide +kernel
theorem own_d8_18 : decode jdk_65_method_121_code 18 = .ok (.aload_n 0, 1) := by decide +kernel
theorem own_d8_19 : decode jdk_65_method_121_code 19 = .ok (.iconst 0, 1) := by decide +kernel
theorem own_d8_20 : decode jdk_65_method_121_code 20 = .ok (.aload_n 2, 1) := by decide +kernel
theorem own_d8_21 : decode jdk_65_method_121_code 21 = .ok (.iconst 0, 1) := by decide +kernel
theorem own_d8_22 : decode jdk_65_method_121_code 22 = .ok (.aload_n 0, 1) := by decide +kernel
theorem own_d8_23 : decode jdk_65_method_121_code 23 = .ok (.arraylength, 1) := by decide +kernel
theorem own_d8_24 : decode jdk_65_method_121_code 24 = .ok (.iload_n 1, 1) := by decide +kernel
theorem own_d8_25 : decode jdk_65_method_121_code 25 = .ok (.invokestatic 304, 3) := by decide +kernel
theorem own_d8_28 : decode jdk_65_method_121_code 28 = .ok (.invokestatic 150, 3) := by decide +kernel
theorem own_d8_31 : decode jdk_65_method_121_code 31 = .ok (.aload_n 2, 1) := by decide +kernel
theorem own_d8_32 : decode jdk_65_method_121_code 32 = .ok (.areturn, 1) := by decide +kernel
theorem own_pd2 : parseMethodDescriptor "(II)I" = some ⟨[.int, .int], some .int⟩ := by decide +kernel
theorem own_pn1 : plainName "java/util/Arrays" = true := by first | (simp [plainName, overriddenIn]; done) | decide +kernel
theorem own_efco (m : MethodId) (x0 : Addr) : entryFrame m #[(.ref x0), (.int (8 : Int32))] 3 = mkF m 0 #[.val (.ref x0), .val (.int (8 : Int32)), .unset] [] := by first | (simp [entryFrame, mkF, argsToLocals, Value.category]; done) | rfl
def own_Qco (Z : State) (arr : Addr) (cc : ClassId) (v0 : Int32) (v1 : Int32) (v2 : Int32) (v3 : Int32) (v4 : Int32) (v5 : Int32) (v6 : Int32) (v7 : Int32) (h0 : Heap) (n0 : Nat) (v : Option Value) (h : Heap) (L : List Loc) : Prop := ∃ r c2, v = some (.ref r) ∧ Fr n0 L ∧ Keep h0 h [] ∧ Arv Z h r c2 .byte (8 : Int32) [(.int v0), (.int v1), (.int v2), (.int v3), (.int v4), (.int v5), (.int v6), (.int v7)] (.int (0 : Int32))
set_option maxRecDepth 65536 in
set_option maxHeartbeats 40000000 in
theorem own_rmco (l : Launch) (Z : State) (a0 : Array Value) (hw : ∀ d ∈ tables_1, d.before a0 Z = true) (ws : List Jvm.Cond) (arr : Addr) (cc : ClassId) (v0 : Int32) (v1 : Int32) (v2 : Int32) (v3 : Int32) (v4 : Int32) (v5 : Int32) (v6 : Int32) (v7 : Int32) (h0 : Heap) (n0 : Nat) (Z0 : n0 ≤ h0.size) (V0 : Arv Z h0 arr cc .byte (64 : Int32) [(.int v0), (.int v1), (.int v2), (.int v3), (.int v4), (.int v5), (.int v6), (.int v7)] (.int (0 : Int32))) :
    MetFree l (⟨"java/util/Arrays", "copyOf", "([BI)[B"⟩ : MethodName) (head1 (Jvm.Cond.code (⟨"java/util/Arrays", "copyOf", "([BI)[B"⟩ : MethodName) jdk_65_method_121_code 3 (some (.array .byte)) :: ws) ({ frames := 1, cells := 1, slots := 8, locals := 18 } : Room)) (fun aa U => aa = #[(.ref arr), (.int (8 : Int32))] ∧ Z.Warmed39 U.vm ∧ U.heap = h0) (fun _ _ _ _ _ => True) (fun _ U o U' => ∃ v L, o = .returned v ∧ own_Qco Z arr cc v0 v1 v2 v3 v4 v5 v6 v7 h0 n0 v U'.heap L ∧ FrameEnd U o U' L ({ frames := 1, cells := 1, slots := 8, locals := 18 } : Room).cells ({ frames := 1, cells := 1, slots := 8, locals := 18 } : Room).slots) := by
  refine MetFree.of_bodySF (plainFor_of_name own_pn1) hisR ?_
  intro p e s m args below meth c s₁ Bd hml0 hP hK
  obtain ⟨rfl, hZ, hh⟩ := hP
  have hx := Bd.exec
  have hby := Bd.bytes
  have hml : c.maxLocals = 3 := hml0
  have hown : s.vm.findClass "java/util/Arrays" = some m.cls := findClass_of_methodNamed Bd.named
  have hnm := (name_of_methodNamed Bd.named Bd.method).1
  have X0 : Stand p l e ({ frames := 1, cells := 1, slots := 8, locals := 18 } : Room) s m #[(.ref arr), (.int (8 : Int32))] below meth c s₁ [] 0 0 := Stand.of_body Bd
  have e0 : s₁.heap = h0 := by rw [← hh, Bd.state]; rfl
  have N0 := Fr.nil n0
  have pre0 : ∀ t, Steps p.tables e below (s₁.setTop (mkF m 0 #[.val (.ref arr), .val (.int (8 : Int32)), .unset] [])) t → Steps p.tables e below (s₁.setTop (entryFrame m #[(.ref arr), (.int (8 : Int32))] 3)) t := fun t k => castTop (own_efco m arr) k
  obtain ⟨cl1, Ar1, qa1, Sa1, Na1, Ha1, Ga1⟩ := id V0
  have k2 : ∀ t, Steps p.tables e below (s₁.setTop (mkF m 15 #[.val (.ref arr), .val (.int (8 : Int32)), .unset] [(.int (8 : Int32))])) t → Steps p.tables e below (s₁.setTop (entryFrame m #[(.ref arr), (.int (8 : Int32))] 3)) t := by
    intro t k
    refine pre0 t ?_
    show Steps p.tables e below (s₁.setTop (mkF m 0 #[.val (.ref arr), .val (.int (8 : Int32)), .unset] [])) _
    refine XS.iloadN X0.here hx rfl (hb hby own_d8_0) rfl ?_
    show Steps p.tables e below (s₁.setTop (mkF m 1 #[.val (.ref arr), .val (.int (8 : Int32)), .unset] [(.int (8 : Int32))])) _
    refine XS.aloadN X0.here hx rfl (hb hby own_d8_1) rfl rfl ?_
    show Steps p.tables e below (s₁.setTop (mkF m 2 #[.val (.ref arr), .val (.int (8 : Int32)), .unset] [(.ref arr), (.int (8 : Int32))])) _
    refine X0.arraylength hx (by rw [e0]; exact Ar1.1) (State.isArrayOf_alike hZ.alike Ar1.2.1) (g := (mkF m 2 #[.val (.ref arr), .val (.int (8 : Int32)), .unset] [(.ref arr), (.int (8 : Int32))])) rfl rfl (hb hby own_d8_2) _ ?_
    rw [len_of Sa1 Na1]
    show Steps p.tables e below (s₁.setTop (mkF m 3 #[.val (.ref arr), .val (.int (8 : Int32)), .unset] [(.int (64 : Int32)), (.int (8 : Int32))])) _
    refine XS.icmpYes X0.here hx rfl (pc0 := 3) (pc' := 14) rfl (hb hby own_d8_3) rfl (feq (by decide : ¬ ((8 : Int32) = (64 : Int32)))).2 (by decide) (by decide) ?_
    show Steps p.tables e below (s₁.setTop (mkF m 14 #[.val (.ref arr), .val (.int (8 : Int32)), .unset] [])) _
    refine XS.iloadN X0.here hx rfl (hb hby own_d8_14) rfl ?_
    exact k
  obtain ⟨T3, h3, c3, X3, e3, E3, A3, st3⟩ := newP X0 hx hZ (hw _ (List.mem_of_getElem? (i := 9) rfl)) e0 (g := (mkF m 15 #[.val (.ref arr), .val (.int (8 : Int32)), .unset] [(.int (8 : Int32))])) rfl (hb hby own_d8_15) rfl (by decide) (cap := 8) (by decide) (by decide) (by decide) (by decide)
  obtain ⟨b3, g3⟩ : ∃ z, z = h0.size := ⟨_, rfl⟩
  rw [← g3] at A3 st3
  have ge3 : n0 ≤ b3 := Nat.le_trans Z0 (Nat.le_of_eq g3.symm)
  have bo3 : h0.size ≤ b3 := Nat.le_trans (Keep.refl h0 []).1 (Nat.le_of_eq g3.symm)
  have ne4 : arr ≠ b3 := Nat.ne_of_lt (Nat.lt_of_lt_of_le V0.lt (Nat.le_of_eq g3.symm))
  have Z3 : n0 ≤ h3.size := Nat.le_trans Z0 E3.1
  have K3 : Keep h0 h3 [] := (Keep.refl h0 []).ext E3
  have f5 := V0.ext E3
  have V3 : Arv Z h3 b3 c3 .byte (8 : Int32) [(.int (0 : Int32)), (.int (0 : Int32)), (.int (0 : Int32)), (.int (0 : Int32)), (.int (0 : Int32)), (.int (0 : Int32)), (.int (0 : Int32)), (.int (0 : Int32))] (.int (0 : Int32)) := (Arv.new A3 (by decide)).pad (pad_rep [] (.int (0 : Int32)) 8)
  have k6 : ∀ t, Steps p.tables e below (T3.setTop (mkF m 17 #[.val (.ref arr), .val (.int (8 : Int32)), .unset] [(.ref b3)])) t → Steps p.tables e below (s₁.setTop (entryFrame m #[(.ref arr), (.int (8 : Int32))] 3)) t := fun t k => k2 t (st3 t k)
  obtain ⟨cl7, Ar7, qa7, Sa7, Na7, Ha7, Ga7⟩ := id f5
  have k8 : ∀ t, Steps p.tables e below (T3.setTop (mkF m 25 #[.val (.ref arr), .val (.int (8 : Int32)), .val (.ref b3)] [(.int (8 : Int32)), (.int (64 : Int32)), (.int (0 : Int32)), (.ref b3), (.int (0 : Int32)), (.ref arr)])) t → Steps p.tables e below (s₁.setTop (entryFrame m #[(.ref arr), (.int (8 : Int32))] 3)) t := by
    intro t k
    refine k6 t ?_
    show Steps p.tables e below (T3.setTop (mkF m 17 #[.val (.ref arr), .val (.int (8 : Int32)), .unset] [(.ref b3)])) _
    refine XS.astoreN X3.here hx rfl (hb hby own_d8_17) rfl rfl (l' := #[.val (.ref arr), .val (.int (8 : Int32)), .val (.ref b3)]) rfl ?_
    show Steps p.tables e below (T3.setTop (mkF m 18 #[.val (.ref arr), .val (.int (8 : Int32)), .val (.ref b3)] [])) _
    refine XS.aloadN X3.here hx rfl (hb hby own_d8_18) rfl rfl ?_
    show Steps p.tables e below (T3.setTop (mkF m 19 #[.val (.ref arr), .val (.int (8 : Int32)), .val (.ref b3)] [(.ref arr)])) _
    refine XS.iconst X3.here hx rfl (hb hby own_d8_19) ?_
    show Steps p.tables e below (T3.setTop (mkF m 20 #[.val (.ref arr), .val (.int (8 : Int32)), .val (.ref b3)] [(.int (0 : Int32)), (.ref arr)])) _
    refine XS.aloadN X3.here hx rfl (hb hby own_d8_20) rfl rfl ?_
    show Steps p.tables e below (T3.setTop (mkF m 21 #[.val (.ref arr), .val (.int (8 : Int32)), .val (.ref b3)] [(.ref b3), (.int (0 : Int32)), (.ref arr)])) _
    refine XS.iconst X3.here hx rfl (hb hby own_d8_21) ?_
    show Steps p.tables e below (T3.setTop (mkF m 22 #[.val (.ref arr), .val (.int (8 : Int32)), .val (.ref b3)] [(.int (0 : Int32)), (.ref b3), (.int (0 : Int32)), (.ref arr)])) _
    refine XS.aloadN X3.here hx rfl (hb hby own_d8_22) rfl rfl ?_
    show Steps p.tables e below (T3.setTop (mkF m 23 #[.val (.ref arr), .val (.int (8 : Int32)), .val (.ref b3)] [(.ref arr), (.int (0 : Int32)), (.ref b3), (.int (0 : Int32)), (.ref arr)])) _
    refine X3.arraylength hx (by rw [e3]; exact Ar7.1) (State.isArrayOf_alike hZ.alike Ar7.2.1) (g := (mkF m 23 #[.val (.ref arr), .val (.int (8 : Int32)), .val (.ref b3)] [(.ref arr), (.int (0 : Int32)), (.ref b3), (.int (0 : Int32)), (.ref arr)])) rfl rfl (hb hby own_d8_23) _ ?_
    rw [len_of Sa7 Na7]
    show Steps p.tables e below (T3.setTop (mkF m 24 #[.val (.ref arr), .val (.int (8 : Int32)), .val (.ref b3)] [(.int (64 : Int32)), (.int (0 : Int32)), (.ref b3), (.int (0 : Int32)), (.ref arr)])) _
    refine XS.iloadN X3.here hx rfl (hb hby own_d8_24) rfl ?_
    exact k
  obtain ⟨_, _, ⟨T9, L9, k9c, n9⟩, -, X9, ⟨Lc9, hQ9, l9, y9, z9⟩, st9⟩ := Jvm.LawKit.callS X3 hx (y := (⟨"java/lang/Math", "min", "(II)I"⟩ : MethodName)) hown (mvT hZ (hw _ (List.mem_of_getElem? (i := 43) rfl))) (mvT hZ (hw _ (List.mem_of_getElem? (i := 44) rfl))) (mvT hZ (hw _ (List.mem_of_getElem? (i := 45) rfl))) (mvT hZ (hw _ (List.mem_of_getElem? (i := 46) rfl))) (by decide) (backOf (W := 4) (own_rmmn l Z a0 hw [] (64 : Int32) (8 : Int32) h3 n0 Z3) hZ (hw _ (List.mem_of_getElem? (i := 46) rfl)) (hw _ (List.mem_of_getElem? (i := 45) rfl)) (by decide) (by decide)) (g := (mkF m 25 #[.val (.ref arr), .val (.int (8 : Int32)), .val (.ref b3)] [(.int (8 : Int32)), (.int (64 : Int32)), (.int (0 : Int32)), (.ref b3), (.int (0 : Int32)), (.ref arr)])) rfl (by rw [hml]; rfl) (argsL := [(.int (64 : Int32)), (.int (8 : Int32))]) (rest := [(.int (0 : Int32)), (.ref b3), (.int (0 : Int32)), (.ref arr)]) (lenOf own_pd2 rfl) rfl (by show 2 * 0 + _ ≤ _; exact Nat.le_of_eq rfl) (hb hby own_d8_25) (fun _ _ => ⟨rfl, e3, (by decide : 1 + 0 ≤ _), (by decide : 8 + 0 ≤ _)⟩)
  dsimp only [Pt.U, Pt.locs, Pt.cells, Pt.slots] at X9 l9 y9 z9 st9 hQ9
  subst l9 y9 z9
  obtain ⟨hr9, N9q, e9⟩ := hQ9
  rw [show (own_vmn (64 : Int32) (8 : Int32)) = (8 : Int32) from by decide] at hr9
  subst hr9
  have N9 := Fr.app N0 N9q
  have k10 : ∀ t, Steps p.tables e below (T9.setTop (mkF m 28 #[.val (.ref arr), .val (.int (8 : Int32)), .val (.ref b3)] [(.int (8 : Int32)), (.int (0 : Int32)), (.ref b3), (.int (0 : Int32)), (.ref arr)])) t → Steps p.tables e below (s₁.setTop (entryFrame m #[(.ref arr), (.int (8 : Int32))] 3)) t := fun t k => k8 t (st9 t k)
  obtain ⟨T11, h11, L11, X11, e11, N11, Kc11, Vc11, st11⟩ := cpA X9 hx hZ hown (hw _ (List.mem_of_getElem? (i := 47) rfl)) (hw _ (List.mem_of_getElem? (i := 50) rfl)) (hw _ (List.mem_of_getElem? (i := 48) rfl)) (hw _ (List.mem_of_getElem? (i := 49) rfl)) e9 (us := [(.int v0), (.int v1), (.int v2), (.int v3), (.int v4), (.int v5), (.int v6), (.int v7)]) f5 V3 (Or.inl ⟨rfl, rfl⟩) (by decide) (by decide) (by decide) (by decide) (by decide) rfl (by decide) N9 ge3 (g := (mkF m 28 #[.val (.ref arr), .val (.int (8 : Int32)), .val (.ref b3)] [(.int (8 : Int32)), (.int (0 : Int32)), (.ref b3), (.int (0 : Int32)), (.ref arr)])) rfl (by rw [hml]; rfl) (rest := []) rfl (hb hby own_d8_28) (by decide) (W := 0) (by show 2 * 0 + _ ≤ _; exact Nat.le_of_eq rfl) (by decide)
  have f12 := f5.keep Kc11 (List.not_mem_cons_of_ne_of_not_mem ne4 List.not_mem_nil)
  have Z11 : n0 ≤ h11.size := Nat.le_trans Z3 Kc11.1
  have K11 : Keep h0 h11 [] := K3.trans Kc11 (fun x hx => by rcases List.mem_cons.mp hx with rfl | hx; exact Or.inr bo3; exact nomatch hx)
  have V11 : Arv Z h11 b3 c3 .byte (8 : Int32) [(.int v0), (.int v1), (.int v2), (.int v3), (.int v4), (.int v5), (.int v6), (.int v7)] (.int (0 : Int32)) := Vc11
  have k13 : ∀ t, Steps p.tables e below (T11.setTop (mkF m 31 #[.val (.ref arr), .val (.int (8 : Int32)), .val (.ref b3)] [])) t → Steps p.tables e below (s₁.setTop (entryFrame m #[(.ref arr), (.int (8 : Int32))] 3)) t := fun t k => k10 t (st11 t k)
  have k14 : ∀ t, Steps p.tables e below (T11.setTop (mkF m 32 #[.val (.ref arr), .val (.int (8 : Int32)), .val (.ref b3)] [(.ref b3)])) t → Steps p.tables e below (s₁.setTop (entryFrame m #[(.ref arr), (.int (8 : Int32))] 3)) t := by
    intro t k
    refine k13 t ?_
    show Steps p.tables e below (T11.setTop (mkF m 31 #[.val (.ref arr), .val (.int (8 : Int32)), .val (.ref b3)] [])) _
    refine XS.aloadN X11.here hx rfl (hb hby own_d8_31) rfl rfl ?_
    exact k
  obtain ⟨fs, hr, hrun, hended, hW, hsame⟩ := X11.leave (v := (some (.ref b3))) (fun h => by rw [Bd.returns] at h; cases h)
  refine ⟨_, _, k14 _ ?_, hrun, hended, _, _, rfl, ?_, ⟨_, rfl⟩, hW, hsame.mono (by decide) (by decide)⟩
  · exact retOut X11 hx Bd.returns rfl (Or.inr (Or.inr (Or.inr (Or.inr ⟨rfl, rfl, rfl⟩)))) (hb hby own_d8_32) hr
  · show own_Qco Z arr cc v0 v1 v2 v3 v4 v5 v6 v7 h0 n0 _ T11.heap _
    rw [e11]
    exact ⟨b3, c3, rfl, N11, K11, V11⟩
theorem own_d7_0 : decode prog_9_method_10_code 0 = .ok (.aload_n 0, 1) := by decide +kernel
theorem own_d7_1 : decode prog_9_method_10_code 1 = .ok (.getfield 7, 3) := by decide +kernel
theorem own_d7_4 : decode prog_9_method_10_code 4 = .ok (.aload_n 0, 1) := by decide +kernel
theorem own_d7_5 : decode prog_9_method_10_code 5 = .ok (.getfield 13, 3) := by decide +kernel
theorem own_d7_8 : decode prog_9_method_10_code 8 = .ok (.invokestatic 31, 3) := by decide +kernel
theorem own_d7_11 : decode prog_9_method_10_code 11 = .ok (.areturn, 1) := by decide +kernel
theorem own_pd3 : parseMethodDescriptor "([BI)[B" = some ⟨[(.array .byte), .int], some (.array .byte)⟩ := by decide +kernel
theorem own_efta (m : MethodId) (x0 : Addr) : entryFrame m #[(.ref x0)] 1 = mkF m 0 #[.val (.ref x0)] [] := by first | (simp [entryFrame, mkF, argsToLocals, Value.category]; done) | rfl
def own_Qta (Z : State) (a : Addr) (arr : Addr) (cc : ClassId) (v0 : Int32) (v1 : Int32) (v2 : Int32) (v3 : Int32) (v4 : Int32) (v5 : Int32) (v6 : Int32) (v7 : Int32) (h0 : Heap) (n0 : Nat) (v : Option Value) (h : Heap) (L : List Loc) : Prop := ∃ r c2, v = some (.ref r) ∧ Fr n0 L ∧ Keep h0 h [] ∧ Arv Z h r c2 .byte (8 : Int32) [(.int v0), (.int v1), (.int v2), (.int v3), (.int v4), (.int v5), (.int v6), (.int v7)] (.int (0 : Int32))
set_option maxRecDepth 65536 in
set_option maxHeartbeats 40000000 in
theorem own_rmta (l : Launch) (Z : State) (a0 : Array Value) (hw : ∀ d ∈ tables_1, d.before a0 Z = true) (ws : List Jvm.Cond) (a : Addr) (arr : Addr) (cc : ClassId) (v0 : Int32) (v1 : Int32) (v2 : Int32) (v3 : Int32) (v4 : Int32) (v5 : Int32) (v6 : Int32) (v7 : Int32) (h0 : Heap) (n0 : Nat) (Z0 : n0 ≤ h0.size) (F1 : Fld Z h0 a "com/example/reckoner/reckoner/Bytes" "bytes" "[B" (.ref arr)) (F2 : Fld Z h0 a "com/example/reckoner/reckoner/Bytes" "length" "I" (.int (8 : Int32))) (V0 : Arv Z h0 arr cc .byte (64 : Int32) [(.int v0), (.int v1), (.int v2), (.int v3), (.int v4), (.int v5), (.int v6), (.int v7)] (.int (0 : Int32))) :
    MetFree l (⟨"com/example/reckoner/reckoner/Bytes", "toArray", "()[B"⟩ : MethodName) (head1 (Jvm.Cond.code (⟨"com/example/reckoner/reckoner/Bytes", "toArray", "()[B"⟩ : MethodName) prog_9_method_10_code 1 (some (.array .byte)) :: ws) ({ frames := 2, cells := 1, slots := 8, locals := 32 } : Room)) (fun aa U => aa = #[(.ref a)] ∧ Z.Warmed39 U.vm ∧ U.heap = h0) (fun _ _ _ _ _ => True) (fun _ U o U' => ∃ v L, o = .returned v ∧ own_Qta Z a arr cc v0 v1 v2 v3 v4 v5 v6 v7 h0 n0 v U'.heap L ∧ FrameEnd U o U' L ({ frames := 2, cells := 1, slots := 8, locals := 32 } : Room).cells ({ frames := 2, cells := 1, slots := 8, locals := 32 } : Room).slots) := by
  refine MetFree.of_bodySF (plainFor_of_name own_pn0) hisR ?_
  intro p e s m args below meth c s₁ Bd hml0 hP hK
  obtain ⟨rfl, hZ, hh⟩ := hP
  have hx := Bd.exec
  have hby := Bd.bytes
  have hml : c.maxLocals = 1 := hml0
  have hown : s.vm.findClass "com/example/reckoner/reckoner/Bytes" = some m.cls := findClass_of_methodNamed Bd.named
  have hnm := (name_of_methodNamed Bd.named Bd.method).1
  have X0 : Stand p l e ({ frames := 2, cells := 1, slots := 8, locals := 32 } : Room) s m #[(.ref a)] below meth c s₁ [] 0 0 := Stand.of_body Bd
  have e0 : s₁.heap = h0 := by rw [← hh, Bd.state]; rfl
  have N0 := Fr.nil n0
  have pre0 : ∀ t, Steps p.tables e below (s₁.setTop (mkF m 0 #[.val (.ref a)] [])) t → Steps p.tables e below (s₁.setTop (entryFrame m #[(.ref a)] 1)) t := fun t k => castTop (own_efta m a) k
  have k1 : ∀ t, Steps p.tables e below (s₁.setTop (mkF m 1 #[.val (.ref a)] [(.ref a)])) t → Steps p.tables e below (s₁.setTop (entryFrame m #[(.ref a)] 1)) t := by
    intro t k
    refine pre0 t ?_
    show Steps p.tables e below (s₁.setTop (mkF m 0 #[.val (.ref a)] [])) _
    refine XS.aloadN X0.here hx rfl (hb hby own_d7_0) rfl rfl ?_
    exact k
  obtain ⟨T2, X2, e2, st2⟩ := getF X0 hx hZ hown (host := "") (Or.inl (hw _ (List.mem_of_getElem? (i := 10) rfl))) Via.refl e0 F1 (g := (mkF m 1 #[.val (.ref a)] [(.ref a)])) rfl rfl (hb hby own_d7_1)
  have k3 : ∀ t, Steps p.tables e below (T2.setTop (mkF m 4 #[.val (.ref a)] [(.ref arr)])) t → Steps p.tables e below (s₁.setTop (entryFrame m #[(.ref a)] 1)) t := fun t k => k1 t (st2 t k)
  have k4 : ∀ t, Steps p.tables e below (T2.setTop (mkF m 5 #[.val (.ref a)] [(.ref a), (.ref arr)])) t → Steps p.tables e below (s₁.setTop (entryFrame m #[(.ref a)] 1)) t := by
    intro t k
    refine k3 t ?_
    show Steps p.tables e below (T2.setTop (mkF m 4 #[.val (.ref a)] [(.ref arr)])) _
    refine XS.aloadN X2.here hx rfl (hb hby own_d7_4) rfl rfl ?_
    exact k
  obtain ⟨T5, X5, e5, st5⟩ := getF X2 hx hZ hown (host := "") (Or.inl (hw _ (List.mem_of_getElem? (i := 26) rfl))) Via.refl e2 F2 (g := (mkF m 5 #[.val (.ref a)] [(.ref a), (.ref arr)])) rfl rfl (hb hby own_d7_5)
  have k6 : ∀ t, Steps p.tables e below (T5.setTop (mkF m 8 #[.val (.ref a)] [(.int (8 : Int32)), (.ref arr)])) t → Steps p.tables e below (s₁.setTop (entryFrame m #[(.ref a)] 1)) t := fun t k => k4 t (st5 t k)
  obtain ⟨_, _, ⟨T7, L7, k7c, n7⟩, -, X7, ⟨Lc7, hQ7, l7, y7, z7⟩, st7⟩ := Jvm.LawKit.callS X5 hx (y := (⟨"java/util/Arrays", "copyOf", "([BI)[B"⟩ : MethodName)) hown (mvT hZ (hw _ (List.mem_of_getElem? (i := 39) rfl))) (mvT hZ (hw _ (List.mem_of_getElem? (i := 40) rfl))) (mvT hZ (hw _ (List.mem_of_getElem? (i := 41) rfl))) (mvT hZ (hw _ (List.mem_of_getElem? (i := 42) rfl))) (by decide) (backOf (W := 0) (own_rmco l Z a0 hw [] arr cc v0 v1 v2 v3 v4 v5 v6 v7 h0 n0 Z0 V0) hZ (hw _ (List.mem_of_getElem? (i := 42) rfl)) (hw _ (List.mem_of_getElem? (i := 41) rfl)) (by decide) (by decide)) (g := (mkF m 8 #[.val (.ref a)] [(.int (8 : Int32)), (.ref arr)])) rfl (by rw [hml]; rfl) (argsL := [(.ref arr), (.int (8 : Int32))]) (rest := []) (lenOf own_pd3 rfl) rfl (by show 2 * 0 + _ ≤ _; exact Nat.le_of_eq rfl) (hb hby own_d7_8) (fun _ _ => ⟨rfl, e5, (by decide : 0 + 1 ≤ _), (by decide : 0 + 8 ≤ _)⟩)
  dsimp only [Pt.U, Pt.locs, Pt.cells, Pt.slots] at X7 l7 y7 z7 st7 hQ7
  subst l7 y7 z7
  obtain ⟨rr7, rc7, rfl, N7q, Kq7, Vr7⟩ := hQ7
  have N7 := Fr.app N0 N7q
  have f8 := F1.keep Kq7 List.not_mem_nil
  have f9 := F2.keep Kq7 List.not_mem_nil
  have f10 := V0.keep Kq7 List.not_mem_nil
  have Z7 : n0 ≤ T7.heap.size := Nat.le_trans Z0 Kq7.1
  have K7 : Keep h0 T7.heap [] := (Keep.refl h0 []).trans Kq7 (fun x hx => nomatch hx)
  have k11 : ∀ t, Steps p.tables e below (T7.setTop (mkF m 11 #[.val (.ref a)] [(.ref rr7)])) t → Steps p.tables e below (s₁.setTop (entryFrame m #[(.ref a)] 1)) t := fun t k => k6 t (st7 t k)
  obtain ⟨fs, hr, hrun, hended, hW, hsame⟩ := X7.leave (v := (some (.ref rr7))) (fun h => by rw [Bd.returns] at h; cases h)
  refine ⟨_, _, k11 _ ?_, hrun, hended, _, _, rfl, ?_, ⟨_, rfl⟩, hW, hsame.mono (by decide) (by decide)⟩
  · exact retOut X7 hx Bd.returns rfl (Or.inr (Or.inr (Or.inr (Or.inr ⟨rfl, rfl, rfl⟩)))) (hb hby own_d7_11) hr
  · exact ⟨rr7, rc7, rfl, N7, K7, Vr7⟩
def own_vln  (w1 : Int32) : Int32 :=
  w1
theorem own_d10_0 : decode prog_9_method_2_code 0 = .ok (.aload_n 0, 1) := by decide +kernel
theorem own_d10_1 : decode prog_9_method_2_code 1 = .ok (.getfield 13, 3) := by decide +kernel
theorem own_d10_4 : decode prog_9_method_2_code 4 = .ok (.ireturn, 1) := by decide +kernel
theorem own_efln (m : MethodId) (x0 : Addr) : entryFrame m #[(.ref x0)] 1 = mkF m 0 #[.val (.ref x0)] [] := by first | (simp [entryFrame, mkF, argsToLocals, Value.category]; done) | rfl
def own_Qln (Z : State) (a : Addr) (w1 : Int32) (h0 : Heap) (n0 : Nat) (v : Option Value) (h : Heap) (L : List Loc) : Prop := v = some (.int (own_vln w1)) ∧ Fr n0 L ∧ h = h0
set_option maxRecDepth 65536 in
set_option maxHeartbeats 40000000 in
theorem own_rmln (l : Launch) (Z : State) (a0 : Array Value) (hw : ∀ d ∈ tables_1, d.before a0 Z = true) (ws : List Jvm.Cond) (a : Addr) (w1 : Int32) (h0 : Heap) (n0 : Nat) (Z0 : n0 ≤ h0.size) (F2 : Fld Z h0 a "com/example/reckoner/reckoner/Bytes" "length" "I" (.int w1)) :
    MetFree l (⟨"com/example/reckoner/reckoner/Bytes", "length", "()I"⟩ : MethodName) (head1 (Jvm.Cond.code (⟨"com/example/reckoner/reckoner/Bytes", "length", "()I"⟩ : MethodName) prog_9_method_2_code 1 (some .int) :: ws) ({ frames := 0, cells := 0, slots := 0, locals := 0 } : Room)) (fun aa U => aa = #[(.ref a)] ∧ Z.Warmed39 U.vm ∧ U.heap = h0) (fun _ _ _ _ _ => True) (fun _ U o U' => ∃ v L, o = .returned v ∧ own_Qln Z a w1 h0 n0 v U'.heap L ∧ FrameEnd U o U' L ({ frames := 0, cells := 0, slots := 0, locals := 0 } : Room).cells ({ frames := 0, cells := 0, slots := 0, locals := 0 } : Room).slots) := by
  refine MetFree.of_bodySF (plainFor_of_name own_pn0) hisR ?_
  intro p e s m args below meth c s₁ Bd hml0 hP hK
  obtain ⟨rfl, hZ, hh⟩ := hP
  have hx := Bd.exec
  have hby := Bd.bytes
  have hml : c.maxLocals = 1 := hml0
  have hown : s.vm.findClass "com/example/reckoner/reckoner/Bytes" = some m.cls := findClass_of_methodNamed Bd.named
  have hnm := (name_of_methodNamed Bd.named Bd.method).1
  have X0 : Stand p l e ({ frames := 0, cells := 0, slots := 0, locals := 0 } : Room) s m #[(.ref a)] below meth c s₁ [] 0 0 := Stand.of_body Bd
  have e0 : s₁.heap = h0 := by rw [← hh, Bd.state]; rfl
  have N0 := Fr.nil n0
  have pre0 : ∀ t, Steps p.tables e below (s₁.setTop (mkF m 0 #[.val (.ref a)] [])) t → Steps p.tables e below (s₁.setTop (entryFrame m #[(.ref a)] 1)) t := fun t k => castTop (own_efln m a) k
  have k1 : ∀ t, Steps p.tables e below (s₁.setTop (mkF m 1 #[.val (.ref a)] [(.ref a)])) t → Steps p.tables e below (s₁.setTop (entryFrame m #[(.ref a)] 1)) t := by
    intro t k
    refine pre0 t ?_
    show Steps p.tables e below (s₁.setTop (mkF m 0 #[.val (.ref a)] [])) _
    refine XS.aloadN X0.here hx rfl (hb hby own_d10_0) rfl rfl ?_
    exact k
  obtain ⟨T2, X2, e2, st2⟩ := getF X0 hx hZ hown (host := "") (Or.inl (hw _ (List.mem_of_getElem? (i := 26) rfl))) Via.refl e0 F2 (g := (mkF m 1 #[.val (.ref a)] [(.ref a)])) rfl rfl (hb hby own_d10_1)
  have k3 : ∀ t, Steps p.tables e below (T2.setTop (mkF m 4 #[.val (.ref a)] [(.int w1)])) t → Steps p.tables e below (s₁.setTop (entryFrame m #[(.ref a)] 1)) t := fun t k => k1 t (st2 t k)
  obtain ⟨fs, hr, hrun, hended, hW, hsame⟩ := X2.leave (v := (some (.int w1))) (fun h => by rw [Bd.returns] at h; cases h)
  refine ⟨_, _, k3 _ ?_, hrun, hended, _, _, rfl, ?_, ⟨_, rfl⟩, hW, hsame.mono (by decide) (by decide)⟩
  · exact retI X2 hx Bd.returns (hb hby own_d10_4) hr
  · have hv : (own_vln w1) = w1 := rfl
    exact ⟨congrArg (fun z => some (Value.int z)) hv.symm, N0, e2⟩
def own_ex0 (p3 : Int32) (p4 : Int32) (p5 : Int64) : Int32 := if (0 : Int32) = p3 then ((p4 >>> ((8 : Int32) &&& 31)) &&& (255 : Int32)) else if (0 : Int32) = (p3 + (1 : Int32)) then (p4 &&& (255 : Int32)) else ((((p5.toUInt64 >>> ((56 : Int32) &&& 0x3f).toInt64.toUInt64).toInt64) &&& (255 : Int64)).toInt32)
def own_vat0 (p3 : Int32) (p4 : Int32) (p5 : Int64) (v0 : Int32) : Int32 :=
  if (v0 &&& (255 : Int32)) = (own_ex0 p3 p4 p5) then (1 : Int32) else
  (0 : Int32)
theorem own_d11_0 : decode method_3_code 0 = .ok (.iload_n 1, 1) := by decide +kernel
theorem own_d11_1 : decode method_3_code 1 = .ok (.iload_n 2, 1) := by decide +kernel
theorem own_d11_2 : decode method_3_code 2 = .ok (.if_icmp .ne 16, 3) := by decide +kernel
theorem own_d11_5 : decode method_3_code 5 = .ok (.iload_n 3, 1) := by decide +kernel
theorem own_d11_6 : decode method_3_code 6 = .ok (.bipush 8, 2) := by decide +kernel
theorem own_d11_8 : decode method_3_code 8 = .ok (.ishr, 1) := by decide +kernel
theorem own_d11_9 : decode method_3_code 9 = .ok (.sipush 255, 3) := by decide +kernel
theorem own_d11_12 : decode method_3_code 12 = .ok (.iand, 1) := by decide +kernel
theorem own_d11_13 : decode method_3_code 13 = .ok (.istore 6, 2) := by decide +kernel
theorem own_d11_15 : decode method_3_code 15 = .ok (.goto 37, 3) := by decide +kernel
theorem own_d11_18 : decode method_3_code 18 = .ok (.iload_n 1, 1) := by decide +kernel
theorem own_d11_19 : decode method_3_code 19 = .ok (.iload_n 2, 1) := by decide +kernel
theorem own_d11_20 : decode method_3_code 20 = .ok (.iconst 1, 1) := by decide +kernel
theorem own_d11_21 : decode method_3_code 21 = .ok (.iadd, 1) := by decide +kernel
theorem own_d11_22 : decode method_3_code 22 = .ok (.if_icmp .ne 13, 3) := by decide +kernel
theorem own_d11_25 : decode method_3_code 25 = .ok (.iload_n 3, 1) := by decide +kernel
theorem own_d11_26 : decode method_3_code 26 = .ok (.sipush 255, 3) := by decide +kernel
theorem own_d11_29 : decode method_3_code 29 = .ok (.iand, 1) := by decide +kernel
theorem own_d11_30 : decode method_3_code 30 = .ok (.istore 6, 2) := by decide +kernel
theorem own_d11_32 : decode method_3_code 32 = .ok (.goto 20, 3) := by decide +kernel
theorem own_d11_35 : decode method_3_code 35 = .ok (.lload 4, 2) := by decide +kernel
theorem own_d11_37 : decode method_3_code 37 = .ok (.bipush 56, 2) := by decide +kernel
theorem own_d11_39 : decode method_3_code 39 = .ok (.bipush 8, 2) := by decide +kernel
theorem own_d11_41 : decode method_3_code 41 = .ok (.iload_n 1, 1) := by decide +kernel
theorem own_d11_42 : decode method_3_code 42 = .ok (.imul, 1) := by decide +kernel
theorem own_d11_43 : decode method_3_code 43 = .ok (.isub, 1) := by decide +kernel
theorem own_d11_44 : decode method_3_code 44 = .ok (.lushr, 1) := by decide +kernel
theorem own_d11_45 : decode method_3_code 45 = .ok (.ldc2_w 33, 3) := by decide +kernel
theorem own_d11_48 : decode method_3_code 48 = .ok (.land, 1) := by decide +kernel
theorem own_d11_49 : decode method_3_code 49 = .ok (.l2i, 1) := by decide +kernel
theorem own_d11_50 : decode method_3_code 50 = .ok (.istore 6, 2) := by decide +kernel
theorem own_d11_52 : decode method_3_code 52 = .ok (.aload_n 0, 1) := by decide +kernel
theorem own_d11_53 : decode method_3_code 53 = .ok (.iload_n 1, 1) := by decide +kernel
theorem own_d11_54 : decode method_3_code 54 = .ok (.baload, 1) := by decide +kernel
theorem own_d11_55 : decode method_3_code 55 = .ok (.sipush 255, 3) := by decide +kernel
theorem own_d11_58 : decode method_3_code 58 = .ok (.iand, 1) := by decide +kernel
theorem own_d11_59 : decode method_3_code 59 = .ok (.iload 6, 2) := by decide +kernel
theorem own_d11_61 : decode method_3_code 61 = .ok (.if_icmp .ne 7, 3) := by decide +kernel
theorem own_d11_64 : decode method_3_code 64 = .ok (.iconst 1, 1) := by decide +kernel
theorem own_d11_65 : decode method_3_code 65 = .ok (.goto 4, 3) := by decide +kernel
theorem own_d11_68 : decode method_3_code 68 = .ok (.iconst 0, 1) := by decide +kernel
theorem own_d11_69 : decode method_3_code 69 = .ok (.ireturn, 1) := by decide +kernel
theorem own_pn2 : plainName "com/example/reckoner/reckoner/BytesSetU2PinLaw" = true := by first | (simp [plainName, overriddenIn]; done) | decide +kernel
theorem own_efat0 (m : MethodId) (x0 : Addr) (x2 : Int32) (x3 : Int32) (x4 : Int64) : entryFrame m #[(.ref x0), (.int (0 : Int32)), (.int x2), (.int x3), (.long x4)] 7 = mkF m 0 #[.val (.ref x0), .val (.int (0 : Int32)), .val (.int x2), .val (.int x3), .val (.long x4), .second, .unset] [] := by first | (simp [entryFrame, mkF, argsToLocals, Value.category]; done) | rfl
def own_Qat0 (Z : State) (p1 : Addr) (p3 : Int32) (p4 : Int32) (p5 : Int64) (cc : ClassId) (v0 : Int32) (v1 : Int32) (v2 : Int32) (v3 : Int32) (v4 : Int32) (v5 : Int32) (v6 : Int32) (v7 : Int32) (h0 : Heap) (n0 : Nat) (v : Option Value) (h : Heap) (L : List Loc) : Prop := v = some (.int (own_vat0 p3 p4 p5 v0)) ∧ Fr n0 L ∧ h = h0
set_option maxRecDepth 65536 in
set_option maxHeartbeats 40000000 in
theorem own_rmat0 (l : Launch) (Z : State) (a0 : Array Value) (hw : ∀ d ∈ tables_1, d.before a0 Z = true) (ws : List Jvm.Cond) (p1 : Addr) (p3 : Int32) (p4 : Int32) (p5 : Int64) (cc : ClassId) (v0 : Int32) (v1 : Int32) (v2 : Int32) (v3 : Int32) (v4 : Int32) (v5 : Int32) (v6 : Int32) (v7 : Int32) (h0 : Heap) (n0 : Nat) (Z0 : n0 ≤ h0.size) (V0 : Arv Z h0 p1 cc .byte (8 : Int32) [(.int v0), (.int v1), (.int v2), (.int v3), (.int v4), (.int v5), (.int v6), (.int v7)] (.int (0 : Int32))) :
    MetFree l (⟨"com/example/reckoner/reckoner/BytesSetU2PinLaw", "at", "([BIIIJ)Z"⟩ : MethodName) (head1 (Jvm.Cond.code (⟨"com/example/reckoner/reckoner/BytesSetU2PinLaw", "at", "([BIIIJ)Z"⟩ : MethodName) method_3_code 7 (some .boolean) :: ws) ({ frames := 0, cells := 0, slots := 0, locals := 0 } : Room)) (fun aa U => aa = #[(.ref p1), (.int (0 : Int32)), (.int p3), (.int p4), (.long p5)] ∧ Z.Warmed39 U.vm ∧ U.heap = h0) (fun _ _ _ _ _ => True) (fun _ U o U' => ∃ v L, o = .returned v ∧ own_Qat0 Z p1 p3 p4 p5 cc v0 v1 v2 v3 v4 v5 v6 v7 h0 n0 v U'.heap L ∧ FrameEnd U o U' L ({ frames := 0, cells := 0, slots := 0, locals := 0 } : Room).cells ({ frames := 0, cells := 0, slots := 0, locals := 0 } : Room).slots) := by
  refine MetFree.of_bodySF (plainFor_of_name own_pn2) hisR ?_
  intro p e s m args below meth c s₁ Bd hml0 hP hK
  obtain ⟨rfl, hZ, hh⟩ := hP
  have hx := Bd.exec
  have hby := Bd.bytes
  have hml : c.maxLocals = 7 := hml0
  have hown : s.vm.findClass "com/example/reckoner/reckoner/BytesSetU2PinLaw" = some m.cls := findClass_of_methodNamed Bd.named
  have hnm := (name_of_methodNamed Bd.named Bd.method).1
  have X0 : Stand p l e ({ frames := 0, cells := 0, slots := 0, locals := 0 } : Room) s m #[(.ref p1), (.int (0 : Int32)), (.int p3), (.int p4), (.long p5)] below meth c s₁ [] 0 0 := Stand.of_body Bd
  have e0 : s₁.heap = h0 := by rw [← hh, Bd.state]; rfl
  have N0 := Fr.nil n0
  have pre0 : ∀ t, Steps p.tables e below (s₁.setTop (mkF m 0 #[.val (.ref p1), .val (.int (0 : Int32)), .val (.int p3), .val (.int p4), .val (.long p5), .second, .unset] [])) t → Steps p.tables e below (s₁.setTop (entryFrame m #[(.ref p1), (.int (0 : Int32)), (.int p3), (.int p4), (.long p5)] 7)) t := fun t k => castTop (own_efat0 m p1 p3 p4 p5) k
  have k1 : ∀ t, Steps p.tables e below (s₁.setTop (mkF m 52 #[.val (.ref p1), .val (.int (0 : Int32)), .val (.int p3), .val (.int p4), .val (.long p5), .second, .val (.int (own_ex0 p3 p4 p5))] [])) t → Steps p.tables e below (s₁.setTop (entryFrame m #[(.ref p1), (.int (0 : Int32)), (.int p3), (.int p4), (.long p5)] 7)) t := by
    intro t k
    refine pre0 t ?_
    show Steps p.tables e below (s₁.setTop (mkF m 0 #[.val (.ref p1), .val (.int (0 : Int32)), .val (.int p3), .val (.int p4), .val (.long p5), .second, .unset] [])) _
    refine XS.iloadN X0.here hx rfl (hb hby own_d11_0) rfl ?_
    show Steps p.tables e below (s₁.setTop (mkF m 1 #[.val (.ref p1), .val (.int (0 : Int32)), .val (.int p3), .val (.int p4), .val (.long p5), .second, .unset] [(.int (0 : Int32))])) _
    refine XS.iloadN X0.here hx rfl (hb hby own_d11_1) rfl ?_
    by_cases hc2_2 : (0 : Int32) = p3
    · show Steps p.tables e below (s₁.setTop (mkF m 2 #[.val (.ref p1), .val (.int (0 : Int32)), .val (.int p3), .val (.int p4), .val (.long p5), .second, .unset] [(.int p3), (.int (0 : Int32))])) _
      refine XS.icmpNo X0.here hx rfl (hb hby own_d11_2) rfl (teq hc2_2).2 ?_
      show Steps p.tables e below (s₁.setTop (mkF m 5 #[.val (.ref p1), .val (.int (0 : Int32)), .val (.int p3), .val (.int p4), .val (.long p5), .second, .unset] [])) _
      refine XS.iloadN X0.here hx rfl (hb hby own_d11_5) rfl ?_
      show Steps p.tables e below (s₁.setTop (mkF m 6 #[.val (.ref p1), .val (.int (0 : Int32)), .val (.int p3), .val (.int p4), .val (.long p5), .second, .unset] [(.int p4)])) _
      refine XS.bipush X0.here hx rfl (hb hby own_d11_6) ?_
      show Steps p.tables e below (s₁.setTop (mkF m 8 #[.val (.ref p1), .val (.int (0 : Int32)), .val (.int p3), .val (.int p4), .val (.long p5), .second, .unset] [(.int (8 : Int32)), (.int p4)])) _
      refine XS.ishr X0.here hx rfl (hb hby own_d11_8) rfl ?_
      show Steps p.tables e below (s₁.setTop (mkF m 9 #[.val (.ref p1), .val (.int (0 : Int32)), .val (.int p3), .val (.int p4), .val (.long p5), .second, .unset] [(.int (p4 >>> ((8 : Int32) &&& 31)))])) _
      refine XS.sipush X0.here hx rfl (hb hby own_d11_9) ?_
      show Steps p.tables e below (s₁.setTop (mkF m 12 #[.val (.ref p1), .val (.int (0 : Int32)), .val (.int p3), .val (.int p4), .val (.long p5), .second, .unset] [(.int (255 : Int32)), (.int (p4 >>> ((8 : Int32) &&& 31)))])) _
      refine XS.iand X0.here hx rfl (hb hby own_d11_12) rfl ?_
      show Steps p.tables e below (s₁.setTop (mkF m 13 #[.val (.ref p1), .val (.int (0 : Int32)), .val (.int p3), .val (.int p4), .val (.long p5), .second, .unset] [(.int ((p4 >>> ((8 : Int32) &&& 31)) &&& (255 : Int32)))])) _
      refine XS.istore X0.here hx rfl (hb hby own_d11_13) rfl (l' := #[.val (.ref p1), .val (.int (0 : Int32)), .val (.int p3), .val (.int p4), .val (.long p5), .second, .val (.int ((p4 >>> ((8 : Int32) &&& 31)) &&& (255 : Int32)))]) rfl ?_
      show Steps p.tables e below (s₁.setTop (mkF m 15 #[.val (.ref p1), .val (.int (0 : Int32)), .val (.int p3), .val (.int p4), .val (.long p5), .second, .val (.int ((p4 >>> ((8 : Int32) &&& 31)) &&& (255 : Int32)))] [])) _
      refine XS.goto X0.here hx rfl (pc0 := 15) (pc' := 52) rfl (hb hby own_d11_15) (by decide) (by decide) ?_
      have q0 : (own_ex0 p3 p4 p5) = ((p4 >>> ((8 : Int32) &&& 31)) &&& (255 : Int32)) := (if_pos hc2_2)
      rw [q0] at k
      exact k
    · show Steps p.tables e below (s₁.setTop (mkF m 2 #[.val (.ref p1), .val (.int (0 : Int32)), .val (.int p3), .val (.int p4), .val (.long p5), .second, .unset] [(.int p3), (.int (0 : Int32))])) _
      refine XS.icmpYes X0.here hx rfl (pc0 := 2) (pc' := 18) rfl (hb hby own_d11_2) rfl (feq hc2_2).2 (by decide) (by decide) ?_
      show Steps p.tables e below (s₁.setTop (mkF m 18 #[.val (.ref p1), .val (.int (0 : Int32)), .val (.int p3), .val (.int p4), .val (.long p5), .second, .unset] [])) _
      refine XS.iloadN X0.here hx rfl (hb hby own_d11_18) rfl ?_
      show Steps p.tables e below (s₁.setTop (mkF m 19 #[.val (.ref p1), .val (.int (0 : Int32)), .val (.int p3), .val (.int p4), .val (.long p5), .second, .unset] [(.int (0 : Int32))])) _
      refine XS.iloadN X0.here hx rfl (hb hby own_d11_19) rfl ?_
      show Steps p.tables e below (s₁.setTop (mkF m 20 #[.val (.ref p1), .val (.int (0 : Int32)), .val (.int p3), .val (.int p4), .val (.long p5), .second, .unset] [(.int p3), (.int (0 : Int32))])) _
      refine XS.iconst X0.here hx rfl (hb hby own_d11_20) ?_
      show Steps p.tables e below (s₁.setTop (mkF m 21 #[.val (.ref p1), .val (.int (0 : Int32)), .val (.int p3), .val (.int p4), .val (.long p5), .second, .unset] [(.int (1 : Int32)), (.int p3), (.int (0 : Int32))])) _
      refine XS.iadd X0.here hx rfl (hb hby own_d11_21) rfl ?_
      by_cases hc22_3 : (0 : Int32) = (p3 + (1 : Int32))
      · show Steps p.tables e below (s₁.setTop (mkF m 22 #[.val (.ref p1), .val (.int (0 : Int32)), .val (.int p3), .val (.int p4), .val (.long p5), .second, .unset] [(.int (p3 + (1 : Int32))), (.int (0 : Int32))])) _
        refine XS.icmpNo X0.here hx rfl (hb hby own_d11_22) rfl (teq hc22_3).2 ?_
        show Steps p.tables e below (s₁.setTop (mkF m 25 #[.val (.ref p1), .val (.int (0 : Int32)), .val (.int p3), .val (.int p4), .val (.long p5), .second, .unset] [])) _
        refine XS.iloadN X0.here hx rfl (hb hby own_d11_25) rfl ?_
        show Steps p.tables e below (s₁.setTop (mkF m 26 #[.val (.ref p1), .val (.int (0 : Int32)), .val (.int p3), .val (.int p4), .val (.long p5), .second, .unset] [(.int p4)])) _
        refine XS.sipush X0.here hx rfl (hb hby own_d11_26) ?_
        show Steps p.tables e below (s₁.setTop (mkF m 29 #[.val (.ref p1), .val (.int (0 : Int32)), .val (.int p3), .val (.int p4), .val (.long p5), .second, .unset] [(.int (255 : Int32)), (.int p4)])) _
        refine XS.iand X0.here hx rfl (hb hby own_d11_29) rfl ?_
        show Steps p.tables e below (s₁.setTop (mkF m 30 #[.val (.ref p1), .val (.int (0 : Int32)), .val (.int p3), .val (.int p4), .val (.long p5), .second, .unset] [(.int (p4 &&& (255 : Int32)))])) _
        refine XS.istore X0.here hx rfl (hb hby own_d11_30) rfl (l' := #[.val (.ref p1), .val (.int (0 : Int32)), .val (.int p3), .val (.int p4), .val (.long p5), .second, .val (.int (p4 &&& (255 : Int32)))]) rfl ?_
        show Steps p.tables e below (s₁.setTop (mkF m 32 #[.val (.ref p1), .val (.int (0 : Int32)), .val (.int p3), .val (.int p4), .val (.long p5), .second, .val (.int (p4 &&& (255 : Int32)))] [])) _
        refine XS.goto X0.here hx rfl (pc0 := 32) (pc' := 52) rfl (hb hby own_d11_32) (by decide) (by decide) ?_
        have q0 : (own_ex0 p3 p4 p5) = (p4 &&& (255 : Int32)) := ((if_neg hc2_2).trans (if_pos hc22_3))
        rw [q0] at k
        exact k
      · show Steps p.tables e below (s₁.setTop (mkF m 22 #[.val (.ref p1), .val (.int (0 : Int32)), .val (.int p3), .val (.int p4), .val (.long p5), .second, .unset] [(.int (p3 + (1 : Int32))), (.int (0 : Int32))])) _
        refine XS.icmpYes X0.here hx rfl (pc0 := 22) (pc' := 35) rfl (hb hby own_d11_22) rfl (feq hc22_3).2 (by decide) (by decide) ?_
        show Steps p.tables e below (s₁.setTop (mkF m 35 #[.val (.ref p1), .val (.int (0 : Int32)), .val (.int p3), .val (.int p4), .val (.long p5), .second, .unset] [])) _
        refine XS.lload X0.here hx rfl (hb hby own_d11_35) rfl ?_
        show Steps p.tables e below (s₁.setTop (mkF m 37 #[.val (.ref p1), .val (.int (0 : Int32)), .val (.int p3), .val (.int p4), .val (.long p5), .second, .unset] [(.long p5)])) _
        refine XS.bipush X0.here hx rfl (hb hby own_d11_37) ?_
        show Steps p.tables e below (s₁.setTop (mkF m 39 #[.val (.ref p1), .val (.int (0 : Int32)), .val (.int p3), .val (.int p4), .val (.long p5), .second, .unset] [(.int (56 : Int32)), (.long p5)])) _
        refine XS.bipush X0.here hx rfl (hb hby own_d11_39) ?_
        show Steps p.tables e below (s₁.setTop (mkF m 41 #[.val (.ref p1), .val (.int (0 : Int32)), .val (.int p3), .val (.int p4), .val (.long p5), .second, .unset] [(.int (8 : Int32)), (.int (56 : Int32)), (.long p5)])) _
        refine XS.iloadN X0.here hx rfl (hb hby own_d11_41) rfl ?_
        show Steps p.tables e below (s₁.setTop (mkF m 42 #[.val (.ref p1), .val (.int (0 : Int32)), .val (.int p3), .val (.int p4), .val (.long p5), .second, .unset] [(.int (0 : Int32)), (.int (8 : Int32)), (.int (56 : Int32)), (.long p5)])) _
        refine XS.imul X0.here hx rfl (hb hby own_d11_42) rfl ?_
        show Steps p.tables e below (s₁.setTop (mkF m 43 #[.val (.ref p1), .val (.int (0 : Int32)), .val (.int p3), .val (.int p4), .val (.long p5), .second, .unset] [(.int (0 : Int32)), (.int (56 : Int32)), (.long p5)])) _
        refine XS.isub X0.here hx rfl (hb hby own_d11_43) rfl ?_
        show Steps p.tables e below (s₁.setTop (mkF m 44 #[.val (.ref p1), .val (.int (0 : Int32)), .val (.int p3), .val (.int p4), .val (.long p5), .second, .unset] [(.int (56 : Int32)), (.long p5)])) _
        refine XS.lushr X0.here hx rfl (hb hby own_d11_44) rfl ?_
        show Steps p.tables e below (s₁.setTop (mkF m 45 #[.val (.ref p1), .val (.int (0 : Int32)), .val (.int p3), .val (.int p4), .val (.long p5), .second, .unset] [(.long ((p5.toUInt64 >>> ((56 : Int32) &&& 0x3f).toInt64.toUInt64).toInt64))])) _
        refine X0.ldc2Long hx hown (mvT hZ (hw _ (List.mem_of_getElem? (i := 60) rfl))) (g := (mkF m 45 #[.val (.ref p1), .val (.int (0 : Int32)), .val (.int p3), .val (.int p4), .val (.long p5), .second, .unset] [(.long ((p5.toUInt64 >>> ((56 : Int32) &&& 0x3f).toInt64.toUInt64).toInt64))])) rfl (hb hby own_d11_45) _ ?_
        show Steps p.tables e below (s₁.setTop (mkF m 48 #[.val (.ref p1), .val (.int (0 : Int32)), .val (.int p3), .val (.int p4), .val (.long p5), .second, .unset] [(.long (255 : Int64)), (.long ((p5.toUInt64 >>> ((56 : Int32) &&& 0x3f).toInt64.toUInt64).toInt64))])) _
        refine XS.land X0.here hx rfl (hb hby own_d11_48) rfl ?_
        show Steps p.tables e below (s₁.setTop (mkF m 49 #[.val (.ref p1), .val (.int (0 : Int32)), .val (.int p3), .val (.int p4), .val (.long p5), .second, .unset] [(.long (((p5.toUInt64 >>> ((56 : Int32) &&& 0x3f).toInt64.toUInt64).toInt64) &&& (255 : Int64)))])) _
        refine XS.l2i X0.here hx rfl (hb hby own_d11_49) rfl ?_
        show Steps p.tables e below (s₁.setTop (mkF m 50 #[.val (.ref p1), .val (.int (0 : Int32)), .val (.int p3), .val (.int p4), .val (.long p5), .second, .unset] [(.int ((((p5.toUInt64 >>> ((56 : Int32) &&& 0x3f).toInt64.toUInt64).toInt64) &&& (255 : Int64)).toInt32))])) _
        refine XS.istore X0.here hx rfl (hb hby own_d11_50) rfl (l' := #[.val (.ref p1), .val (.int (0 : Int32)), .val (.int p3), .val (.int p4), .val (.long p5), .second, .val (.int ((((p5.toUInt64 >>> ((56 : Int32) &&& 0x3f).toInt64.toUInt64).toInt64) &&& (255 : Int64)).toInt32))]) rfl ?_
        have q0 : (own_ex0 p3 p4 p5) = ((((p5.toUInt64 >>> ((56 : Int32) &&& 0x3f).toInt64.toUInt64).toInt64) &&& (255 : Int64)).toInt32) := ((if_neg hc2_2).trans (if_neg hc22_3))
        rw [q0] at k
        exact k
  obtain ⟨cl4, Ar4, qa4, Sa4, Na4, Ha4, Ga4⟩ := id V0
  have hin5 : ¬ ((0 : Int32) < 0 ∨ cl4.slots.size ≤ ((0 : Int32)).toNatClampNeg) := inb_of Sa4 ⟨by decide, by decide⟩
  have hat6 : cl4.slots[((0 : Int32)).toNatClampNeg]? = some (.int v0) := Ha4 0 (Nat.lt_of_not_le fun q => hin5 (Or.inr q))
  have k7 : ∀ t, Steps p.tables e below (s₁.setTop (mkF m 61 #[.val (.ref p1), .val (.int (0 : Int32)), .val (.int p3), .val (.int p4), .val (.long p5), .second, .val (.int (own_ex0 p3 p4 p5))] [(.int (own_ex0 p3 p4 p5)), (.int (v0 &&& (255 : Int32)))])) t → Steps p.tables e below (s₁.setTop (entryFrame m #[(.ref p1), (.int (0 : Int32)), (.int p3), (.int p4), (.long p5)] 7)) t := by
    intro t k
    refine k1 t ?_
    show Steps p.tables e below (s₁.setTop (mkF m 52 #[.val (.ref p1), .val (.int (0 : Int32)), .val (.int p3), .val (.int p4), .val (.long p5), .second, .val (.int (own_ex0 p3 p4 p5))] [])) _
    refine XS.aloadN X0.here hx rfl (hb hby own_d11_52) rfl rfl ?_
    show Steps p.tables e below (s₁.setTop (mkF m 53 #[.val (.ref p1), .val (.int (0 : Int32)), .val (.int p3), .val (.int p4), .val (.long p5), .second, .val (.int (own_ex0 p3 p4 p5))] [(.ref p1)])) _
    refine XS.iloadN X0.here hx rfl (hb hby own_d11_53) rfl ?_
    show Steps p.tables e below (s₁.setTop (mkF m 54 #[.val (.ref p1), .val (.int (0 : Int32)), .val (.int p3), .val (.int p4), .val (.long p5), .second, .val (.int (own_ex0 p3 p4 p5))] [(.int (0 : Int32)), (.ref p1)])) _
    refine X0.baloadBytes hx (j := (0 : Int32)) (v := (.int v0)) (by rw [e0]; exact Ar4.1) (State.isArrayOf_alike hZ.alike Ar4.2.1) Ar4.2.2 hin5 hat6 (g := (mkF m 54 #[.val (.ref p1), .val (.int (0 : Int32)), .val (.int p3), .val (.int p4), .val (.long p5), .second, .val (.int (own_ex0 p3 p4 p5))] [(.int (0 : Int32)), (.ref p1)])) rfl rfl (hb hby own_d11_54) _ ?_
    show Steps p.tables e below (s₁.setTop (mkF m 55 #[.val (.ref p1), .val (.int (0 : Int32)), .val (.int p3), .val (.int p4), .val (.long p5), .second, .val (.int (own_ex0 p3 p4 p5))] [(.int v0)])) _
    refine XS.sipush X0.here hx rfl (hb hby own_d11_55) ?_
    show Steps p.tables e below (s₁.setTop (mkF m 58 #[.val (.ref p1), .val (.int (0 : Int32)), .val (.int p3), .val (.int p4), .val (.long p5), .second, .val (.int (own_ex0 p3 p4 p5))] [(.int (255 : Int32)), (.int v0)])) _
    refine XS.iand X0.here hx rfl (hb hby own_d11_58) rfl ?_
    show Steps p.tables e below (s₁.setTop (mkF m 59 #[.val (.ref p1), .val (.int (0 : Int32)), .val (.int p3), .val (.int p4), .val (.long p5), .second, .val (.int (own_ex0 p3 p4 p5))] [(.int (v0 &&& (255 : Int32)))])) _
    refine XS.iload X0.here hx rfl (hb hby own_d11_59) rfl ?_
    exact k
  by_cases hc61_8 : (v0 &&& (255 : Int32)) = (own_ex0 p3 p4 p5)
  · have k9 : ∀ t, Steps p.tables e below (s₁.setTop (mkF m 69 #[.val (.ref p1), .val (.int (0 : Int32)), .val (.int p3), .val (.int p4), .val (.long p5), .second, .val (.int (own_ex0 p3 p4 p5))] [(.int (1 : Int32))])) t → Steps p.tables e below (s₁.setTop (entryFrame m #[(.ref p1), (.int (0 : Int32)), (.int p3), (.int p4), (.long p5)] 7)) t := by
      intro t k
      refine k7 t ?_
      show Steps p.tables e below (s₁.setTop (mkF m 61 #[.val (.ref p1), .val (.int (0 : Int32)), .val (.int p3), .val (.int p4), .val (.long p5), .second, .val (.int (own_ex0 p3 p4 p5))] [(.int (own_ex0 p3 p4 p5)), (.int (v0 &&& (255 : Int32)))])) _
      refine XS.icmpNo X0.here hx rfl (hb hby own_d11_61) rfl (teq hc61_8).2 ?_
      show Steps p.tables e below (s₁.setTop (mkF m 64 #[.val (.ref p1), .val (.int (0 : Int32)), .val (.int p3), .val (.int p4), .val (.long p5), .second, .val (.int (own_ex0 p3 p4 p5))] [])) _
      refine XS.iconst X0.here hx rfl (hb hby own_d11_64) ?_
      show Steps p.tables e below (s₁.setTop (mkF m 65 #[.val (.ref p1), .val (.int (0 : Int32)), .val (.int p3), .val (.int p4), .val (.long p5), .second, .val (.int (own_ex0 p3 p4 p5))] [(.int (1 : Int32))])) _
      refine XS.goto X0.here hx rfl (pc0 := 65) (pc' := 69) rfl (hb hby own_d11_65) (by decide) (by decide) ?_
      exact k
    obtain ⟨fs, hr, hrun, hended, hW, hsame⟩ := X0.leave (v := (some (.int (1 : Int32)))) (fun h => by rw [Bd.returns] at h; cases h)
    refine ⟨_, _, k9 _ ?_, hrun, hended, _, _, rfl, ?_, ⟨_, rfl⟩, hW, hsame.mono (by decide) (by decide)⟩
    · exact retN X0 hx (t := .boolean) Bd.returns (by simp) (hb hby own_d11_69) hr
    · have hv : (own_vat0 p3 p4 p5 v0) = (1 : Int32) := (if_pos hc61_8)
      exact ⟨congrArg (fun z => some (Value.int z)) hv.symm, N0, e0⟩
  · have k10 : ∀ t, Steps p.tables e below (s₁.setTop (mkF m 69 #[.val (.ref p1), .val (.int (0 : Int32)), .val (.int p3), .val (.int p4), .val (.long p5), .second, .val (.int (own_ex0 p3 p4 p5))] [(.int (0 : Int32))])) t → Steps p.tables e below (s₁.setTop (entryFrame m #[(.ref p1), (.int (0 : Int32)), (.int p3), (.int p4), (.long p5)] 7)) t := by
      intro t k
      refine k7 t ?_
      show Steps p.tables e below (s₁.setTop (mkF m 61 #[.val (.ref p1), .val (.int (0 : Int32)), .val (.int p3), .val (.int p4), .val (.long p5), .second, .val (.int (own_ex0 p3 p4 p5))] [(.int (own_ex0 p3 p4 p5)), (.int (v0 &&& (255 : Int32)))])) _
      refine XS.icmpYes X0.here hx rfl (pc0 := 61) (pc' := 68) rfl (hb hby own_d11_61) rfl (feq hc61_8).2 (by decide) (by decide) ?_
      show Steps p.tables e below (s₁.setTop (mkF m 68 #[.val (.ref p1), .val (.int (0 : Int32)), .val (.int p3), .val (.int p4), .val (.long p5), .second, .val (.int (own_ex0 p3 p4 p5))] [])) _
      refine XS.iconst X0.here hx rfl (hb hby own_d11_68) ?_
      exact k
    obtain ⟨fs, hr, hrun, hended, hW, hsame⟩ := X0.leave (v := (some (.int (0 : Int32)))) (fun h => by rw [Bd.returns] at h; cases h)
    refine ⟨_, _, k10 _ ?_, hrun, hended, _, _, rfl, ?_, ⟨_, rfl⟩, hW, hsame.mono (by decide) (by decide)⟩
    · exact retN X0 hx (t := .boolean) Bd.returns (by simp) (hb hby own_d11_69) hr
    · have hv : (own_vat0 p3 p4 p5 v0) = (0 : Int32) := (if_neg hc61_8)
      exact ⟨congrArg (fun z => some (Value.int z)) hv.symm, N0, e0⟩
def own_ex1 (p3 : Int32) (p4 : Int32) (p5 : Int64) : Int32 := if (1 : Int32) = p3 then ((p4 >>> ((8 : Int32) &&& 31)) &&& (255 : Int32)) else if (1 : Int32) = (p3 + (1 : Int32)) then (p4 &&& (255 : Int32)) else ((((p5.toUInt64 >>> ((48 : Int32) &&& 0x3f).toInt64.toUInt64).toInt64) &&& (255 : Int64)).toInt32)
def own_vat1 (p3 : Int32) (p4 : Int32) (p5 : Int64) (v1 : Int32) : Int32 :=
  if (v1 &&& (255 : Int32)) = (own_ex1 p3 p4 p5) then (1 : Int32) else
  (0 : Int32)
theorem own_efat1 (m : MethodId) (x0 : Addr) (x2 : Int32) (x3 : Int32) (x4 : Int64) : entryFrame m #[(.ref x0), (.int (1 : Int32)), (.int x2), (.int x3), (.long x4)] 7 = mkF m 0 #[.val (.ref x0), .val (.int (1 : Int32)), .val (.int x2), .val (.int x3), .val (.long x4), .second, .unset] [] := by first | (simp [entryFrame, mkF, argsToLocals, Value.category]; done) | rfl
def own_Qat1 (Z : State) (p1 : Addr) (p3 : Int32) (p4 : Int32) (p5 : Int64) (cc : ClassId) (v0 : Int32) (v1 : Int32) (v2 : Int32) (v3 : Int32) (v4 : Int32) (v5 : Int32) (v6 : Int32) (v7 : Int32) (h0 : Heap) (n0 : Nat) (v : Option Value) (h : Heap) (L : List Loc) : Prop := v = some (.int (own_vat1 p3 p4 p5 v1)) ∧ Fr n0 L ∧ h = h0
set_option maxRecDepth 65536 in
set_option maxHeartbeats 40000000 in
theorem own_rmat1 (l : Launch) (Z : State) (a0 : Array Value) (hw : ∀ d ∈ tables_1, d.before a0 Z = true) (ws : List Jvm.Cond) (p1 : Addr) (p3 : Int32) (p4 : Int32) (p5 : Int64) (cc : ClassId) (v0 : Int32) (v1 : Int32) (v2 : Int32) (v3 : Int32) (v4 : Int32) (v5 : Int32) (v6 : Int32) (v7 : Int32) (h0 : Heap) (n0 : Nat) (Z0 : n0 ≤ h0.size) (V0 : Arv Z h0 p1 cc .byte (8 : Int32) [(.int v0), (.int v1), (.int v2), (.int v3), (.int v4), (.int v5), (.int v6), (.int v7)] (.int (0 : Int32))) :
    MetFree l (⟨"com/example/reckoner/reckoner/BytesSetU2PinLaw", "at", "([BIIIJ)Z"⟩ : MethodName) (head1 (Jvm.Cond.code (⟨"com/example/reckoner/reckoner/BytesSetU2PinLaw", "at", "([BIIIJ)Z"⟩ : MethodName) method_3_code 7 (some .boolean) :: ws) ({ frames := 0, cells := 0, slots := 0, locals := 0 } : Room)) (fun aa U => aa = #[(.ref p1), (.int (1 : Int32)), (.int p3), (.int p4), (.long p5)] ∧ Z.Warmed39 U.vm ∧ U.heap = h0) (fun _ _ _ _ _ => True) (fun _ U o U' => ∃ v L, o = .returned v ∧ own_Qat1 Z p1 p3 p4 p5 cc v0 v1 v2 v3 v4 v5 v6 v7 h0 n0 v U'.heap L ∧ FrameEnd U o U' L ({ frames := 0, cells := 0, slots := 0, locals := 0 } : Room).cells ({ frames := 0, cells := 0, slots := 0, locals := 0 } : Room).slots) := by
  refine MetFree.of_bodySF (plainFor_of_name own_pn2) hisR ?_
  intro p e s m args below meth c s₁ Bd hml0 hP hK
  obtain ⟨rfl, hZ, hh⟩ := hP
  have hx := Bd.exec
  have hby := Bd.bytes
  have hml : c.maxLocals = 7 := hml0
  have hown : s.vm.findClass "com/example/reckoner/reckoner/BytesSetU2PinLaw" = some m.cls := findClass_of_methodNamed Bd.named
  have hnm := (name_of_methodNamed Bd.named Bd.method).1
  have X0 : Stand p l e ({ frames := 0, cells := 0, slots := 0, locals := 0 } : Room) s m #[(.ref p1), (.int (1 : Int32)), (.int p3), (.int p4), (.long p5)] below meth c s₁ [] 0 0 := Stand.of_body Bd
  have e0 : s₁.heap = h0 := by rw [← hh, Bd.state]; rfl
  have N0 := Fr.nil n0
  have pre0 : ∀ t, Steps p.tables e below (s₁.setTop (mkF m 0 #[.val (.ref p1), .val (.int (1 : Int32)), .val (.int p3), .val (.int p4), .val (.long p5), .second, .unset] [])) t → Steps p.tables e below (s₁.setTop (entryFrame m #[(.ref p1), (.int (1 : Int32)), (.int p3), (.int p4), (.long p5)] 7)) t := fun t k => castTop (own_efat1 m p1 p3 p4 p5) k
  have k1 : ∀ t, Steps p.tables e below (s₁.setTop (mkF m 52 #[.val (.ref p1), .val (.int (1 : Int32)), .val (.int p3), .val (.int p4), .val (.long p5), .second, .val (.int (own_ex1 p3 p4 p5))] [])) t → Steps p.tables e below (s₁.setTop (entryFrame m #[(.ref p1), (.int (1 : Int32)), (.int p3), (.int p4), (.long p5)] 7)) t := by
    intro t k
    refine pre0 t ?_
    show Steps p.tables e below (s₁.setTop (mkF m 0 #[.val (.ref p1), .val (.int (1 : Int32)), .val (.int p3), .val (.int p4), .val (.long p5), .second, .unset] [])) _
    refine XS.iloadN X0.here hx rfl (hb hby own_d11_0) rfl ?_
    show Steps p.tables e below (s₁.setTop (mkF m 1 #[.val (.ref p1), .val (.int (1 : Int32)), .val (.int p3), .val (.int p4), .val (.long p5), .second, .unset] [(.int (1 : Int32))])) _
    refine XS.iloadN X0.here hx rfl (hb hby own_d11_1) rfl ?_
    by_cases hc2_2 : (1 : Int32) = p3
    · show Steps p.tables e below (s₁.setTop (mkF m 2 #[.val (.ref p1), .val (.int (1 : Int32)), .val (.int p3), .val (.int p4), .val (.long p5), .second, .unset] [(.int p3), (.int (1 : Int32))])) _
      refine XS.icmpNo X0.here hx rfl (hb hby own_d11_2) rfl (teq hc2_2).2 ?_
      show Steps p.tables e below (s₁.setTop (mkF m 5 #[.val (.ref p1), .val (.int (1 : Int32)), .val (.int p3), .val (.int p4), .val (.long p5), .second, .unset] [])) _
      refine XS.iloadN X0.here hx rfl (hb hby own_d11_5) rfl ?_
      show Steps p.tables e below (s₁.setTop (mkF m 6 #[.val (.ref p1), .val (.int (1 : Int32)), .val (.int p3), .val (.int p4), .val (.long p5), .second, .unset] [(.int p4)])) _
      refine XS.bipush X0.here hx rfl (hb hby own_d11_6) ?_
      show Steps p.tables e below (s₁.setTop (mkF m 8 #[.val (.ref p1), .val (.int (1 : Int32)), .val (.int p3), .val (.int p4), .val (.long p5), .second, .unset] [(.int (8 : Int32)), (.int p4)])) _
      refine XS.ishr X0.here hx rfl (hb hby own_d11_8) rfl ?_
      show Steps p.tables e below (s₁.setTop (mkF m 9 #[.val (.ref p1), .val (.int (1 : Int32)), .val (.int p3), .val (.int p4), .val (.long p5), .second, .unset] [(.int (p4 >>> ((8 : Int32) &&& 31)))])) _
      refine XS.sipush X0.here hx rfl (hb hby own_d11_9) ?_
      show Steps p.tables e below (s₁.setTop (mkF m 12 #[.val (.ref p1), .val (.int (1 : Int32)), .val (.int p3), .val (.int p4), .val (.long p5), .second, .unset] [(.int (255 : Int32)), (.int (p4 >>> ((8 : Int32) &&& 31)))])) _
      refine XS.iand X0.here hx rfl (hb hby own_d11_12) rfl ?_
      show Steps p.tables e below (s₁.setTop (mkF m 13 #[.val (.ref p1), .val (.int (1 : Int32)), .val (.int p3), .val (.int p4), .val (.long p5), .second, .unset] [(.int ((p4 >>> ((8 : Int32) &&& 31)) &&& (255 : Int32)))])) _
      refine XS.istore X0.here hx rfl (hb hby own_d11_13) rfl (l' := #[.val (.ref p1), .val (.int (1 : Int32)), .val (.int p3), .val (.int p4), .val (.long p5), .second, .val (.int ((p4 >>> ((8 : Int32) &&& 31)) &&& (255 : Int32)))]) rfl ?_
      show Steps p.tables e below (s₁.setTop (mkF m 15 #[.val (.ref p1), .val (.int (1 : Int32)), .val (.int p3), .val (.int p4), .val (.long p5), .second, .val (.int ((p4 >>> ((8 : Int32) &&& 31)) &&& (255 : Int32)))] [])) _
      refine XS.goto X0.here hx rfl (pc0 := 15) (pc' := 52) rfl (hb hby own_d11_15) (by decide) (by decide) ?_
      have q0 : (own_ex1 p3 p4 p5) = ((p4 >>> ((8 : Int32) &&& 31)) &&& (255 : Int32)) := (if_pos hc2_2)
      rw [q0] at k
      exact k
    · show Steps p.tables e below (s₁.setTop (mkF m 2 #[.val (.ref p1), .val (.int (1 : Int32)), .val (.int p3), .val (.int p4), .val (.long p5), .second, .unset] [(.int p3), (.int (1 : Int32))])) _
      refine XS.icmpYes X0.here hx rfl (pc0 := 2) (pc' := 18) rfl (hb hby own_d11_2) rfl (feq hc2_2).2 (by decide) (by decide) ?_
      show Steps p.tables e below (s₁.setTop (mkF m 18 #[.val (.ref p1), .val (.int (1 : Int32)), .val (.int p3), .val (.int p4), .val (.long p5), .second, .unset] [])) _
      refine XS.iloadN X0.here hx rfl (hb hby own_d11_18) rfl ?_
      show Steps p.tables e below (s₁.setTop (mkF m 19 #[.val (.ref p1), .val (.int (1 : Int32)), .val (.int p3), .val (.int p4), .val (.long p5), .second, .unset] [(.int (1 : Int32))])) _
      refine XS.iloadN X0.here hx rfl (hb hby own_d11_19) rfl ?_
      show Steps p.tables e below (s₁.setTop (mkF m 20 #[.val (.ref p1), .val (.int (1 : Int32)), .val (.int p3), .val (.int p4), .val (.long p5), .second, .unset] [(.int p3), (.int (1 : Int32))])) _
      refine XS.iconst X0.here hx rfl (hb hby own_d11_20) ?_
      show Steps p.tables e below (s₁.setTop (mkF m 21 #[.val (.ref p1), .val (.int (1 : Int32)), .val (.int p3), .val (.int p4), .val (.long p5), .second, .unset] [(.int (1 : Int32)), (.int p3), (.int (1 : Int32))])) _
      refine XS.iadd X0.here hx rfl (hb hby own_d11_21) rfl ?_
      by_cases hc22_3 : (1 : Int32) = (p3 + (1 : Int32))
      · show Steps p.tables e below (s₁.setTop (mkF m 22 #[.val (.ref p1), .val (.int (1 : Int32)), .val (.int p3), .val (.int p4), .val (.long p5), .second, .unset] [(.int (p3 + (1 : Int32))), (.int (1 : Int32))])) _
        refine XS.icmpNo X0.here hx rfl (hb hby own_d11_22) rfl (teq hc22_3).2 ?_
        show Steps p.tables e below (s₁.setTop (mkF m 25 #[.val (.ref p1), .val (.int (1 : Int32)), .val (.int p3), .val (.int p4), .val (.long p5), .second, .unset] [])) _
        refine XS.iloadN X0.here hx rfl (hb hby own_d11_25) rfl ?_
        show Steps p.tables e below (s₁.setTop (mkF m 26 #[.val (.ref p1), .val (.int (1 : Int32)), .val (.int p3), .val (.int p4), .val (.long p5), .second, .unset] [(.int p4)])) _
        refine XS.sipush X0.here hx rfl (hb hby own_d11_26) ?_
        show Steps p.tables e below (s₁.setTop (mkF m 29 #[.val (.ref p1), .val (.int (1 : Int32)), .val (.int p3), .val (.int p4), .val (.long p5), .second, .unset] [(.int (255 : Int32)), (.int p4)])) _
        refine XS.iand X0.here hx rfl (hb hby own_d11_29) rfl ?_
        show Steps p.tables e below (s₁.setTop (mkF m 30 #[.val (.ref p1), .val (.int (1 : Int32)), .val (.int p3), .val (.int p4), .val (.long p5), .second, .unset] [(.int (p4 &&& (255 : Int32)))])) _
        refine XS.istore X0.here hx rfl (hb hby own_d11_30) rfl (l' := #[.val (.ref p1), .val (.int (1 : Int32)), .val (.int p3), .val (.int p4), .val (.long p5), .second, .val (.int (p4 &&& (255 : Int32)))]) rfl ?_
        show Steps p.tables e below (s₁.setTop (mkF m 32 #[.val (.ref p1), .val (.int (1 : Int32)), .val (.int p3), .val (.int p4), .val (.long p5), .second, .val (.int (p4 &&& (255 : Int32)))] [])) _
        refine XS.goto X0.here hx rfl (pc0 := 32) (pc' := 52) rfl (hb hby own_d11_32) (by decide) (by decide) ?_
        have q0 : (own_ex1 p3 p4 p5) = (p4 &&& (255 : Int32)) := ((if_neg hc2_2).trans (if_pos hc22_3))
        rw [q0] at k
        exact k
      · show Steps p.tables e below (s₁.setTop (mkF m 22 #[.val (.ref p1), .val (.int (1 : Int32)), .val (.int p3), .val (.int p4), .val (.long p5), .second, .unset] [(.int (p3 + (1 : Int32))), (.int (1 : Int32))])) _
        refine XS.icmpYes X0.here hx rfl (pc0 := 22) (pc' := 35) rfl (hb hby own_d11_22) rfl (feq hc22_3).2 (by decide) (by decide) ?_
        show Steps p.tables e below (s₁.setTop (mkF m 35 #[.val (.ref p1), .val (.int (1 : Int32)), .val (.int p3), .val (.int p4), .val (.long p5), .second, .unset] [])) _
        refine XS.lload X0.here hx rfl (hb hby own_d11_35) rfl ?_
        show Steps p.tables e below (s₁.setTop (mkF m 37 #[.val (.ref p1), .val (.int (1 : Int32)), .val (.int p3), .val (.int p4), .val (.long p5), .second, .unset] [(.long p5)])) _
        refine XS.bipush X0.here hx rfl (hb hby own_d11_37) ?_
        show Steps p.tables e below (s₁.setTop (mkF m 39 #[.val (.ref p1), .val (.int (1 : Int32)), .val (.int p3), .val (.int p4), .val (.long p5), .second, .unset] [(.int (56 : Int32)), (.long p5)])) _
        refine XS.bipush X0.here hx rfl (hb hby own_d11_39) ?_
        show Steps p.tables e below (s₁.setTop (mkF m 41 #[.val (.ref p1), .val (.int (1 : Int32)), .val (.int p3), .val (.int p4), .val (.long p5), .second, .unset] [(.int (8 : Int32)), (.int (56 : Int32)), (.long p5)])) _
        refine XS.iloadN X0.here hx rfl (hb hby own_d11_41) rfl ?_
        show Steps p.tables e below (s₁.setTop (mkF m 42 #[.val (.ref p1), .val (.int (1 : Int32)), .val (.int p3), .val (.int p4), .val (.long p5), .second, .unset] [(.int (1 : Int32)), (.int (8 : Int32)), (.int (56 : Int32)), (.long p5)])) _
        refine XS.imul X0.here hx rfl (hb hby own_d11_42) rfl ?_
        show Steps p.tables e below (s₁.setTop (mkF m 43 #[.val (.ref p1), .val (.int (1 : Int32)), .val (.int p3), .val (.int p4), .val (.long p5), .second, .unset] [(.int (8 : Int32)), (.int (56 : Int32)), (.long p5)])) _
        refine XS.isub X0.here hx rfl (hb hby own_d11_43) rfl ?_
        show Steps p.tables e below (s₁.setTop (mkF m 44 #[.val (.ref p1), .val (.int (1 : Int32)), .val (.int p3), .val (.int p4), .val (.long p5), .second, .unset] [(.int (48 : Int32)), (.long p5)])) _
        refine XS.lushr X0.here hx rfl (hb hby own_d11_44) rfl ?_
        show Steps p.tables e below (s₁.setTop (mkF m 45 #[.val (.ref p1), .val (.int (1 : Int32)), .val (.int p3), .val (.int p4), .val (.long p5), .second, .unset] [(.long ((p5.toUInt64 >>> ((48 : Int32) &&& 0x3f).toInt64.toUInt64).toInt64))])) _
        refine X0.ldc2Long hx hown (mvT hZ (hw _ (List.mem_of_getElem? (i := 60) rfl))) (g := (mkF m 45 #[.val (.ref p1), .val (.int (1 : Int32)), .val (.int p3), .val (.int p4), .val (.long p5), .second, .unset] [(.long ((p5.toUInt64 >>> ((48 : Int32) &&& 0x3f).toInt64.toUInt64).toInt64))])) rfl (hb hby own_d11_45) _ ?_
        show Steps p.tables e below (s₁.setTop (mkF m 48 #[.val (.ref p1), .val (.int (1 : Int32)), .val (.int p3), .val (.int p4), .val (.long p5), .second, .unset] [(.long (255 : Int64)), (.long ((p5.toUInt64 >>> ((48 : Int32) &&& 0x3f).toInt64.toUInt64).toInt64))])) _
        refine XS.land X0.here hx rfl (hb hby own_d11_48) rfl ?_
        show Steps p.tables e below (s₁.setTop (mkF m 49 #[.val (.ref p1), .val (.int (1 : Int32)), .val (.int p3), .val (.int p4), .val (.long p5), .second, .unset] [(.long (((p5.toUInt64 >>> ((48 : Int32) &&& 0x3f).toInt64.toUInt64).toInt64) &&& (255 : Int64)))])) _
        refine XS.l2i X0.here hx rfl (hb hby own_d11_49) rfl ?_
        show Steps p.tables e below (s₁.setTop (mkF m 50 #[.val (.ref p1), .val (.int (1 : Int32)), .val (.int p3), .val (.int p4), .val (.long p5), .second, .unset] [(.int ((((p5.toUInt64 >>> ((48 : Int32) &&& 0x3f).toInt64.toUInt64).toInt64) &&& (255 : Int64)).toInt32))])) _
        refine XS.istore X0.here hx rfl (hb hby own_d11_50) rfl (l' := #[.val (.ref p1), .val (.int (1 : Int32)), .val (.int p3), .val (.int p4), .val (.long p5), .second, .val (.int ((((p5.toUInt64 >>> ((48 : Int32) &&& 0x3f).toInt64.toUInt64).toInt64) &&& (255 : Int64)).toInt32))]) rfl ?_
        have q0 : (own_ex1 p3 p4 p5) = ((((p5.toUInt64 >>> ((48 : Int32) &&& 0x3f).toInt64.toUInt64).toInt64) &&& (255 : Int64)).toInt32) := ((if_neg hc2_2).trans (if_neg hc22_3))
        rw [q0] at k
        exact k
  obtain ⟨cl4, Ar4, qa4, Sa4, Na4, Ha4, Ga4⟩ := id V0
  have hin5 : ¬ ((1 : Int32) < 0 ∨ cl4.slots.size ≤ ((1 : Int32)).toNatClampNeg) := inb_of Sa4 ⟨by decide, by decide⟩
  have hat6 : cl4.slots[((1 : Int32)).toNatClampNeg]? = some (.int v1) := Ha4 1 (Nat.lt_of_not_le fun q => hin5 (Or.inr q))
  have k7 : ∀ t, Steps p.tables e below (s₁.setTop (mkF m 61 #[.val (.ref p1), .val (.int (1 : Int32)), .val (.int p3), .val (.int p4), .val (.long p5), .second, .val (.int (own_ex1 p3 p4 p5))] [(.int (own_ex1 p3 p4 p5)), (.int (v1 &&& (255 : Int32)))])) t → Steps p.tables e below (s₁.setTop (entryFrame m #[(.ref p1), (.int (1 : Int32)), (.int p3), (.int p4), (.long p5)] 7)) t := by
    intro t k
    refine k1 t ?_
    show Steps p.tables e below (s₁.setTop (mkF m 52 #[.val (.ref p1), .val (.int (1 : Int32)), .val (.int p3), .val (.int p4), .val (.long p5), .second, .val (.int (own_ex1 p3 p4 p5))] [])) _
    refine XS.aloadN X0.here hx rfl (hb hby own_d11_52) rfl rfl ?_
    show Steps p.tables e below (s₁.setTop (mkF m 53 #[.val (.ref p1), .val (.int (1 : Int32)), .val (.int p3), .val (.int p4), .val (.long p5), .second, .val (.int (own_ex1 p3 p4 p5))] [(.ref p1)])) _
    refine XS.iloadN X0.here hx rfl (hb hby own_d11_53) rfl ?_
    show Steps p.tables e below (s₁.setTop (mkF m 54 #[.val (.ref p1), .val (.int (1 : Int32)), .val (.int p3), .val (.int p4), .val (.long p5), .second, .val (.int (own_ex1 p3 p4 p5))] [(.int (1 : Int32)), (.ref p1)])) _
    refine X0.baloadBytes hx (j := (1 : Int32)) (v := (.int v1)) (by rw [e0]; exact Ar4.1) (State.isArrayOf_alike hZ.alike Ar4.2.1) Ar4.2.2 hin5 hat6 (g := (mkF m 54 #[.val (.ref p1), .val (.int (1 : Int32)), .val (.int p3), .val (.int p4), .val (.long p5), .second, .val (.int (own_ex1 p3 p4 p5))] [(.int (1 : Int32)), (.ref p1)])) rfl rfl (hb hby own_d11_54) _ ?_
    show Steps p.tables e below (s₁.setTop (mkF m 55 #[.val (.ref p1), .val (.int (1 : Int32)), .val (.int p3), .val (.int p4), .val (.long p5), .second, .val (.int (own_ex1 p3 p4 p5))] [(.int v1)])) _
    refine XS.sipush X0.here hx rfl (hb hby own_d11_55) ?_
    show Steps p.tables e below (s₁.setTop (mkF m 58 #[.val (.ref p1), .val (.int (1 : Int32)), .val (.int p3), .val (.int p4), .val (.long p5), .second, .val (.int (own_ex1 p3 p4 p5))] [(.int (255 : Int32)), (.int v1)])) _
    refine XS.iand X0.here hx rfl (hb hby own_d11_58) rfl ?_
    show Steps p.tables e below (s₁.setTop (mkF m 59 #[.val (.ref p1), .val (.int (1 : Int32)), .val (.int p3), .val (.int p4), .val (.long p5), .second, .val (.int (own_ex1 p3 p4 p5))] [(.int (v1 &&& (255 : Int32)))])) _
    refine XS.iload X0.here hx rfl (hb hby own_d11_59) rfl ?_
    exact k
  by_cases hc61_8 : (v1 &&& (255 : Int32)) = (own_ex1 p3 p4 p5)
  · have k9 : ∀ t, Steps p.tables e below (s₁.setTop (mkF m 69 #[.val (.ref p1), .val (.int (1 : Int32)), .val (.int p3), .val (.int p4), .val (.long p5), .second, .val (.int (own_ex1 p3 p4 p5))] [(.int (1 : Int32))])) t → Steps p.tables e below (s₁.setTop (entryFrame m #[(.ref p1), (.int (1 : Int32)), (.int p3), (.int p4), (.long p5)] 7)) t := by
      intro t k
      refine k7 t ?_
      show Steps p.tables e below (s₁.setTop (mkF m 61 #[.val (.ref p1), .val (.int (1 : Int32)), .val (.int p3), .val (.int p4), .val (.long p5), .second, .val (.int (own_ex1 p3 p4 p5))] [(.int (own_ex1 p3 p4 p5)), (.int (v1 &&& (255 : Int32)))])) _
      refine XS.icmpNo X0.here hx rfl (hb hby own_d11_61) rfl (teq hc61_8).2 ?_
      show Steps p.tables e below (s₁.setTop (mkF m 64 #[.val (.ref p1), .val (.int (1 : Int32)), .val (.int p3), .val (.int p4), .val (.long p5), .second, .val (.int (own_ex1 p3 p4 p5))] [])) _
      refine XS.iconst X0.here hx rfl (hb hby own_d11_64) ?_
      show Steps p.tables e below (s₁.setTop (mkF m 65 #[.val (.ref p1), .val (.int (1 : Int32)), .val (.int p3), .val (.int p4), .val (.long p5), .second, .val (.int (own_ex1 p3 p4 p5))] [(.int (1 : Int32))])) _
      refine XS.goto X0.here hx rfl (pc0 := 65) (pc' := 69) rfl (hb hby own_d11_65) (by decide) (by decide) ?_
      exact k
    obtain ⟨fs, hr, hrun, hended, hW, hsame⟩ := X0.leave (v := (some (.int (1 : Int32)))) (fun h => by rw [Bd.returns] at h; cases h)
    refine ⟨_, _, k9 _ ?_, hrun, hended, _, _, rfl, ?_, ⟨_, rfl⟩, hW, hsame.mono (by decide) (by decide)⟩
    · exact retN X0 hx (t := .boolean) Bd.returns (by simp) (hb hby own_d11_69) hr
    · have hv : (own_vat1 p3 p4 p5 v1) = (1 : Int32) := (if_pos hc61_8)
      exact ⟨congrArg (fun z => some (Value.int z)) hv.symm, N0, e0⟩
  · have k10 : ∀ t, Steps p.tables e below (s₁.setTop (mkF m 69 #[.val (.ref p1), .val (.int (1 : Int32)), .val (.int p3), .val (.int p4), .val (.long p5), .second, .val (.int (own_ex1 p3 p4 p5))] [(.int (0 : Int32))])) t → Steps p.tables e below (s₁.setTop (entryFrame m #[(.ref p1), (.int (1 : Int32)), (.int p3), (.int p4), (.long p5)] 7)) t := by
      intro t k
      refine k7 t ?_
      show Steps p.tables e below (s₁.setTop (mkF m 61 #[.val (.ref p1), .val (.int (1 : Int32)), .val (.int p3), .val (.int p4), .val (.long p5), .second, .val (.int (own_ex1 p3 p4 p5))] [(.int (own_ex1 p3 p4 p5)), (.int (v1 &&& (255 : Int32)))])) _
      refine XS.icmpYes X0.here hx rfl (pc0 := 61) (pc' := 68) rfl (hb hby own_d11_61) rfl (feq hc61_8).2 (by decide) (by decide) ?_
      show Steps p.tables e below (s₁.setTop (mkF m 68 #[.val (.ref p1), .val (.int (1 : Int32)), .val (.int p3), .val (.int p4), .val (.long p5), .second, .val (.int (own_ex1 p3 p4 p5))] [])) _
      refine XS.iconst X0.here hx rfl (hb hby own_d11_68) ?_
      exact k
    obtain ⟨fs, hr, hrun, hended, hW, hsame⟩ := X0.leave (v := (some (.int (0 : Int32)))) (fun h => by rw [Bd.returns] at h; cases h)
    refine ⟨_, _, k10 _ ?_, hrun, hended, _, _, rfl, ?_, ⟨_, rfl⟩, hW, hsame.mono (by decide) (by decide)⟩
    · exact retN X0 hx (t := .boolean) Bd.returns (by simp) (hb hby own_d11_69) hr
    · have hv : (own_vat1 p3 p4 p5 v1) = (0 : Int32) := (if_neg hc61_8)
      exact ⟨congrArg (fun z => some (Value.int z)) hv.symm, N0, e0⟩
def own_ex2 (p3 : Int32) (p4 : Int32) (p5 : Int64) : Int32 := if (2 : Int32) = p3 then ((p4 >>> ((8 : Int32) &&& 31)) &&& (255 : Int32)) else if (2 : Int32) = (p3 + (1 : Int32)) then (p4 &&& (255 : Int32)) else ((((p5.toUInt64 >>> ((40 : Int32) &&& 0x3f).toInt64.toUInt64).toInt64) &&& (255 : Int64)).toInt32)
def own_vat2 (p3 : Int32) (p4 : Int32) (p5 : Int64) (v2 : Int32) : Int32 :=
  if (v2 &&& (255 : Int32)) = (own_ex2 p3 p4 p5) then (1 : Int32) else
  (0 : Int32)
theorem own_efat2 (m : MethodId) (x0 : Addr) (x2 : Int32) (x3 : Int32) (x4 : Int64) : entryFrame m #[(.ref x0), (.int (2 : Int32)), (.int x2), (.int x3), (.long x4)] 7 = mkF m 0 #[.val (.ref x0), .val (.int (2 : Int32)), .val (.int x2), .val (.int x3), .val (.long x4), .second, .unset] [] := by first | (simp [entryFrame, mkF, argsToLocals, Value.category]; done) | rfl
def own_Qat2 (Z : State) (p1 : Addr) (p3 : Int32) (p4 : Int32) (p5 : Int64) (cc : ClassId) (v0 : Int32) (v1 : Int32) (v2 : Int32) (v3 : Int32) (v4 : Int32) (v5 : Int32) (v6 : Int32) (v7 : Int32) (h0 : Heap) (n0 : Nat) (v : Option Value) (h : Heap) (L : List Loc) : Prop := v = some (.int (own_vat2 p3 p4 p5 v2)) ∧ Fr n0 L ∧ h = h0
set_option maxRecDepth 65536 in
set_option maxHeartbeats 40000000 in
theorem own_rmat2 (l : Launch) (Z : State) (a0 : Array Value) (hw : ∀ d ∈ tables_1, d.before a0 Z = true) (ws : List Jvm.Cond) (p1 : Addr) (p3 : Int32) (p4 : Int32) (p5 : Int64) (cc : ClassId) (v0 : Int32) (v1 : Int32) (v2 : Int32) (v3 : Int32) (v4 : Int32) (v5 : Int32) (v6 : Int32) (v7 : Int32) (h0 : Heap) (n0 : Nat) (Z0 : n0 ≤ h0.size) (V0 : Arv Z h0 p1 cc .byte (8 : Int32) [(.int v0), (.int v1), (.int v2), (.int v3), (.int v4), (.int v5), (.int v6), (.int v7)] (.int (0 : Int32))) :
    MetFree l (⟨"com/example/reckoner/reckoner/BytesSetU2PinLaw", "at", "([BIIIJ)Z"⟩ : MethodName) (head1 (Jvm.Cond.code (⟨"com/example/reckoner/reckoner/BytesSetU2PinLaw", "at", "([BIIIJ)Z"⟩ : MethodName) method_3_code 7 (some .boolean) :: ws) ({ frames := 0, cells := 0, slots := 0, locals := 0 } : Room)) (fun aa U => aa = #[(.ref p1), (.int (2 : Int32)), (.int p3), (.int p4), (.long p5)] ∧ Z.Warmed39 U.vm ∧ U.heap = h0) (fun _ _ _ _ _ => True) (fun _ U o U' => ∃ v L, o = .returned v ∧ own_Qat2 Z p1 p3 p4 p5 cc v0 v1 v2 v3 v4 v5 v6 v7 h0 n0 v U'.heap L ∧ FrameEnd U o U' L ({ frames := 0, cells := 0, slots := 0, locals := 0 } : Room).cells ({ frames := 0, cells := 0, slots := 0, locals := 0 } : Room).slots) := by
  refine MetFree.of_bodySF (plainFor_of_name own_pn2) hisR ?_
  intro p e s m args below meth c s₁ Bd hml0 hP hK
  obtain ⟨rfl, hZ, hh⟩ := hP
  have hx := Bd.exec
  have hby := Bd.bytes
  have hml : c.maxLocals = 7 := hml0
  have hown : s.vm.findClass "com/example/reckoner/reckoner/BytesSetU2PinLaw" = some m.cls := findClass_of_methodNamed Bd.named
  have hnm := (name_of_methodNamed Bd.named Bd.method).1
  have X0 : Stand p l e ({ frames := 0, cells := 0, slots := 0, locals := 0 } : Room) s m #[(.ref p1), (.int (2 : Int32)), (.int p3), (.int p4), (.long p5)] below meth c s₁ [] 0 0 := Stand.of_body Bd
  have e0 : s₁.heap = h0 := by rw [← hh, Bd.state]; rfl
  have N0 := Fr.nil n0
  have pre0 : ∀ t, Steps p.tables e below (s₁.setTop (mkF m 0 #[.val (.ref p1), .val (.int (2 : Int32)), .val (.int p3), .val (.int p4), .val (.long p5), .second, .unset] [])) t → Steps p.tables e below (s₁.setTop (entryFrame m #[(.ref p1), (.int (2 : Int32)), (.int p3), (.int p4), (.long p5)] 7)) t := fun t k => castTop (own_efat2 m p1 p3 p4 p5) k
  have k1 : ∀ t, Steps p.tables e below (s₁.setTop (mkF m 52 #[.val (.ref p1), .val (.int (2 : Int32)), .val (.int p3), .val (.int p4), .val (.long p5), .second, .val (.int (own_ex2 p3 p4 p5))] [])) t → Steps p.tables e below (s₁.setTop (entryFrame m #[(.ref p1), (.int (2 : Int32)), (.int p3), (.int p4), (.long p5)] 7)) t := by
    intro t k
    refine pre0 t ?_
    show Steps p.tables e below (s₁.setTop (mkF m 0 #[.val (.ref p1), .val (.int (2 : Int32)), .val (.int p3), .val (.int p4), .val (.long p5), .second, .unset] [])) _
    refine XS.iloadN X0.here hx rfl (hb hby own_d11_0) rfl ?_
    show Steps p.tables e below (s₁.setTop (mkF m 1 #[.val (.ref p1), .val (.int (2 : Int32)), .val (.int p3), .val (.int p4), .val (.long p5), .second, .unset] [(.int (2 : Int32))])) _
    refine XS.iloadN X0.here hx rfl (hb hby own_d11_1) rfl ?_
    by_cases hc2_2 : (2 : Int32) = p3
    · show Steps p.tables e below (s₁.setTop (mkF m 2 #[.val (.ref p1), .val (.int (2 : Int32)), .val (.int p3), .val (.int p4), .val (.long p5), .second, .unset] [(.int p3), (.int (2 : Int32))])) _
      refine XS.icmpNo X0.here hx rfl (hb hby own_d11_2) rfl (teq hc2_2).2 ?_
      show Steps p.tables e below (s₁.setTop (mkF m 5 #[.val (.ref p1), .val (.int (2 : Int32)), .val (.int p3), .val (.int p4), .val (.long p5), .second, .unset] [])) _
      refine XS.iloadN X0.here hx rfl (hb hby own_d11_5) rfl ?_
      show Steps p.tables e below (s₁.setTop (mkF m 6 #[.val (.ref p1), .val (.int (2 : Int32)), .val (.int p3), .val (.int p4), .val (.long p5), .second, .unset] [(.int p4)])) _
      refine XS.bipush X0.here hx rfl (hb hby own_d11_6) ?_
      show Steps p.tables e below (s₁.setTop (mkF m 8 #[.val (.ref p1), .val (.int (2 : Int32)), .val (.int p3), .val (.int p4), .val (.long p5), .second, .unset] [(.int (8 : Int32)), (.int p4)])) _
      refine XS.ishr X0.here hx rfl (hb hby own_d11_8) rfl ?_
      show Steps p.tables e below (s₁.setTop (mkF m 9 #[.val (.ref p1), .val (.int (2 : Int32)), .val (.int p3), .val (.int p4), .val (.long p5), .second, .unset] [(.int (p4 >>> ((8 : Int32) &&& 31)))])) _
      refine XS.sipush X0.here hx rfl (hb hby own_d11_9) ?_
      show Steps p.tables e below (s₁.setTop (mkF m 12 #[.val (.ref p1), .val (.int (2 : Int32)), .val (.int p3), .val (.int p4), .val (.long p5), .second, .unset] [(.int (255 : Int32)), (.int (p4 >>> ((8 : Int32) &&& 31)))])) _
      refine XS.iand X0.here hx rfl (hb hby own_d11_12) rfl ?_
      show Steps p.tables e below (s₁.setTop (mkF m 13 #[.val (.ref p1), .val (.int (2 : Int32)), .val (.int p3), .val (.int p4), .val (.long p5), .second, .unset] [(.int ((p4 >>> ((8 : Int32) &&& 31)) &&& (255 : Int32)))])) _
      refine XS.istore X0.here hx rfl (hb hby own_d11_13) rfl (l' := #[.val (.ref p1), .val (.int (2 : Int32)), .val (.int p3), .val (.int p4), .val (.long p5), .second, .val (.int ((p4 >>> ((8 : Int32) &&& 31)) &&& (255 : Int32)))]) rfl ?_
      show Steps p.tables e below (s₁.setTop (mkF m 15 #[.val (.ref p1), .val (.int (2 : Int32)), .val (.int p3), .val (.int p4), .val (.long p5), .second, .val (.int ((p4 >>> ((8 : Int32) &&& 31)) &&& (255 : Int32)))] [])) _
      refine XS.goto X0.here hx rfl (pc0 := 15) (pc' := 52) rfl (hb hby own_d11_15) (by decide) (by decide) ?_
      have q0 : (own_ex2 p3 p4 p5) = ((p4 >>> ((8 : Int32) &&& 31)) &&& (255 : Int32)) := (if_pos hc2_2)
      rw [q0] at k
      exact k
    · show Steps p.tables e below (s₁.setTop (mkF m 2 #[.val (.ref p1), .val (.int (2 : Int32)), .val (.int p3), .val (.int p4), .val (.long p5), .second, .unset] [(.int p3), (.int (2 : Int32))])) _
      refine XS.icmpYes X0.here hx rfl (pc0 := 2) (pc' := 18) rfl (hb hby own_d11_2) rfl (feq hc2_2).2 (by decide) (by decide) ?_
      show Steps p.tables e below (s₁.setTop (mkF m 18 #[.val (.ref p1), .val (.int (2 : Int32)), .val (.int p3), .val (.int p4), .val (.long p5), .second, .unset] [])) _
      refine XS.iloadN X0.here hx rfl (hb hby own_d11_18) rfl ?_
      show Steps p.tables e below (s₁.setTop (mkF m 19 #[.val (.ref p1), .val (.int (2 : Int32)), .val (.int p3), .val (.int p4), .val (.long p5), .second, .unset] [(.int (2 : Int32))])) _
      refine XS.iloadN X0.here hx rfl (hb hby own_d11_19) rfl ?_
      show Steps p.tables e below (s₁.setTop (mkF m 20 #[.val (.ref p1), .val (.int (2 : Int32)), .val (.int p3), .val (.int p4), .val (.long p5), .second, .unset] [(.int p3), (.int (2 : Int32))])) _
      refine XS.iconst X0.here hx rfl (hb hby own_d11_20) ?_
      show Steps p.tables e below (s₁.setTop (mkF m 21 #[.val (.ref p1), .val (.int (2 : Int32)), .val (.int p3), .val (.int p4), .val (.long p5), .second, .unset] [(.int (1 : Int32)), (.int p3), (.int (2 : Int32))])) _
      refine XS.iadd X0.here hx rfl (hb hby own_d11_21) rfl ?_
      by_cases hc22_3 : (2 : Int32) = (p3 + (1 : Int32))
      · show Steps p.tables e below (s₁.setTop (mkF m 22 #[.val (.ref p1), .val (.int (2 : Int32)), .val (.int p3), .val (.int p4), .val (.long p5), .second, .unset] [(.int (p3 + (1 : Int32))), (.int (2 : Int32))])) _
        refine XS.icmpNo X0.here hx rfl (hb hby own_d11_22) rfl (teq hc22_3).2 ?_
        show Steps p.tables e below (s₁.setTop (mkF m 25 #[.val (.ref p1), .val (.int (2 : Int32)), .val (.int p3), .val (.int p4), .val (.long p5), .second, .unset] [])) _
        refine XS.iloadN X0.here hx rfl (hb hby own_d11_25) rfl ?_
        show Steps p.tables e below (s₁.setTop (mkF m 26 #[.val (.ref p1), .val (.int (2 : Int32)), .val (.int p3), .val (.int p4), .val (.long p5), .second, .unset] [(.int p4)])) _
        refine XS.sipush X0.here hx rfl (hb hby own_d11_26) ?_
        show Steps p.tables e below (s₁.setTop (mkF m 29 #[.val (.ref p1), .val (.int (2 : Int32)), .val (.int p3), .val (.int p4), .val (.long p5), .second, .unset] [(.int (255 : Int32)), (.int p4)])) _
        refine XS.iand X0.here hx rfl (hb hby own_d11_29) rfl ?_
        show Steps p.tables e below (s₁.setTop (mkF m 30 #[.val (.ref p1), .val (.int (2 : Int32)), .val (.int p3), .val (.int p4), .val (.long p5), .second, .unset] [(.int (p4 &&& (255 : Int32)))])) _
        refine XS.istore X0.here hx rfl (hb hby own_d11_30) rfl (l' := #[.val (.ref p1), .val (.int (2 : Int32)), .val (.int p3), .val (.int p4), .val (.long p5), .second, .val (.int (p4 &&& (255 : Int32)))]) rfl ?_
        show Steps p.tables e below (s₁.setTop (mkF m 32 #[.val (.ref p1), .val (.int (2 : Int32)), .val (.int p3), .val (.int p4), .val (.long p5), .second, .val (.int (p4 &&& (255 : Int32)))] [])) _
        refine XS.goto X0.here hx rfl (pc0 := 32) (pc' := 52) rfl (hb hby own_d11_32) (by decide) (by decide) ?_
        have q0 : (own_ex2 p3 p4 p5) = (p4 &&& (255 : Int32)) := ((if_neg hc2_2).trans (if_pos hc22_3))
        rw [q0] at k
        exact k
      · show Steps p.tables e below (s₁.setTop (mkF m 22 #[.val (.ref p1), .val (.int (2 : Int32)), .val (.int p3), .val (.int p4), .val (.long p5), .second, .unset] [(.int (p3 + (1 : Int32))), (.int (2 : Int32))])) _
        refine XS.icmpYes X0.here hx rfl (pc0 := 22) (pc' := 35) rfl (hb hby own_d11_22) rfl (feq hc22_3).2 (by decide) (by decide) ?_
        show Steps p.tables e below (s₁.setTop (mkF m 35 #[.val (.ref p1), .val (.int (2 : Int32)), .val (.int p3), .val (.int p4), .val (.long p5), .second, .unset] [])) _
        refine XS.lload X0.here hx rfl (hb hby own_d11_35) rfl ?_
        show Steps p.tables e below (s₁.setTop (mkF m 37 #[.val (.ref p1), .val (.int (2 : Int32)), .val (.int p3), .val (.int p4), .val (.long p5), .second, .unset] [(.long p5)])) _
        refine XS.bipush X0.here hx rfl (hb hby own_d11_37) ?_
        show Steps p.tables e below (s₁.setTop (mkF m 39 #[.val (.ref p1), .val (.int (2 : Int32)), .val (.int p3), .val (.int p4), .val (.long p5), .second, .unset] [(.int (56 : Int32)), (.long p5)])) _
        refine XS.bipush X0.here hx rfl (hb hby own_d11_39) ?_
        show Steps p.tables e below (s₁.setTop (mkF m 41 #[.val (.ref p1), .val (.int (2 : Int32)), .val (.int p3), .val (.int p4), .val (.long p5), .second, .unset] [(.int (8 : Int32)), (.int (56 : Int32)), (.long p5)])) _
        refine XS.iloadN X0.here hx rfl (hb hby own_d11_41) rfl ?_
        show Steps p.tables e below (s₁.setTop (mkF m 42 #[.val (.ref p1), .val (.int (2 : Int32)), .val (.int p3), .val (.int p4), .val (.long p5), .second, .unset] [(.int (2 : Int32)), (.int (8 : Int32)), (.int (56 : Int32)), (.long p5)])) _
        refine XS.imul X0.here hx rfl (hb hby own_d11_42) rfl ?_
        show Steps p.tables e below (s₁.setTop (mkF m 43 #[.val (.ref p1), .val (.int (2 : Int32)), .val (.int p3), .val (.int p4), .val (.long p5), .second, .unset] [(.int (16 : Int32)), (.int (56 : Int32)), (.long p5)])) _
        refine XS.isub X0.here hx rfl (hb hby own_d11_43) rfl ?_
        show Steps p.tables e below (s₁.setTop (mkF m 44 #[.val (.ref p1), .val (.int (2 : Int32)), .val (.int p3), .val (.int p4), .val (.long p5), .second, .unset] [(.int (40 : Int32)), (.long p5)])) _
        refine XS.lushr X0.here hx rfl (hb hby own_d11_44) rfl ?_
        show Steps p.tables e below (s₁.setTop (mkF m 45 #[.val (.ref p1), .val (.int (2 : Int32)), .val (.int p3), .val (.int p4), .val (.long p5), .second, .unset] [(.long ((p5.toUInt64 >>> ((40 : Int32) &&& 0x3f).toInt64.toUInt64).toInt64))])) _
        refine X0.ldc2Long hx hown (mvT hZ (hw _ (List.mem_of_getElem? (i := 60) rfl))) (g := (mkF m 45 #[.val (.ref p1), .val (.int (2 : Int32)), .val (.int p3), .val (.int p4), .val (.long p5), .second, .unset] [(.long ((p5.toUInt64 >>> ((40 : Int32) &&& 0x3f).toInt64.toUInt64).toInt64))])) rfl (hb hby own_d11_45) _ ?_
        show Steps p.tables e below (s₁.setTop (mkF m 48 #[.val (.ref p1), .val (.int (2 : Int32)), .val (.int p3), .val (.int p4), .val (.long p5), .second, .unset] [(.long (255 : Int64)), (.long ((p5.toUInt64 >>> ((40 : Int32) &&& 0x3f).toInt64.toUInt64).toInt64))])) _
        refine XS.land X0.here hx rfl (hb hby own_d11_48) rfl ?_
        show Steps p.tables e below (s₁.setTop (mkF m 49 #[.val (.ref p1), .val (.int (2 : Int32)), .val (.int p3), .val (.int p4), .val (.long p5), .second, .unset] [(.long (((p5.toUInt64 >>> ((40 : Int32) &&& 0x3f).toInt64.toUInt64).toInt64) &&& (255 : Int64)))])) _
        refine XS.l2i X0.here hx rfl (hb hby own_d11_49) rfl ?_
        show Steps p.tables e below (s₁.setTop (mkF m 50 #[.val (.ref p1), .val (.int (2 : Int32)), .val (.int p3), .val (.int p4), .val (.long p5), .second, .unset] [(.int ((((p5.toUInt64 >>> ((40 : Int32) &&& 0x3f).toInt64.toUInt64).toInt64) &&& (255 : Int64)).toInt32))])) _
        refine XS.istore X0.here hx rfl (hb hby own_d11_50) rfl (l' := #[.val (.ref p1), .val (.int (2 : Int32)), .val (.int p3), .val (.int p4), .val (.long p5), .second, .val (.int ((((p5.toUInt64 >>> ((40 : Int32) &&& 0x3f).toInt64.toUInt64).toInt64) &&& (255 : Int64)).toInt32))]) rfl ?_
        have q0 : (own_ex2 p3 p4 p5) = ((((p5.toUInt64 >>> ((40 : Int32) &&& 0x3f).toInt64.toUInt64).toInt64) &&& (255 : Int64)).toInt32) := ((if_neg hc2_2).trans (if_neg hc22_3))
        rw [q0] at k
        exact k
  obtain ⟨cl4, Ar4, qa4, Sa4, Na4, Ha4, Ga4⟩ := id V0
  have hin5 : ¬ ((2 : Int32) < 0 ∨ cl4.slots.size ≤ ((2 : Int32)).toNatClampNeg) := inb_of Sa4 ⟨by decide, by decide⟩
  have hat6 : cl4.slots[((2 : Int32)).toNatClampNeg]? = some (.int v2) := Ha4 2 (Nat.lt_of_not_le fun q => hin5 (Or.inr q))
  have k7 : ∀ t, Steps p.tables e below (s₁.setTop (mkF m 61 #[.val (.ref p1), .val (.int (2 : Int32)), .val (.int p3), .val (.int p4), .val (.long p5), .second, .val (.int (own_ex2 p3 p4 p5))] [(.int (own_ex2 p3 p4 p5)), (.int (v2 &&& (255 : Int32)))])) t → Steps p.tables e below (s₁.setTop (entryFrame m #[(.ref p1), (.int (2 : Int32)), (.int p3), (.int p4), (.long p5)] 7)) t := by
    intro t k
    refine k1 t ?_
    show Steps p.tables e below (s₁.setTop (mkF m 52 #[.val (.ref p1), .val (.int (2 : Int32)), .val (.int p3), .val (.int p4), .val (.long p5), .second, .val (.int (own_ex2 p3 p4 p5))] [])) _
    refine XS.aloadN X0.here hx rfl (hb hby own_d11_52) rfl rfl ?_
    show Steps p.tables e below (s₁.setTop (mkF m 53 #[.val (.ref p1), .val (.int (2 : Int32)), .val (.int p3), .val (.int p4), .val (.long p5), .second, .val (.int (own_ex2 p3 p4 p5))] [(.ref p1)])) _
    refine XS.iloadN X0.here hx rfl (hb hby own_d11_53) rfl ?_
    show Steps p.tables e below (s₁.setTop (mkF m 54 #[.val (.ref p1), .val (.int (2 : Int32)), .val (.int p3), .val (.int p4), .val (.long p5), .second, .val (.int (own_ex2 p3 p4 p5))] [(.int (2 : Int32)), (.ref p1)])) _
    refine X0.baloadBytes hx (j := (2 : Int32)) (v := (.int v2)) (by rw [e0]; exact Ar4.1) (State.isArrayOf_alike hZ.alike Ar4.2.1) Ar4.2.2 hin5 hat6 (g := (mkF m 54 #[.val (.ref p1), .val (.int (2 : Int32)), .val (.int p3), .val (.int p4), .val (.long p5), .second, .val (.int (own_ex2 p3 p4 p5))] [(.int (2 : Int32)), (.ref p1)])) rfl rfl (hb hby own_d11_54) _ ?_
    show Steps p.tables e below (s₁.setTop (mkF m 55 #[.val (.ref p1), .val (.int (2 : Int32)), .val (.int p3), .val (.int p4), .val (.long p5), .second, .val (.int (own_ex2 p3 p4 p5))] [(.int v2)])) _
    refine XS.sipush X0.here hx rfl (hb hby own_d11_55) ?_
    show Steps p.tables e below (s₁.setTop (mkF m 58 #[.val (.ref p1), .val (.int (2 : Int32)), .val (.int p3), .val (.int p4), .val (.long p5), .second, .val (.int (own_ex2 p3 p4 p5))] [(.int (255 : Int32)), (.int v2)])) _
    refine XS.iand X0.here hx rfl (hb hby own_d11_58) rfl ?_
    show Steps p.tables e below (s₁.setTop (mkF m 59 #[.val (.ref p1), .val (.int (2 : Int32)), .val (.int p3), .val (.int p4), .val (.long p5), .second, .val (.int (own_ex2 p3 p4 p5))] [(.int (v2 &&& (255 : Int32)))])) _
    refine XS.iload X0.here hx rfl (hb hby own_d11_59) rfl ?_
    exact k
  by_cases hc61_8 : (v2 &&& (255 : Int32)) = (own_ex2 p3 p4 p5)
  · have k9 : ∀ t, Steps p.tables e below (s₁.setTop (mkF m 69 #[.val (.ref p1), .val (.int (2 : Int32)), .val (.int p3), .val (.int p4), .val (.long p5), .second, .val (.int (own_ex2 p3 p4 p5))] [(.int (1 : Int32))])) t → Steps p.tables e below (s₁.setTop (entryFrame m #[(.ref p1), (.int (2 : Int32)), (.int p3), (.int p4), (.long p5)] 7)) t := by
      intro t k
      refine k7 t ?_
      show Steps p.tables e below (s₁.setTop (mkF m 61 #[.val (.ref p1), .val (.int (2 : Int32)), .val (.int p3), .val (.int p4), .val (.long p5), .second, .val (.int (own_ex2 p3 p4 p5))] [(.int (own_ex2 p3 p4 p5)), (.int (v2 &&& (255 : Int32)))])) _
      refine XS.icmpNo X0.here hx rfl (hb hby own_d11_61) rfl (teq hc61_8).2 ?_
      show Steps p.tables e below (s₁.setTop (mkF m 64 #[.val (.ref p1), .val (.int (2 : Int32)), .val (.int p3), .val (.int p4), .val (.long p5), .second, .val (.int (own_ex2 p3 p4 p5))] [])) _
      refine XS.iconst X0.here hx rfl (hb hby own_d11_64) ?_
      show Steps p.tables e below (s₁.setTop (mkF m 65 #[.val (.ref p1), .val (.int (2 : Int32)), .val (.int p3), .val (.int p4), .val (.long p5), .second, .val (.int (own_ex2 p3 p4 p5))] [(.int (1 : Int32))])) _
      refine XS.goto X0.here hx rfl (pc0 := 65) (pc' := 69) rfl (hb hby own_d11_65) (by decide) (by decide) ?_
      exact k
    obtain ⟨fs, hr, hrun, hended, hW, hsame⟩ := X0.leave (v := (some (.int (1 : Int32)))) (fun h => by rw [Bd.returns] at h; cases h)
    refine ⟨_, _, k9 _ ?_, hrun, hended, _, _, rfl, ?_, ⟨_, rfl⟩, hW, hsame.mono (by decide) (by decide)⟩
    · exact retN X0 hx (t := .boolean) Bd.returns (by simp) (hb hby own_d11_69) hr
    · have hv : (own_vat2 p3 p4 p5 v2) = (1 : Int32) := (if_pos hc61_8)
      exact ⟨congrArg (fun z => some (Value.int z)) hv.symm, N0, e0⟩
  · have k10 : ∀ t, Steps p.tables e below (s₁.setTop (mkF m 69 #[.val (.ref p1), .val (.int (2 : Int32)), .val (.int p3), .val (.int p4), .val (.long p5), .second, .val (.int (own_ex2 p3 p4 p5))] [(.int (0 : Int32))])) t → Steps p.tables e below (s₁.setTop (entryFrame m #[(.ref p1), (.int (2 : Int32)), (.int p3), (.int p4), (.long p5)] 7)) t := by
      intro t k
      refine k7 t ?_
      show Steps p.tables e below (s₁.setTop (mkF m 61 #[.val (.ref p1), .val (.int (2 : Int32)), .val (.int p3), .val (.int p4), .val (.long p5), .second, .val (.int (own_ex2 p3 p4 p5))] [(.int (own_ex2 p3 p4 p5)), (.int (v2 &&& (255 : Int32)))])) _
      refine XS.icmpYes X0.here hx rfl (pc0 := 61) (pc' := 68) rfl (hb hby own_d11_61) rfl (feq hc61_8).2 (by decide) (by decide) ?_
      show Steps p.tables e below (s₁.setTop (mkF m 68 #[.val (.ref p1), .val (.int (2 : Int32)), .val (.int p3), .val (.int p4), .val (.long p5), .second, .val (.int (own_ex2 p3 p4 p5))] [])) _
      refine XS.iconst X0.here hx rfl (hb hby own_d11_68) ?_
      exact k
    obtain ⟨fs, hr, hrun, hended, hW, hsame⟩ := X0.leave (v := (some (.int (0 : Int32)))) (fun h => by rw [Bd.returns] at h; cases h)
    refine ⟨_, _, k10 _ ?_, hrun, hended, _, _, rfl, ?_, ⟨_, rfl⟩, hW, hsame.mono (by decide) (by decide)⟩
    · exact retN X0 hx (t := .boolean) Bd.returns (by simp) (hb hby own_d11_69) hr
    · have hv : (own_vat2 p3 p4 p5 v2) = (0 : Int32) := (if_neg hc61_8)
      exact ⟨congrArg (fun z => some (Value.int z)) hv.symm, N0, e0⟩
def own_ex3 (p3 : Int32) (p4 : Int32) (p5 : Int64) : Int32 := if (3 : Int32) = p3 then ((p4 >>> ((8 : Int32) &&& 31)) &&& (255 : Int32)) else if (3 : Int32) = (p3 + (1 : Int32)) then (p4 &&& (255 : Int32)) else ((((p5.toUInt64 >>> ((32 : Int32) &&& 0x3f).toInt64.toUInt64).toInt64) &&& (255 : Int64)).toInt32)
def own_vat3 (p3 : Int32) (p4 : Int32) (p5 : Int64) (v3 : Int32) : Int32 :=
  if (v3 &&& (255 : Int32)) = (own_ex3 p3 p4 p5) then (1 : Int32) else
  (0 : Int32)
theorem own_efat3 (m : MethodId) (x0 : Addr) (x2 : Int32) (x3 : Int32) (x4 : Int64) : entryFrame m #[(.ref x0), (.int (3 : Int32)), (.int x2), (.int x3), (.long x4)] 7 = mkF m 0 #[.val (.ref x0), .val (.int (3 : Int32)), .val (.int x2), .val (.int x3), .val (.long x4), .second, .unset] [] := by first | (simp [entryFrame, mkF, argsToLocals, Value.category]; done) | rfl
def own_Qat3 (Z : State) (p1 : Addr) (p3 : Int32) (p4 : Int32) (p5 : Int64) (cc : ClassId) (v0 : Int32) (v1 : Int32) (v2 : Int32) (v3 : Int32) (v4 : Int32) (v5 : Int32) (v6 : Int32) (v7 : Int32) (h0 : Heap) (n0 : Nat) (v : Option Value) (h : Heap) (L : List Loc) : Prop := v = some (.int (own_vat3 p3 p4 p5 v3)) ∧ Fr n0 L ∧ h = h0
set_option maxRecDepth 65536 in
set_option maxHeartbeats 40000000 in
theorem own_rmat3 (l : Launch) (Z : State) (a0 : Array Value) (hw : ∀ d ∈ tables_1, d.before a0 Z = true) (ws : List Jvm.Cond) (p1 : Addr) (p3 : Int32) (p4 : Int32) (p5 : Int64) (cc : ClassId) (v0 : Int32) (v1 : Int32) (v2 : Int32) (v3 : Int32) (v4 : Int32) (v5 : Int32) (v6 : Int32) (v7 : Int32) (h0 : Heap) (n0 : Nat) (Z0 : n0 ≤ h0.size) (V0 : Arv Z h0 p1 cc .byte (8 : Int32) [(.int v0), (.int v1), (.int v2), (.int v3), (.int v4), (.int v5), (.int v6), (.int v7)] (.int (0 : Int32))) :
    MetFree l (⟨"com/example/reckoner/reckoner/BytesSetU2PinLaw", "at", "([BIIIJ)Z"⟩ : MethodName) (head1 (Jvm.Cond.code (⟨"com/example/reckoner/reckoner/BytesSetU2PinLaw", "at", "([BIIIJ)Z"⟩ : MethodName) method_3_code 7 (some .boolean) :: ws) ({ frames := 0, cells := 0, slots := 0, locals := 0 } : Room)) (fun aa U => aa = #[(.ref p1), (.int (3 : Int32)), (.int p3), (.int p4), (.long p5)] ∧ Z.Warmed39 U.vm ∧ U.heap = h0) (fun _ _ _ _ _ => True) (fun _ U o U' => ∃ v L, o = .returned v ∧ own_Qat3 Z p1 p3 p4 p5 cc v0 v1 v2 v3 v4 v5 v6 v7 h0 n0 v U'.heap L ∧ FrameEnd U o U' L ({ frames := 0, cells := 0, slots := 0, locals := 0 } : Room).cells ({ frames := 0, cells := 0, slots := 0, locals := 0 } : Room).slots) := by
  refine MetFree.of_bodySF (plainFor_of_name own_pn2) hisR ?_
  intro p e s m args below meth c s₁ Bd hml0 hP hK
  obtain ⟨rfl, hZ, hh⟩ := hP
  have hx := Bd.exec
  have hby := Bd.bytes
  have hml : c.maxLocals = 7 := hml0
  have hown : s.vm.findClass "com/example/reckoner/reckoner/BytesSetU2PinLaw" = some m.cls := findClass_of_methodNamed Bd.named
  have hnm := (name_of_methodNamed Bd.named Bd.method).1
  have X0 : Stand p l e ({ frames := 0, cells := 0, slots := 0, locals := 0 } : Room) s m #[(.ref p1), (.int (3 : Int32)), (.int p3), (.int p4), (.long p5)] below meth c s₁ [] 0 0 := Stand.of_body Bd
  have e0 : s₁.heap = h0 := by rw [← hh, Bd.state]; rfl
  have N0 := Fr.nil n0
  have pre0 : ∀ t, Steps p.tables e below (s₁.setTop (mkF m 0 #[.val (.ref p1), .val (.int (3 : Int32)), .val (.int p3), .val (.int p4), .val (.long p5), .second, .unset] [])) t → Steps p.tables e below (s₁.setTop (entryFrame m #[(.ref p1), (.int (3 : Int32)), (.int p3), (.int p4), (.long p5)] 7)) t := fun t k => castTop (own_efat3 m p1 p3 p4 p5) k
  have k1 : ∀ t, Steps p.tables e below (s₁.setTop (mkF m 52 #[.val (.ref p1), .val (.int (3 : Int32)), .val (.int p3), .val (.int p4), .val (.long p5), .second, .val (.int (own_ex3 p3 p4 p5))] [])) t → Steps p.tables e below (s₁.setTop (entryFrame m #[(.ref p1), (.int (3 : Int32)), (.int p3), (.int p4), (.long p5)] 7)) t := by
    intro t k
    refine pre0 t ?_
    show Steps p.tables e below (s₁.setTop (mkF m 0 #[.val (.ref p1), .val (.int (3 : Int32)), .val (.int p3), .val (.int p4), .val (.long p5), .second, .unset] [])) _
    refine XS.iloadN X0.here hx rfl (hb hby own_d11_0) rfl ?_
    show Steps p.tables e below (s₁.setTop (mkF m 1 #[.val (.ref p1), .val (.int (3 : Int32)), .val (.int p3), .val (.int p4), .val (.long p5), .second, .unset] [(.int (3 : Int32))])) _
    refine XS.iloadN X0.here hx rfl (hb hby own_d11_1) rfl ?_
    by_cases hc2_2 : (3 : Int32) = p3
    · show Steps p.tables e below (s₁.setTop (mkF m 2 #[.val (.ref p1), .val (.int (3 : Int32)), .val (.int p3), .val (.int p4), .val (.long p5), .second, .unset] [(.int p3), (.int (3 : Int32))])) _
      refine XS.icmpNo X0.here hx rfl (hb hby own_d11_2) rfl (teq hc2_2).2 ?_
      show Steps p.tables e below (s₁.setTop (mkF m 5 #[.val (.ref p1), .val (.int (3 : Int32)), .val (.int p3), .val (.int p4), .val (.long p5), .second, .unset] [])) _
      refine XS.iloadN X0.here hx rfl (hb hby own_d11_5) rfl ?_
      show Steps p.tables e below (s₁.setTop (mkF m 6 #[.val (.ref p1), .val (.int (3 : Int32)), .val (.int p3), .val (.int p4), .val (.long p5), .second, .unset] [(.int p4)])) _
      refine XS.bipush X0.here hx rfl (hb hby own_d11_6) ?_
      show Steps p.tables e below (s₁.setTop (mkF m 8 #[.val (.ref p1), .val (.int (3 : Int32)), .val (.int p3), .val (.int p4), .val (.long p5), .second, .unset] [(.int (8 : Int32)), (.int p4)])) _
      refine XS.ishr X0.here hx rfl (hb hby own_d11_8) rfl ?_
      show Steps p.tables e below (s₁.setTop (mkF m 9 #[.val (.ref p1), .val (.int (3 : Int32)), .val (.int p3), .val (.int p4), .val (.long p5), .second, .unset] [(.int (p4 >>> ((8 : Int32) &&& 31)))])) _
      refine XS.sipush X0.here hx rfl (hb hby own_d11_9) ?_
      show Steps p.tables e below (s₁.setTop (mkF m 12 #[.val (.ref p1), .val (.int (3 : Int32)), .val (.int p3), .val (.int p4), .val (.long p5), .second, .unset] [(.int (255 : Int32)), (.int (p4 >>> ((8 : Int32) &&& 31)))])) _
      refine XS.iand X0.here hx rfl (hb hby own_d11_12) rfl ?_
      show Steps p.tables e below (s₁.setTop (mkF m 13 #[.val (.ref p1), .val (.int (3 : Int32)), .val (.int p3), .val (.int p4), .val (.long p5), .second, .unset] [(.int ((p4 >>> ((8 : Int32) &&& 31)) &&& (255 : Int32)))])) _
      refine XS.istore X0.here hx rfl (hb hby own_d11_13) rfl (l' := #[.val (.ref p1), .val (.int (3 : Int32)), .val (.int p3), .val (.int p4), .val (.long p5), .second, .val (.int ((p4 >>> ((8 : Int32) &&& 31)) &&& (255 : Int32)))]) rfl ?_
      show Steps p.tables e below (s₁.setTop (mkF m 15 #[.val (.ref p1), .val (.int (3 : Int32)), .val (.int p3), .val (.int p4), .val (.long p5), .second, .val (.int ((p4 >>> ((8 : Int32) &&& 31)) &&& (255 : Int32)))] [])) _
      refine XS.goto X0.here hx rfl (pc0 := 15) (pc' := 52) rfl (hb hby own_d11_15) (by decide) (by decide) ?_
      have q0 : (own_ex3 p3 p4 p5) = ((p4 >>> ((8 : Int32) &&& 31)) &&& (255 : Int32)) := (if_pos hc2_2)
      rw [q0] at k
      exact k
    · show Steps p.tables e below (s₁.setTop (mkF m 2 #[.val (.ref p1), .val (.int (3 : Int32)), .val (.int p3), .val (.int p4), .val (.long p5), .second, .unset] [(.int p3), (.int (3 : Int32))])) _
      refine XS.icmpYes X0.here hx rfl (pc0 := 2) (pc' := 18) rfl (hb hby own_d11_2) rfl (feq hc2_2).2 (by decide) (by decide) ?_
      show Steps p.tables e below (s₁.setTop (mkF m 18 #[.val (.ref p1), .val (.int (3 : Int32)), .val (.int p3), .val (.int p4), .val (.long p5), .second, .unset] [])) _
      refine XS.iloadN X0.here hx rfl (hb hby own_d11_18) rfl ?_
      show Steps p.tables e below (s₁.setTop (mkF m 19 #[.val (.ref p1), .val (.int (3 : Int32)), .val (.int p3), .val (.int p4), .val (.long p5), .second, .unset] [(.int (3 : Int32))])) _
      refine XS.iloadN X0.here hx rfl (hb hby own_d11_19) rfl ?_
      show Steps p.tables e below (s₁.setTop (mkF m 20 #[.val (.ref p1), .val (.int (3 : Int32)), .val (.int p3), .val (.int p4), .val (.long p5), .second, .unset] [(.int p3), (.int (3 : Int32))])) _
      refine XS.iconst X0.here hx rfl (hb hby own_d11_20) ?_
      show Steps p.tables e below (s₁.setTop (mkF m 21 #[.val (.ref p1), .val (.int (3 : Int32)), .val (.int p3), .val (.int p4), .val (.long p5), .second, .unset] [(.int (1 : Int32)), (.int p3), (.int (3 : Int32))])) _
      refine XS.iadd X0.here hx rfl (hb hby own_d11_21) rfl ?_
      by_cases hc22_3 : (3 : Int32) = (p3 + (1 : Int32))
      · show Steps p.tables e below (s₁.setTop (mkF m 22 #[.val (.ref p1), .val (.int (3 : Int32)), .val (.int p3), .val (.int p4), .val (.long p5), .second, .unset] [(.int (p3 + (1 : Int32))), (.int (3 : Int32))])) _
        refine XS.icmpNo X0.here hx rfl (hb hby own_d11_22) rfl (teq hc22_3).2 ?_
        show Steps p.tables e below (s₁.setTop (mkF m 25 #[.val (.ref p1), .val (.int (3 : Int32)), .val (.int p3), .val (.int p4), .val (.long p5), .second, .unset] [])) _
        refine XS.iloadN X0.here hx rfl (hb hby own_d11_25) rfl ?_
        show Steps p.tables e below (s₁.setTop (mkF m 26 #[.val (.ref p1), .val (.int (3 : Int32)), .val (.int p3), .val (.int p4), .val (.long p5), .second, .unset] [(.int p4)])) _
        refine XS.sipush X0.here hx rfl (hb hby own_d11_26) ?_
        show Steps p.tables e below (s₁.setTop (mkF m 29 #[.val (.ref p1), .val (.int (3 : Int32)), .val (.int p3), .val (.int p4), .val (.long p5), .second, .unset] [(.int (255 : Int32)), (.int p4)])) _
        refine XS.iand X0.here hx rfl (hb hby own_d11_29) rfl ?_
        show Steps p.tables e below (s₁.setTop (mkF m 30 #[.val (.ref p1), .val (.int (3 : Int32)), .val (.int p3), .val (.int p4), .val (.long p5), .second, .unset] [(.int (p4 &&& (255 : Int32)))])) _
        refine XS.istore X0.here hx rfl (hb hby own_d11_30) rfl (l' := #[.val (.ref p1), .val (.int (3 : Int32)), .val (.int p3), .val (.int p4), .val (.long p5), .second, .val (.int (p4 &&& (255 : Int32)))]) rfl ?_
        show Steps p.tables e below (s₁.setTop (mkF m 32 #[.val (.ref p1), .val (.int (3 : Int32)), .val (.int p3), .val (.int p4), .val (.long p5), .second, .val (.int (p4 &&& (255 : Int32)))] [])) _
        refine XS.goto X0.here hx rfl (pc0 := 32) (pc' := 52) rfl (hb hby own_d11_32) (by decide) (by decide) ?_
        have q0 : (own_ex3 p3 p4 p5) = (p4 &&& (255 : Int32)) := ((if_neg hc2_2).trans (if_pos hc22_3))
        rw [q0] at k
        exact k
      · show Steps p.tables e below (s₁.setTop (mkF m 22 #[.val (.ref p1), .val (.int (3 : Int32)), .val (.int p3), .val (.int p4), .val (.long p5), .second, .unset] [(.int (p3 + (1 : Int32))), (.int (3 : Int32))])) _
        refine XS.icmpYes X0.here hx rfl (pc0 := 22) (pc' := 35) rfl (hb hby own_d11_22) rfl (feq hc22_3).2 (by decide) (by decide) ?_
        show Steps p.tables e below (s₁.setTop (mkF m 35 #[.val (.ref p1), .val (.int (3 : Int32)), .val (.int p3), .val (.int p4), .val (.long p5), .second, .unset] [])) _
        refine XS.lload X0.here hx rfl (hb hby own_d11_35) rfl ?_
        show Steps p.tables e below (s₁.setTop (mkF m 37 #[.val (.ref p1), .val (.int (3 : Int32)), .val (.int p3), .val (.int p4), .val (.long p5), .second, .unset] [(.long p5)])) _
        refine XS.bipush X0.here hx rfl (hb hby own_d11_37) ?_
        show Steps p.tables e below (s₁.setTop (mkF m 39 #[.val (.ref p1), .val (.int (3 : Int32)), .val (.int p3), .val (.int p4), .val (.long p5), .second, .unset] [(.int (56 : Int32)), (.long p5)])) _
        refine XS.bipush X0.here hx rfl (hb hby own_d11_39) ?_
        show Steps p.tables e below (s₁.setTop (mkF m 41 #[.val (.ref p1), .val (.int (3 : Int32)), .val (.int p3), .val (.int p4), .val (.long p5), .second, .unset] [(.int (8 : Int32)), (.int (56 : Int32)), (.long p5)])) _
        refine XS.iloadN X0.here hx rfl (hb hby own_d11_41) rfl ?_
        show Steps p.tables e below (s₁.setTop (mkF m 42 #[.val (.ref p1), .val (.int (3 : Int32)), .val (.int p3), .val (.int p4), .val (.long p5), .second, .unset] [(.int (3 : Int32)), (.int (8 : Int32)), (.int (56 : Int32)), (.long p5)])) _
        refine XS.imul X0.here hx rfl (hb hby own_d11_42) rfl ?_
        show Steps p.tables e below (s₁.setTop (mkF m 43 #[.val (.ref p1), .val (.int (3 : Int32)), .val (.int p3), .val (.int p4), .val (.long p5), .second, .unset] [(.int (24 : Int32)), (.int (56 : Int32)), (.long p5)])) _
        refine XS.isub X0.here hx rfl (hb hby own_d11_43) rfl ?_
        show Steps p.tables e below (s₁.setTop (mkF m 44 #[.val (.ref p1), .val (.int (3 : Int32)), .val (.int p3), .val (.int p4), .val (.long p5), .second, .unset] [(.int (32 : Int32)), (.long p5)])) _
        refine XS.lushr X0.here hx rfl (hb hby own_d11_44) rfl ?_
        show Steps p.tables e below (s₁.setTop (mkF m 45 #[.val (.ref p1), .val (.int (3 : Int32)), .val (.int p3), .val (.int p4), .val (.long p5), .second, .unset] [(.long ((p5.toUInt64 >>> ((32 : Int32) &&& 0x3f).toInt64.toUInt64).toInt64))])) _
        refine X0.ldc2Long hx hown (mvT hZ (hw _ (List.mem_of_getElem? (i := 60) rfl))) (g := (mkF m 45 #[.val (.ref p1), .val (.int (3 : Int32)), .val (.int p3), .val (.int p4), .val (.long p5), .second, .unset] [(.long ((p5.toUInt64 >>> ((32 : Int32) &&& 0x3f).toInt64.toUInt64).toInt64))])) rfl (hb hby own_d11_45) _ ?_
        show Steps p.tables e below (s₁.setTop (mkF m 48 #[.val (.ref p1), .val (.int (3 : Int32)), .val (.int p3), .val (.int p4), .val (.long p5), .second, .unset] [(.long (255 : Int64)), (.long ((p5.toUInt64 >>> ((32 : Int32) &&& 0x3f).toInt64.toUInt64).toInt64))])) _
        refine XS.land X0.here hx rfl (hb hby own_d11_48) rfl ?_
        show Steps p.tables e below (s₁.setTop (mkF m 49 #[.val (.ref p1), .val (.int (3 : Int32)), .val (.int p3), .val (.int p4), .val (.long p5), .second, .unset] [(.long (((p5.toUInt64 >>> ((32 : Int32) &&& 0x3f).toInt64.toUInt64).toInt64) &&& (255 : Int64)))])) _
        refine XS.l2i X0.here hx rfl (hb hby own_d11_49) rfl ?_
        show Steps p.tables e below (s₁.setTop (mkF m 50 #[.val (.ref p1), .val (.int (3 : Int32)), .val (.int p3), .val (.int p4), .val (.long p5), .second, .unset] [(.int ((((p5.toUInt64 >>> ((32 : Int32) &&& 0x3f).toInt64.toUInt64).toInt64) &&& (255 : Int64)).toInt32))])) _
        refine XS.istore X0.here hx rfl (hb hby own_d11_50) rfl (l' := #[.val (.ref p1), .val (.int (3 : Int32)), .val (.int p3), .val (.int p4), .val (.long p5), .second, .val (.int ((((p5.toUInt64 >>> ((32 : Int32) &&& 0x3f).toInt64.toUInt64).toInt64) &&& (255 : Int64)).toInt32))]) rfl ?_
        have q0 : (own_ex3 p3 p4 p5) = ((((p5.toUInt64 >>> ((32 : Int32) &&& 0x3f).toInt64.toUInt64).toInt64) &&& (255 : Int64)).toInt32) := ((if_neg hc2_2).trans (if_neg hc22_3))
        rw [q0] at k
        exact k
  obtain ⟨cl4, Ar4, qa4, Sa4, Na4, Ha4, Ga4⟩ := id V0
  have hin5 : ¬ ((3 : Int32) < 0 ∨ cl4.slots.size ≤ ((3 : Int32)).toNatClampNeg) := inb_of Sa4 ⟨by decide, by decide⟩
  have hat6 : cl4.slots[((3 : Int32)).toNatClampNeg]? = some (.int v3) := Ha4 3 (Nat.lt_of_not_le fun q => hin5 (Or.inr q))
  have k7 : ∀ t, Steps p.tables e below (s₁.setTop (mkF m 61 #[.val (.ref p1), .val (.int (3 : Int32)), .val (.int p3), .val (.int p4), .val (.long p5), .second, .val (.int (own_ex3 p3 p4 p5))] [(.int (own_ex3 p3 p4 p5)), (.int (v3 &&& (255 : Int32)))])) t → Steps p.tables e below (s₁.setTop (entryFrame m #[(.ref p1), (.int (3 : Int32)), (.int p3), (.int p4), (.long p5)] 7)) t := by
    intro t k
    refine k1 t ?_
    show Steps p.tables e below (s₁.setTop (mkF m 52 #[.val (.ref p1), .val (.int (3 : Int32)), .val (.int p3), .val (.int p4), .val (.long p5), .second, .val (.int (own_ex3 p3 p4 p5))] [])) _
    refine XS.aloadN X0.here hx rfl (hb hby own_d11_52) rfl rfl ?_
    show Steps p.tables e below (s₁.setTop (mkF m 53 #[.val (.ref p1), .val (.int (3 : Int32)), .val (.int p3), .val (.int p4), .val (.long p5), .second, .val (.int (own_ex3 p3 p4 p5))] [(.ref p1)])) _
    refine XS.iloadN X0.here hx rfl (hb hby own_d11_53) rfl ?_
    show Steps p.tables e below (s₁.setTop (mkF m 54 #[.val (.ref p1), .val (.int (3 : Int32)), .val (.int p3), .val (.int p4), .val (.long p5), .second, .val (.int (own_ex3 p3 p4 p5))] [(.int (3 : Int32)), (.ref p1)])) _
    refine X0.baloadBytes hx (j := (3 : Int32)) (v := (.int v3)) (by rw [e0]; exact Ar4.1) (State.isArrayOf_alike hZ.alike Ar4.2.1) Ar4.2.2 hin5 hat6 (g := (mkF m 54 #[.val (.ref p1), .val (.int (3 : Int32)), .val (.int p3), .val (.int p4), .val (.long p5), .second, .val (.int (own_ex3 p3 p4 p5))] [(.int (3 : Int32)), (.ref p1)])) rfl rfl (hb hby own_d11_54) _ ?_
    show Steps p.tables e below (s₁.setTop (mkF m 55 #[.val (.ref p1), .val (.int (3 : Int32)), .val (.int p3), .val (.int p4), .val (.long p5), .second, .val (.int (own_ex3 p3 p4 p5))] [(.int v3)])) _
    refine XS.sipush X0.here hx rfl (hb hby own_d11_55) ?_
    show Steps p.tables e below (s₁.setTop (mkF m 58 #[.val (.ref p1), .val (.int (3 : Int32)), .val (.int p3), .val (.int p4), .val (.long p5), .second, .val (.int (own_ex3 p3 p4 p5))] [(.int (255 : Int32)), (.int v3)])) _
    refine XS.iand X0.here hx rfl (hb hby own_d11_58) rfl ?_
    show Steps p.tables e below (s₁.setTop (mkF m 59 #[.val (.ref p1), .val (.int (3 : Int32)), .val (.int p3), .val (.int p4), .val (.long p5), .second, .val (.int (own_ex3 p3 p4 p5))] [(.int (v3 &&& (255 : Int32)))])) _
    refine XS.iload X0.here hx rfl (hb hby own_d11_59) rfl ?_
    exact k
  by_cases hc61_8 : (v3 &&& (255 : Int32)) = (own_ex3 p3 p4 p5)
  · have k9 : ∀ t, Steps p.tables e below (s₁.setTop (mkF m 69 #[.val (.ref p1), .val (.int (3 : Int32)), .val (.int p3), .val (.int p4), .val (.long p5), .second, .val (.int (own_ex3 p3 p4 p5))] [(.int (1 : Int32))])) t → Steps p.tables e below (s₁.setTop (entryFrame m #[(.ref p1), (.int (3 : Int32)), (.int p3), (.int p4), (.long p5)] 7)) t := by
      intro t k
      refine k7 t ?_
      show Steps p.tables e below (s₁.setTop (mkF m 61 #[.val (.ref p1), .val (.int (3 : Int32)), .val (.int p3), .val (.int p4), .val (.long p5), .second, .val (.int (own_ex3 p3 p4 p5))] [(.int (own_ex3 p3 p4 p5)), (.int (v3 &&& (255 : Int32)))])) _
      refine XS.icmpNo X0.here hx rfl (hb hby own_d11_61) rfl (teq hc61_8).2 ?_
      show Steps p.tables e below (s₁.setTop (mkF m 64 #[.val (.ref p1), .val (.int (3 : Int32)), .val (.int p3), .val (.int p4), .val (.long p5), .second, .val (.int (own_ex3 p3 p4 p5))] [])) _
      refine XS.iconst X0.here hx rfl (hb hby own_d11_64) ?_
      show Steps p.tables e below (s₁.setTop (mkF m 65 #[.val (.ref p1), .val (.int (3 : Int32)), .val (.int p3), .val (.int p4), .val (.long p5), .second, .val (.int (own_ex3 p3 p4 p5))] [(.int (1 : Int32))])) _
      refine XS.goto X0.here hx rfl (pc0 := 65) (pc' := 69) rfl (hb hby own_d11_65) (by decide) (by decide) ?_
      exact k
    obtain ⟨fs, hr, hrun, hended, hW, hsame⟩ := X0.leave (v := (some (.int (1 : Int32)))) (fun h => by rw [Bd.returns] at h; cases h)
    refine ⟨_, _, k9 _ ?_, hrun, hended, _, _, rfl, ?_, ⟨_, rfl⟩, hW, hsame.mono (by decide) (by decide)⟩
    · exact retN X0 hx (t := .boolean) Bd.returns (by simp) (hb hby own_d11_69) hr
    · have hv : (own_vat3 p3 p4 p5 v3) = (1 : Int32) := (if_pos hc61_8)
      exact ⟨congrArg (fun z => some (Value.int z)) hv.symm, N0, e0⟩
  · have k10 : ∀ t, Steps p.tables e below (s₁.setTop (mkF m 69 #[.val (.ref p1), .val (.int (3 : Int32)), .val (.int p3), .val (.int p4), .val (.long p5), .second, .val (.int (own_ex3 p3 p4 p5))] [(.int (0 : Int32))])) t → Steps p.tables e below (s₁.setTop (entryFrame m #[(.ref p1), (.int (3 : Int32)), (.int p3), (.int p4), (.long p5)] 7)) t := by
      intro t k
      refine k7 t ?_
      show Steps p.tables e below (s₁.setTop (mkF m 61 #[.val (.ref p1), .val (.int (3 : Int32)), .val (.int p3), .val (.int p4), .val (.long p5), .second, .val (.int (own_ex3 p3 p4 p5))] [(.int (own_ex3 p3 p4 p5)), (.int (v3 &&& (255 : Int32)))])) _
      refine XS.icmpYes X0.here hx rfl (pc0 := 61) (pc' := 68) rfl (hb hby own_d11_61) rfl (feq hc61_8).2 (by decide) (by decide) ?_
      show Steps p.tables e below (s₁.setTop (mkF m 68 #[.val (.ref p1), .val (.int (3 : Int32)), .val (.int p3), .val (.int p4), .val (.long p5), .second, .val (.int (own_ex3 p3 p4 p5))] [])) _
      refine XS.iconst X0.here hx rfl (hb hby own_d11_68) ?_
      exact k
    obtain ⟨fs, hr, hrun, hended, hW, hsame⟩ := X0.leave (v := (some (.int (0 : Int32)))) (fun h => by rw [Bd.returns] at h; cases h)
    refine ⟨_, _, k10 _ ?_, hrun, hended, _, _, rfl, ?_, ⟨_, rfl⟩, hW, hsame.mono (by decide) (by decide)⟩
    · exact retN X0 hx (t := .boolean) Bd.returns (by simp) (hb hby own_d11_69) hr
    · have hv : (own_vat3 p3 p4 p5 v3) = (0 : Int32) := (if_neg hc61_8)
      exact ⟨congrArg (fun z => some (Value.int z)) hv.symm, N0, e0⟩
def own_ex4 (p3 : Int32) (p4 : Int32) (p5 : Int64) : Int32 := if (4 : Int32) = p3 then ((p4 >>> ((8 : Int32) &&& 31)) &&& (255 : Int32)) else if (4 : Int32) = (p3 + (1 : Int32)) then (p4 &&& (255 : Int32)) else ((((p5.toUInt64 >>> ((24 : Int32) &&& 0x3f).toInt64.toUInt64).toInt64) &&& (255 : Int64)).toInt32)
def own_vat4 (p3 : Int32) (p4 : Int32) (p5 : Int64) (v4 : Int32) : Int32 :=
  if (v4 &&& (255 : Int32)) = (own_ex4 p3 p4 p5) then (1 : Int32) else
  (0 : Int32)
theorem own_efat4 (m : MethodId) (x0 : Addr) (x2 : Int32) (x3 : Int32) (x4 : Int64) : entryFrame m #[(.ref x0), (.int (4 : Int32)), (.int x2), (.int x3), (.long x4)] 7 = mkF m 0 #[.val (.ref x0), .val (.int (4 : Int32)), .val (.int x2), .val (.int x3), .val (.long x4), .second, .unset] [] := by first | (simp [entryFrame, mkF, argsToLocals, Value.category]; done) | rfl
def own_Qat4 (Z : State) (p1 : Addr) (p3 : Int32) (p4 : Int32) (p5 : Int64) (cc : ClassId) (v0 : Int32) (v1 : Int32) (v2 : Int32) (v3 : Int32) (v4 : Int32) (v5 : Int32) (v6 : Int32) (v7 : Int32) (h0 : Heap) (n0 : Nat) (v : Option Value) (h : Heap) (L : List Loc) : Prop := v = some (.int (own_vat4 p3 p4 p5 v4)) ∧ Fr n0 L ∧ h = h0
set_option maxRecDepth 65536 in
set_option maxHeartbeats 40000000 in
theorem own_rmat4 (l : Launch) (Z : State) (a0 : Array Value) (hw : ∀ d ∈ tables_1, d.before a0 Z = true) (ws : List Jvm.Cond) (p1 : Addr) (p3 : Int32) (p4 : Int32) (p5 : Int64) (cc : ClassId) (v0 : Int32) (v1 : Int32) (v2 : Int32) (v3 : Int32) (v4 : Int32) (v5 : Int32) (v6 : Int32) (v7 : Int32) (h0 : Heap) (n0 : Nat) (Z0 : n0 ≤ h0.size) (V0 : Arv Z h0 p1 cc .byte (8 : Int32) [(.int v0), (.int v1), (.int v2), (.int v3), (.int v4), (.int v5), (.int v6), (.int v7)] (.int (0 : Int32))) :
    MetFree l (⟨"com/example/reckoner/reckoner/BytesSetU2PinLaw", "at", "([BIIIJ)Z"⟩ : MethodName) (head1 (Jvm.Cond.code (⟨"com/example/reckoner/reckoner/BytesSetU2PinLaw", "at", "([BIIIJ)Z"⟩ : MethodName) method_3_code 7 (some .boolean) :: ws) ({ frames := 0, cells := 0, slots := 0, locals := 0 } : Room)) (fun aa U => aa = #[(.ref p1), (.int (4 : Int32)), (.int p3), (.int p4), (.long p5)] ∧ Z.Warmed39 U.vm ∧ U.heap = h0) (fun _ _ _ _ _ => True) (fun _ U o U' => ∃ v L, o = .returned v ∧ own_Qat4 Z p1 p3 p4 p5 cc v0 v1 v2 v3 v4 v5 v6 v7 h0 n0 v U'.heap L ∧ FrameEnd U o U' L ({ frames := 0, cells := 0, slots := 0, locals := 0 } : Room).cells ({ frames := 0, cells := 0, slots := 0, locals := 0 } : Room).slots) := by
  refine MetFree.of_bodySF (plainFor_of_name own_pn2) hisR ?_
  intro p e s m args below meth c s₁ Bd hml0 hP hK
  obtain ⟨rfl, hZ, hh⟩ := hP
  have hx := Bd.exec
  have hby := Bd.bytes
  have hml : c.maxLocals = 7 := hml0
  have hown : s.vm.findClass "com/example/reckoner/reckoner/BytesSetU2PinLaw" = some m.cls := findClass_of_methodNamed Bd.named
  have hnm := (name_of_methodNamed Bd.named Bd.method).1
  have X0 : Stand p l e ({ frames := 0, cells := 0, slots := 0, locals := 0 } : Room) s m #[(.ref p1), (.int (4 : Int32)), (.int p3), (.int p4), (.long p5)] below meth c s₁ [] 0 0 := Stand.of_body Bd
  have e0 : s₁.heap = h0 := by rw [← hh, Bd.state]; rfl
  have N0 := Fr.nil n0
  have pre0 : ∀ t, Steps p.tables e below (s₁.setTop (mkF m 0 #[.val (.ref p1), .val (.int (4 : Int32)), .val (.int p3), .val (.int p4), .val (.long p5), .second, .unset] [])) t → Steps p.tables e below (s₁.setTop (entryFrame m #[(.ref p1), (.int (4 : Int32)), (.int p3), (.int p4), (.long p5)] 7)) t := fun t k => castTop (own_efat4 m p1 p3 p4 p5) k
  have k1 : ∀ t, Steps p.tables e below (s₁.setTop (mkF m 52 #[.val (.ref p1), .val (.int (4 : Int32)), .val (.int p3), .val (.int p4), .val (.long p5), .second, .val (.int (own_ex4 p3 p4 p5))] [])) t → Steps p.tables e below (s₁.setTop (entryFrame m #[(.ref p1), (.int (4 : Int32)), (.int p3), (.int p4), (.long p5)] 7)) t := by
    intro t k
    refine pre0 t ?_
    show Steps p.tables e below (s₁.setTop (mkF m 0 #[.val (.ref p1), .val (.int (4 : Int32)), .val (.int p3), .val (.int p4), .val (.long p5), .second, .unset] [])) _
    refine XS.iloadN X0.here hx rfl (hb hby own_d11_0) rfl ?_
    show Steps p.tables e below (s₁.setTop (mkF m 1 #[.val (.ref p1), .val (.int (4 : Int32)), .val (.int p3), .val (.int p4), .val (.long p5), .second, .unset] [(.int (4 : Int32))])) _
    refine XS.iloadN X0.here hx rfl (hb hby own_d11_1) rfl ?_
    by_cases hc2_2 : (4 : Int32) = p3
    · show Steps p.tables e below (s₁.setTop (mkF m 2 #[.val (.ref p1), .val (.int (4 : Int32)), .val (.int p3), .val (.int p4), .val (.long p5), .second, .unset] [(.int p3), (.int (4 : Int32))])) _
      refine XS.icmpNo X0.here hx rfl (hb hby own_d11_2) rfl (teq hc2_2).2 ?_
      show Steps p.tables e below (s₁.setTop (mkF m 5 #[.val (.ref p1), .val (.int (4 : Int32)), .val (.int p3), .val (.int p4), .val (.long p5), .second, .unset] [])) _
      refine XS.iloadN X0.here hx rfl (hb hby own_d11_5) rfl ?_
      show Steps p.tables e below (s₁.setTop (mkF m 6 #[.val (.ref p1), .val (.int (4 : Int32)), .val (.int p3), .val (.int p4), .val (.long p5), .second, .unset] [(.int p4)])) _
      refine XS.bipush X0.here hx rfl (hb hby own_d11_6) ?_
      show Steps p.tables e below (s₁.setTop (mkF m 8 #[.val (.ref p1), .val (.int (4 : Int32)), .val (.int p3), .val (.int p4), .val (.long p5), .second, .unset] [(.int (8 : Int32)), (.int p4)])) _
      refine XS.ishr X0.here hx rfl (hb hby own_d11_8) rfl ?_
      show Steps p.tables e below (s₁.setTop (mkF m 9 #[.val (.ref p1), .val (.int (4 : Int32)), .val (.int p3), .val (.int p4), .val (.long p5), .second, .unset] [(.int (p4 >>> ((8 : Int32) &&& 31)))])) _
      refine XS.sipush X0.here hx rfl (hb hby own_d11_9) ?_
      show Steps p.tables e below (s₁.setTop (mkF m 12 #[.val (.ref p1), .val (.int (4 : Int32)), .val (.int p3), .val (.int p4), .val (.long p5), .second, .unset] [(.int (255 : Int32)), (.int (p4 >>> ((8 : Int32) &&& 31)))])) _
      refine XS.iand X0.here hx rfl (hb hby own_d11_12) rfl ?_
      show Steps p.tables e below (s₁.setTop (mkF m 13 #[.val (.ref p1), .val (.int (4 : Int32)), .val (.int p3), .val (.int p4), .val (.long p5), .second, .unset] [(.int ((p4 >>> ((8 : Int32) &&& 31)) &&& (255 : Int32)))])) _
      refine XS.istore X0.here hx rfl (hb hby own_d11_13) rfl (l' := #[.val (.ref p1), .val (.int (4 : Int32)), .val (.int p3), .val (.int p4), .val (.long p5), .second, .val (.int ((p4 >>> ((8 : Int32) &&& 31)) &&& (255 : Int32)))]) rfl ?_
      show Steps p.tables e below (s₁.setTop (mkF m 15 #[.val (.ref p1), .val (.int (4 : Int32)), .val (.int p3), .val (.int p4), .val (.long p5), .second, .val (.int ((p4 >>> ((8 : Int32) &&& 31)) &&& (255 : Int32)))] [])) _
      refine XS.goto X0.here hx rfl (pc0 := 15) (pc' := 52) rfl (hb hby own_d11_15) (by decide) (by decide) ?_
      have q0 : (own_ex4 p3 p4 p5) = ((p4 >>> ((8 : Int32) &&& 31)) &&& (255 : Int32)) := (if_pos hc2_2)
      rw [q0] at k
      exact k
    · show Steps p.tables e below (s₁.setTop (mkF m 2 #[.val (.ref p1), .val (.int (4 : Int32)), .val (.int p3), .val (.int p4), .val (.long p5), .second, .unset] [(.int p3), (.int (4 : Int32))])) _
      refine XS.icmpYes X0.here hx rfl (pc0 := 2) (pc' := 18) rfl (hb hby own_d11_2) rfl (feq hc2_2).2 (by decide) (by decide) ?_
      show Steps p.tables e below (s₁.setTop (mkF m 18 #[.val (.ref p1), .val (.int (4 : Int32)), .val (.int p3), .val (.int p4), .val (.long p5), .second, .unset] [])) _
      refine XS.iloadN X0.here hx rfl (hb hby own_d11_18) rfl ?_
      show Steps p.tables e below (s₁.setTop (mkF m 19 #[.val (.ref p1), .val (.int (4 : Int32)), .val (.int p3), .val (.int p4), .val (.long p5), .second, .unset] [(.int (4 : Int32))])) _
      refine XS.iloadN X0.here hx rfl (hb hby own_d11_19) rfl ?_
      show Steps p.tables e below (s₁.setTop (mkF m 20 #[.val (.ref p1), .val (.int (4 : Int32)), .val (.int p3), .val (.int p4), .val (.long p5), .second, .unset] [(.int p3), (.int (4 : Int32))])) _
      refine XS.iconst X0.here hx rfl (hb hby own_d11_20) ?_
      show Steps p.tables e below (s₁.setTop (mkF m 21 #[.val (.ref p1), .val (.int (4 : Int32)), .val (.int p3), .val (.int p4), .val (.long p5), .second, .unset] [(.int (1 : Int32)), (.int p3), (.int (4 : Int32))])) _
      refine XS.iadd X0.here hx rfl (hb hby own_d11_21) rfl ?_
      by_cases hc22_3 : (4 : Int32) = (p3 + (1 : Int32))
      · show Steps p.tables e below (s₁.setTop (mkF m 22 #[.val (.ref p1), .val (.int (4 : Int32)), .val (.int p3), .val (.int p4), .val (.long p5), .second, .unset] [(.int (p3 + (1 : Int32))), (.int (4 : Int32))])) _
        refine XS.icmpNo X0.here hx rfl (hb hby own_d11_22) rfl (teq hc22_3).2 ?_
        show Steps p.tables e below (s₁.setTop (mkF m 25 #[.val (.ref p1), .val (.int (4 : Int32)), .val (.int p3), .val (.int p4), .val (.long p5), .second, .unset] [])) _
        refine XS.iloadN X0.here hx rfl (hb hby own_d11_25) rfl ?_
        show Steps p.tables e below (s₁.setTop (mkF m 26 #[.val (.ref p1), .val (.int (4 : Int32)), .val (.int p3), .val (.int p4), .val (.long p5), .second, .unset] [(.int p4)])) _
        refine XS.sipush X0.here hx rfl (hb hby own_d11_26) ?_
        show Steps p.tables e below (s₁.setTop (mkF m 29 #[.val (.ref p1), .val (.int (4 : Int32)), .val (.int p3), .val (.int p4), .val (.long p5), .second, .unset] [(.int (255 : Int32)), (.int p4)])) _
        refine XS.iand X0.here hx rfl (hb hby own_d11_29) rfl ?_
        show Steps p.tables e below (s₁.setTop (mkF m 30 #[.val (.ref p1), .val (.int (4 : Int32)), .val (.int p3), .val (.int p4), .val (.long p5), .second, .unset] [(.int (p4 &&& (255 : Int32)))])) _
        refine XS.istore X0.here hx rfl (hb hby own_d11_30) rfl (l' := #[.val (.ref p1), .val (.int (4 : Int32)), .val (.int p3), .val (.int p4), .val (.long p5), .second, .val (.int (p4 &&& (255 : Int32)))]) rfl ?_
        show Steps p.tables e below (s₁.setTop (mkF m 32 #[.val (.ref p1), .val (.int (4 : Int32)), .val (.int p3), .val (.int p4), .val (.long p5), .second, .val (.int (p4 &&& (255 : Int32)))] [])) _
        refine XS.goto X0.here hx rfl (pc0 := 32) (pc' := 52) rfl (hb hby own_d11_32) (by decide) (by decide) ?_
        have q0 : (own_ex4 p3 p4 p5) = (p4 &&& (255 : Int32)) := ((if_neg hc2_2).trans (if_pos hc22_3))
        rw [q0] at k
        exact k
      · show Steps p.tables e below (s₁.setTop (mkF m 22 #[.val (.ref p1), .val (.int (4 : Int32)), .val (.int p3), .val (.int p4), .val (.long p5), .second, .unset] [(.int (p3 + (1 : Int32))), (.int (4 : Int32))])) _
        refine XS.icmpYes X0.here hx rfl (pc0 := 22) (pc' := 35) rfl (hb hby own_d11_22) rfl (feq hc22_3).2 (by decide) (by decide) ?_
        show Steps p.tables e below (s₁.setTop (mkF m 35 #[.val (.ref p1), .val (.int (4 : Int32)), .val (.int p3), .val (.int p4), .val (.long p5), .second, .unset] [])) _
        refine XS.lload X0.here hx rfl (hb hby own_d11_35) rfl ?_
        show Steps p.tables e below (s₁.setTop (mkF m 37 #[.val (.ref p1), .val (.int (4 : Int32)), .val (.int p3), .val (.int p4), .val (.long p5), .second, .unset] [(.long p5)])) _
        refine XS.bipush X0.here hx rfl (hb hby own_d11_37) ?_
        show Steps p.tables e below (s₁.setTop (mkF m 39 #[.val (.ref p1), .val (.int (4 : Int32)), .val (.int p3), .val (.int p4), .val (.long p5), .second, .unset] [(.int (56 : Int32)), (.long p5)])) _
        refine XS.bipush X0.here hx rfl (hb hby own_d11_39) ?_
        show Steps p.tables e below (s₁.setTop (mkF m 41 #[.val (.ref p1), .val (.int (4 : Int32)), .val (.int p3), .val (.int p4), .val (.long p5), .second, .unset] [(.int (8 : Int32)), (.int (56 : Int32)), (.long p5)])) _
        refine XS.iloadN X0.here hx rfl (hb hby own_d11_41) rfl ?_
        show Steps p.tables e below (s₁.setTop (mkF m 42 #[.val (.ref p1), .val (.int (4 : Int32)), .val (.int p3), .val (.int p4), .val (.long p5), .second, .unset] [(.int (4 : Int32)), (.int (8 : Int32)), (.int (56 : Int32)), (.long p5)])) _
        refine XS.imul X0.here hx rfl (hb hby own_d11_42) rfl ?_
        show Steps p.tables e below (s₁.setTop (mkF m 43 #[.val (.ref p1), .val (.int (4 : Int32)), .val (.int p3), .val (.int p4), .val (.long p5), .second, .unset] [(.int (32 : Int32)), (.int (56 : Int32)), (.long p5)])) _
        refine XS.isub X0.here hx rfl (hb hby own_d11_43) rfl ?_
        show Steps p.tables e below (s₁.setTop (mkF m 44 #[.val (.ref p1), .val (.int (4 : Int32)), .val (.int p3), .val (.int p4), .val (.long p5), .second, .unset] [(.int (24 : Int32)), (.long p5)])) _
        refine XS.lushr X0.here hx rfl (hb hby own_d11_44) rfl ?_
        show Steps p.tables e below (s₁.setTop (mkF m 45 #[.val (.ref p1), .val (.int (4 : Int32)), .val (.int p3), .val (.int p4), .val (.long p5), .second, .unset] [(.long ((p5.toUInt64 >>> ((24 : Int32) &&& 0x3f).toInt64.toUInt64).toInt64))])) _
        refine X0.ldc2Long hx hown (mvT hZ (hw _ (List.mem_of_getElem? (i := 60) rfl))) (g := (mkF m 45 #[.val (.ref p1), .val (.int (4 : Int32)), .val (.int p3), .val (.int p4), .val (.long p5), .second, .unset] [(.long ((p5.toUInt64 >>> ((24 : Int32) &&& 0x3f).toInt64.toUInt64).toInt64))])) rfl (hb hby own_d11_45) _ ?_
        show Steps p.tables e below (s₁.setTop (mkF m 48 #[.val (.ref p1), .val (.int (4 : Int32)), .val (.int p3), .val (.int p4), .val (.long p5), .second, .unset] [(.long (255 : Int64)), (.long ((p5.toUInt64 >>> ((24 : Int32) &&& 0x3f).toInt64.toUInt64).toInt64))])) _
        refine XS.land X0.here hx rfl (hb hby own_d11_48) rfl ?_
        show Steps p.tables e below (s₁.setTop (mkF m 49 #[.val (.ref p1), .val (.int (4 : Int32)), .val (.int p3), .val (.int p4), .val (.long p5), .second, .unset] [(.long (((p5.toUInt64 >>> ((24 : Int32) &&& 0x3f).toInt64.toUInt64).toInt64) &&& (255 : Int64)))])) _
        refine XS.l2i X0.here hx rfl (hb hby own_d11_49) rfl ?_
        show Steps p.tables e below (s₁.setTop (mkF m 50 #[.val (.ref p1), .val (.int (4 : Int32)), .val (.int p3), .val (.int p4), .val (.long p5), .second, .unset] [(.int ((((p5.toUInt64 >>> ((24 : Int32) &&& 0x3f).toInt64.toUInt64).toInt64) &&& (255 : Int64)).toInt32))])) _
        refine XS.istore X0.here hx rfl (hb hby own_d11_50) rfl (l' := #[.val (.ref p1), .val (.int (4 : Int32)), .val (.int p3), .val (.int p4), .val (.long p5), .second, .val (.int ((((p5.toUInt64 >>> ((24 : Int32) &&& 0x3f).toInt64.toUInt64).toInt64) &&& (255 : Int64)).toInt32))]) rfl ?_
        have q0 : (own_ex4 p3 p4 p5) = ((((p5.toUInt64 >>> ((24 : Int32) &&& 0x3f).toInt64.toUInt64).toInt64) &&& (255 : Int64)).toInt32) := ((if_neg hc2_2).trans (if_neg hc22_3))
        rw [q0] at k
        exact k
  obtain ⟨cl4, Ar4, qa4, Sa4, Na4, Ha4, Ga4⟩ := id V0
  have hin5 : ¬ ((4 : Int32) < 0 ∨ cl4.slots.size ≤ ((4 : Int32)).toNatClampNeg) := inb_of Sa4 ⟨by decide, by decide⟩
  have hat6 : cl4.slots[((4 : Int32)).toNatClampNeg]? = some (.int v4) := Ha4 4 (Nat.lt_of_not_le fun q => hin5 (Or.inr q))
  have k7 : ∀ t, Steps p.tables e below (s₁.setTop (mkF m 61 #[.val (.ref p1), .val (.int (4 : Int32)), .val (.int p3), .val (.int p4), .val (.long p5), .second, .val (.int (own_ex4 p3 p4 p5))] [(.int (own_ex4 p3 p4 p5)), (.int (v4 &&& (255 : Int32)))])) t → Steps p.tables e below (s₁.setTop (entryFrame m #[(.ref p1), (.int (4 : Int32)), (.int p3), (.int p4), (.long p5)] 7)) t := by
    intro t k
    refine k1 t ?_
    show Steps p.tables e below (s₁.setTop (mkF m 52 #[.val (.ref p1), .val (.int (4 : Int32)), .val (.int p3), .val (.int p4), .val (.long p5), .second, .val (.int (own_ex4 p3 p4 p5))] [])) _
    refine XS.aloadN X0.here hx rfl (hb hby own_d11_52) rfl rfl ?_
    show Steps p.tables e below (s₁.setTop (mkF m 53 #[.val (.ref p1), .val (.int (4 : Int32)), .val (.int p3), .val (.int p4), .val (.long p5), .second, .val (.int (own_ex4 p3 p4 p5))] [(.ref p1)])) _
    refine XS.iloadN X0.here hx rfl (hb hby own_d11_53) rfl ?_
    show Steps p.tables e below (s₁.setTop (mkF m 54 #[.val (.ref p1), .val (.int (4 : Int32)), .val (.int p3), .val (.int p4), .val (.long p5), .second, .val (.int (own_ex4 p3 p4 p5))] [(.int (4 : Int32)), (.ref p1)])) _
    refine X0.baloadBytes hx (j := (4 : Int32)) (v := (.int v4)) (by rw [e0]; exact Ar4.1) (State.isArrayOf_alike hZ.alike Ar4.2.1) Ar4.2.2 hin5 hat6 (g := (mkF m 54 #[.val (.ref p1), .val (.int (4 : Int32)), .val (.int p3), .val (.int p4), .val (.long p5), .second, .val (.int (own_ex4 p3 p4 p5))] [(.int (4 : Int32)), (.ref p1)])) rfl rfl (hb hby own_d11_54) _ ?_
    show Steps p.tables e below (s₁.setTop (mkF m 55 #[.val (.ref p1), .val (.int (4 : Int32)), .val (.int p3), .val (.int p4), .val (.long p5), .second, .val (.int (own_ex4 p3 p4 p5))] [(.int v4)])) _
    refine XS.sipush X0.here hx rfl (hb hby own_d11_55) ?_
    show Steps p.tables e below (s₁.setTop (mkF m 58 #[.val (.ref p1), .val (.int (4 : Int32)), .val (.int p3), .val (.int p4), .val (.long p5), .second, .val (.int (own_ex4 p3 p4 p5))] [(.int (255 : Int32)), (.int v4)])) _
    refine XS.iand X0.here hx rfl (hb hby own_d11_58) rfl ?_
    show Steps p.tables e below (s₁.setTop (mkF m 59 #[.val (.ref p1), .val (.int (4 : Int32)), .val (.int p3), .val (.int p4), .val (.long p5), .second, .val (.int (own_ex4 p3 p4 p5))] [(.int (v4 &&& (255 : Int32)))])) _
    refine XS.iload X0.here hx rfl (hb hby own_d11_59) rfl ?_
    exact k
  by_cases hc61_8 : (v4 &&& (255 : Int32)) = (own_ex4 p3 p4 p5)
  · have k9 : ∀ t, Steps p.tables e below (s₁.setTop (mkF m 69 #[.val (.ref p1), .val (.int (4 : Int32)), .val (.int p3), .val (.int p4), .val (.long p5), .second, .val (.int (own_ex4 p3 p4 p5))] [(.int (1 : Int32))])) t → Steps p.tables e below (s₁.setTop (entryFrame m #[(.ref p1), (.int (4 : Int32)), (.int p3), (.int p4), (.long p5)] 7)) t := by
      intro t k
      refine k7 t ?_
      show Steps p.tables e below (s₁.setTop (mkF m 61 #[.val (.ref p1), .val (.int (4 : Int32)), .val (.int p3), .val (.int p4), .val (.long p5), .second, .val (.int (own_ex4 p3 p4 p5))] [(.int (own_ex4 p3 p4 p5)), (.int (v4 &&& (255 : Int32)))])) _
      refine XS.icmpNo X0.here hx rfl (hb hby own_d11_61) rfl (teq hc61_8).2 ?_
      show Steps p.tables e below (s₁.setTop (mkF m 64 #[.val (.ref p1), .val (.int (4 : Int32)), .val (.int p3), .val (.int p4), .val (.long p5), .second, .val (.int (own_ex4 p3 p4 p5))] [])) _
      refine XS.iconst X0.here hx rfl (hb hby own_d11_64) ?_
      show Steps p.tables e below (s₁.setTop (mkF m 65 #[.val (.ref p1), .val (.int (4 : Int32)), .val (.int p3), .val (.int p4), .val (.long p5), .second, .val (.int (own_ex4 p3 p4 p5))] [(.int (1 : Int32))])) _
      refine XS.goto X0.here hx rfl (pc0 := 65) (pc' := 69) rfl (hb hby own_d11_65) (by decide) (by decide) ?_
      exact k
    obtain ⟨fs, hr, hrun, hended, hW, hsame⟩ := X0.leave (v := (some (.int (1 : Int32)))) (fun h => by rw [Bd.returns] at h; cases h)
    refine ⟨_, _, k9 _ ?_, hrun, hended, _, _, rfl, ?_, ⟨_, rfl⟩, hW, hsame.mono (by decide) (by decide)⟩
    · exact retN X0 hx (t := .boolean) Bd.returns (by simp) (hb hby own_d11_69) hr
    · have hv : (own_vat4 p3 p4 p5 v4) = (1 : Int32) := (if_pos hc61_8)
      exact ⟨congrArg (fun z => some (Value.int z)) hv.symm, N0, e0⟩
  · have k10 : ∀ t, Steps p.tables e below (s₁.setTop (mkF m 69 #[.val (.ref p1), .val (.int (4 : Int32)), .val (.int p3), .val (.int p4), .val (.long p5), .second, .val (.int (own_ex4 p3 p4 p5))] [(.int (0 : Int32))])) t → Steps p.tables e below (s₁.setTop (entryFrame m #[(.ref p1), (.int (4 : Int32)), (.int p3), (.int p4), (.long p5)] 7)) t := by
      intro t k
      refine k7 t ?_
      show Steps p.tables e below (s₁.setTop (mkF m 61 #[.val (.ref p1), .val (.int (4 : Int32)), .val (.int p3), .val (.int p4), .val (.long p5), .second, .val (.int (own_ex4 p3 p4 p5))] [(.int (own_ex4 p3 p4 p5)), (.int (v4 &&& (255 : Int32)))])) _
      refine XS.icmpYes X0.here hx rfl (pc0 := 61) (pc' := 68) rfl (hb hby own_d11_61) rfl (feq hc61_8).2 (by decide) (by decide) ?_
      show Steps p.tables e below (s₁.setTop (mkF m 68 #[.val (.ref p1), .val (.int (4 : Int32)), .val (.int p3), .val (.int p4), .val (.long p5), .second, .val (.int (own_ex4 p3 p4 p5))] [])) _
      refine XS.iconst X0.here hx rfl (hb hby own_d11_68) ?_
      exact k
    obtain ⟨fs, hr, hrun, hended, hW, hsame⟩ := X0.leave (v := (some (.int (0 : Int32)))) (fun h => by rw [Bd.returns] at h; cases h)
    refine ⟨_, _, k10 _ ?_, hrun, hended, _, _, rfl, ?_, ⟨_, rfl⟩, hW, hsame.mono (by decide) (by decide)⟩
    · exact retN X0 hx (t := .boolean) Bd.returns (by simp) (hb hby own_d11_69) hr
    · have hv : (own_vat4 p3 p4 p5 v4) = (0 : Int32) := (if_neg hc61_8)
      exact ⟨congrArg (fun z => some (Value.int z)) hv.symm, N0, e0⟩
def own_ex5 (p3 : Int32) (p4 : Int32) (p5 : Int64) : Int32 := if (5 : Int32) = p3 then ((p4 >>> ((8 : Int32) &&& 31)) &&& (255 : Int32)) else if (5 : Int32) = (p3 + (1 : Int32)) then (p4 &&& (255 : Int32)) else ((((p5.toUInt64 >>> ((16 : Int32) &&& 0x3f).toInt64.toUInt64).toInt64) &&& (255 : Int64)).toInt32)
def own_vat5 (p3 : Int32) (p4 : Int32) (p5 : Int64) (v5 : Int32) : Int32 :=
  if (v5 &&& (255 : Int32)) = (own_ex5 p3 p4 p5) then (1 : Int32) else
  (0 : Int32)
theorem own_efat5 (m : MethodId) (x0 : Addr) (x2 : Int32) (x3 : Int32) (x4 : Int64) : entryFrame m #[(.ref x0), (.int (5 : Int32)), (.int x2), (.int x3), (.long x4)] 7 = mkF m 0 #[.val (.ref x0), .val (.int (5 : Int32)), .val (.int x2), .val (.int x3), .val (.long x4), .second, .unset] [] := by first | (simp [entryFrame, mkF, argsToLocals, Value.category]; done) | rfl
def own_Qat5 (Z : State) (p1 : Addr) (p3 : Int32) (p4 : Int32) (p5 : Int64) (cc : ClassId) (v0 : Int32) (v1 : Int32) (v2 : Int32) (v3 : Int32) (v4 : Int32) (v5 : Int32) (v6 : Int32) (v7 : Int32) (h0 : Heap) (n0 : Nat) (v : Option Value) (h : Heap) (L : List Loc) : Prop := v = some (.int (own_vat5 p3 p4 p5 v5)) ∧ Fr n0 L ∧ h = h0
set_option maxRecDepth 65536 in
set_option maxHeartbeats 40000000 in
theorem own_rmat5 (l : Launch) (Z : State) (a0 : Array Value) (hw : ∀ d ∈ tables_1, d.before a0 Z = true) (ws : List Jvm.Cond) (p1 : Addr) (p3 : Int32) (p4 : Int32) (p5 : Int64) (cc : ClassId) (v0 : Int32) (v1 : Int32) (v2 : Int32) (v3 : Int32) (v4 : Int32) (v5 : Int32) (v6 : Int32) (v7 : Int32) (h0 : Heap) (n0 : Nat) (Z0 : n0 ≤ h0.size) (V0 : Arv Z h0 p1 cc .byte (8 : Int32) [(.int v0), (.int v1), (.int v2), (.int v3), (.int v4), (.int v5), (.int v6), (.int v7)] (.int (0 : Int32))) :
    MetFree l (⟨"com/example/reckoner/reckoner/BytesSetU2PinLaw", "at", "([BIIIJ)Z"⟩ : MethodName) (head1 (Jvm.Cond.code (⟨"com/example/reckoner/reckoner/BytesSetU2PinLaw", "at", "([BIIIJ)Z"⟩ : MethodName) method_3_code 7 (some .boolean) :: ws) ({ frames := 0, cells := 0, slots := 0, locals := 0 } : Room)) (fun aa U => aa = #[(.ref p1), (.int (5 : Int32)), (.int p3), (.int p4), (.long p5)] ∧ Z.Warmed39 U.vm ∧ U.heap = h0) (fun _ _ _ _ _ => True) (fun _ U o U' => ∃ v L, o = .returned v ∧ own_Qat5 Z p1 p3 p4 p5 cc v0 v1 v2 v3 v4 v5 v6 v7 h0 n0 v U'.heap L ∧ FrameEnd U o U' L ({ frames := 0, cells := 0, slots := 0, locals := 0 } : Room).cells ({ frames := 0, cells := 0, slots := 0, locals := 0 } : Room).slots) := by
  refine MetFree.of_bodySF (plainFor_of_name own_pn2) hisR ?_
  intro p e s m args below meth c s₁ Bd hml0 hP hK
  obtain ⟨rfl, hZ, hh⟩ := hP
  have hx := Bd.exec
  have hby := Bd.bytes
  have hml : c.maxLocals = 7 := hml0
  have hown : s.vm.findClass "com/example/reckoner/reckoner/BytesSetU2PinLaw" = some m.cls := findClass_of_methodNamed Bd.named
  have hnm := (name_of_methodNamed Bd.named Bd.method).1
  have X0 : Stand p l e ({ frames := 0, cells := 0, slots := 0, locals := 0 } : Room) s m #[(.ref p1), (.int (5 : Int32)), (.int p3), (.int p4), (.long p5)] below meth c s₁ [] 0 0 := Stand.of_body Bd
  have e0 : s₁.heap = h0 := by rw [← hh, Bd.state]; rfl
  have N0 := Fr.nil n0
  have pre0 : ∀ t, Steps p.tables e below (s₁.setTop (mkF m 0 #[.val (.ref p1), .val (.int (5 : Int32)), .val (.int p3), .val (.int p4), .val (.long p5), .second, .unset] [])) t → Steps p.tables e below (s₁.setTop (entryFrame m #[(.ref p1), (.int (5 : Int32)), (.int p3), (.int p4), (.long p5)] 7)) t := fun t k => castTop (own_efat5 m p1 p3 p4 p5) k
  have k1 : ∀ t, Steps p.tables e below (s₁.setTop (mkF m 52 #[.val (.ref p1), .val (.int (5 : Int32)), .val (.int p3), .val (.int p4), .val (.long p5), .second, .val (.int (own_ex5 p3 p4 p5))] [])) t → Steps p.tables e below (s₁.setTop (entryFrame m #[(.ref p1), (.int (5 : Int32)), (.int p3), (.int p4), (.long p5)] 7)) t := by
    intro t k
    refine pre0 t ?_
    show Steps p.tables e below (s₁.setTop (mkF m 0 #[.val (.ref p1), .val (.int (5 : Int32)), .val (.int p3), .val (.int p4), .val (.long p5), .second, .unset] [])) _
    refine XS.iloadN X0.here hx rfl (hb hby own_d11_0) rfl ?_
    show Steps p.tables e below (s₁.setTop (mkF m 1 #[.val (.ref p1), .val (.int (5 : Int32)), .val (.int p3), .val (.int p4), .val (.long p5), .second, .unset] [(.int (5 : Int32))])) _
    refine XS.iloadN X0.here hx rfl (hb hby own_d11_1) rfl ?_
    by_cases hc2_2 : (5 : Int32) = p3
    · show Steps p.tables e below (s₁.setTop (mkF m 2 #[.val (.ref p1), .val (.int (5 : Int32)), .val (.int p3), .val (.int p4), .val (.long p5), .second, .unset] [(.int p3), (.int (5 : Int32))])) _
      refine XS.icmpNo X0.here hx rfl (hb hby own_d11_2) rfl (teq hc2_2).2 ?_
      show Steps p.tables e below (s₁.setTop (mkF m 5 #[.val (.ref p1), .val (.int (5 : Int32)), .val (.int p3), .val (.int p4), .val (.long p5), .second, .unset] [])) _
      refine XS.iloadN X0.here hx rfl (hb hby own_d11_5) rfl ?_
      show Steps p.tables e below (s₁.setTop (mkF m 6 #[.val (.ref p1), .val (.int (5 : Int32)), .val (.int p3), .val (.int p4), .val (.long p5), .second, .unset] [(.int p4)])) _
      refine XS.bipush X0.here hx rfl (hb hby own_d11_6) ?_
      show Steps p.tables e below (s₁.setTop (mkF m 8 #[.val (.ref p1), .val (.int (5 : Int32)), .val (.int p3), .val (.int p4), .val (.long p5), .second, .unset] [(.int (8 : Int32)), (.int p4)])) _
      refine XS.ishr X0.here hx rfl (hb hby own_d11_8) rfl ?_
      show Steps p.tables e below (s₁.setTop (mkF m 9 #[.val (.ref p1), .val (.int (5 : Int32)), .val (.int p3), .val (.int p4), .val (.long p5), .second, .unset] [(.int (p4 >>> ((8 : Int32) &&& 31)))])) _
      refine XS.sipush X0.here hx rfl (hb hby own_d11_9) ?_
      show Steps p.tables e below (s₁.setTop (mkF m 12 #[.val (.ref p1), .val (.int (5 : Int32)), .val (.int p3), .val (.int p4), .val (.long p5), .second, .unset] [(.int (255 : Int32)), (.int (p4 >>> ((8 : Int32) &&& 31)))])) _
      refine XS.iand X0.here hx rfl (hb hby own_d11_12) rfl ?_
      show Steps p.tables e below (s₁.setTop (mkF m 13 #[.val (.ref p1), .val (.int (5 : Int32)), .val (.int p3), .val (.int p4), .val (.long p5), .second, .unset] [(.int ((p4 >>> ((8 : Int32) &&& 31)) &&& (255 : Int32)))])) _
      refine XS.istore X0.here hx rfl (hb hby own_d11_13) rfl (l' := #[.val (.ref p1), .val (.int (5 : Int32)), .val (.int p3), .val (.int p4), .val (.long p5), .second, .val (.int ((p4 >>> ((8 : Int32) &&& 31)) &&& (255 : Int32)))]) rfl ?_
      show Steps p.tables e below (s₁.setTop (mkF m 15 #[.val (.ref p1), .val (.int (5 : Int32)), .val (.int p3), .val (.int p4), .val (.long p5), .second, .val (.int ((p4 >>> ((8 : Int32) &&& 31)) &&& (255 : Int32)))] [])) _
      refine XS.goto X0.here hx rfl (pc0 := 15) (pc' := 52) rfl (hb hby own_d11_15) (by decide) (by decide) ?_
      have q0 : (own_ex5 p3 p4 p5) = ((p4 >>> ((8 : Int32) &&& 31)) &&& (255 : Int32)) := (if_pos hc2_2)
      rw [q0] at k
      exact k
    · show Steps p.tables e below (s₁.setTop (mkF m 2 #[.val (.ref p1), .val (.int (5 : Int32)), .val (.int p3), .val (.int p4), .val (.long p5), .second, .unset] [(.int p3), (.int (5 : Int32))])) _
      refine XS.icmpYes X0.here hx rfl (pc0 := 2) (pc' := 18) rfl (hb hby own_d11_2) rfl (feq hc2_2).2 (by decide) (by decide) ?_
      show Steps p.tables e below (s₁.setTop (mkF m 18 #[.val (.ref p1), .val (.int (5 : Int32)), .val (.int p3), .val (.int p4), .val (.long p5), .second, .unset] [])) _
      refine XS.iloadN X0.here hx rfl (hb hby own_d11_18) rfl ?_
      show Steps p.tables e below (s₁.setTop (mkF m 19 #[.val (.ref p1), .val (.int (5 : Int32)), .val (.int p3), .val (.int p4), .val (.long p5), .second, .unset] [(.int (5 : Int32))])) _
      refine XS.iloadN X0.here hx rfl (hb hby own_d11_19) rfl ?_
      show Steps p.tables e below (s₁.setTop (mkF m 20 #[.val (.ref p1), .val (.int (5 : Int32)), .val (.int p3), .val (.int p4), .val (.long p5), .second, .unset] [(.int p3), (.int (5 : Int32))])) _
      refine XS.iconst X0.here hx rfl (hb hby own_d11_20) ?_
      show Steps p.tables e below (s₁.setTop (mkF m 21 #[.val (.ref p1), .val (.int (5 : Int32)), .val (.int p3), .val (.int p4), .val (.long p5), .second, .unset] [(.int (1 : Int32)), (.int p3), (.int (5 : Int32))])) _
      refine XS.iadd X0.here hx rfl (hb hby own_d11_21) rfl ?_
      by_cases hc22_3 : (5 : Int32) = (p3 + (1 : Int32))
      · show Steps p.tables e below (s₁.setTop (mkF m 22 #[.val (.ref p1), .val (.int (5 : Int32)), .val (.int p3), .val (.int p4), .val (.long p5), .second, .unset] [(.int (p3 + (1 : Int32))), (.int (5 : Int32))])) _
        refine XS.icmpNo X0.here hx rfl (hb hby own_d11_22) rfl (teq hc22_3).2 ?_
        show Steps p.tables e below (s₁.setTop (mkF m 25 #[.val (.ref p1), .val (.int (5 : Int32)), .val (.int p3), .val (.int p4), .val (.long p5), .second, .unset] [])) _
        refine XS.iloadN X0.here hx rfl (hb hby own_d11_25) rfl ?_
        show Steps p.tables e below (s₁.setTop (mkF m 26 #[.val (.ref p1), .val (.int (5 : Int32)), .val (.int p3), .val (.int p4), .val (.long p5), .second, .unset] [(.int p4)])) _
        refine XS.sipush X0.here hx rfl (hb hby own_d11_26) ?_
        show Steps p.tables e below (s₁.setTop (mkF m 29 #[.val (.ref p1), .val (.int (5 : Int32)), .val (.int p3), .val (.int p4), .val (.long p5), .second, .unset] [(.int (255 : Int32)), (.int p4)])) _
        refine XS.iand X0.here hx rfl (hb hby own_d11_29) rfl ?_
        show Steps p.tables e below (s₁.setTop (mkF m 30 #[.val (.ref p1), .val (.int (5 : Int32)), .val (.int p3), .val (.int p4), .val (.long p5), .second, .unset] [(.int (p4 &&& (255 : Int32)))])) _
        refine XS.istore X0.here hx rfl (hb hby own_d11_30) rfl (l' := #[.val (.ref p1), .val (.int (5 : Int32)), .val (.int p3), .val (.int p4), .val (.long p5), .second, .val (.int (p4 &&& (255 : Int32)))]) rfl ?_
        show Steps p.tables e below (s₁.setTop (mkF m 32 #[.val (.ref p1), .val (.int (5 : Int32)), .val (.int p3), .val (.int p4), .val (.long p5), .second, .val (.int (p4 &&& (255 : Int32)))] [])) _
        refine XS.goto X0.here hx rfl (pc0 := 32) (pc' := 52) rfl (hb hby own_d11_32) (by decide) (by decide) ?_
        have q0 : (own_ex5 p3 p4 p5) = (p4 &&& (255 : Int32)) := ((if_neg hc2_2).trans (if_pos hc22_3))
        rw [q0] at k
        exact k
      · show Steps p.tables e below (s₁.setTop (mkF m 22 #[.val (.ref p1), .val (.int (5 : Int32)), .val (.int p3), .val (.int p4), .val (.long p5), .second, .unset] [(.int (p3 + (1 : Int32))), (.int (5 : Int32))])) _
        refine XS.icmpYes X0.here hx rfl (pc0 := 22) (pc' := 35) rfl (hb hby own_d11_22) rfl (feq hc22_3).2 (by decide) (by decide) ?_
        show Steps p.tables e below (s₁.setTop (mkF m 35 #[.val (.ref p1), .val (.int (5 : Int32)), .val (.int p3), .val (.int p4), .val (.long p5), .second, .unset] [])) _
        refine XS.lload X0.here hx rfl (hb hby own_d11_35) rfl ?_
        show Steps p.tables e below (s₁.setTop (mkF m 37 #[.val (.ref p1), .val (.int (5 : Int32)), .val (.int p3), .val (.int p4), .val (.long p5), .second, .unset] [(.long p5)])) _
        refine XS.bipush X0.here hx rfl (hb hby own_d11_37) ?_
        show Steps p.tables e below (s₁.setTop (mkF m 39 #[.val (.ref p1), .val (.int (5 : Int32)), .val (.int p3), .val (.int p4), .val (.long p5), .second, .unset] [(.int (56 : Int32)), (.long p5)])) _
        refine XS.bipush X0.here hx rfl (hb hby own_d11_39) ?_
        show Steps p.tables e below (s₁.setTop (mkF m 41 #[.val (.ref p1), .val (.int (5 : Int32)), .val (.int p3), .val (.int p4), .val (.long p5), .second, .unset] [(.int (8 : Int32)), (.int (56 : Int32)), (.long p5)])) _
        refine XS.iloadN X0.here hx rfl (hb hby own_d11_41) rfl ?_
        show Steps p.tables e below (s₁.setTop (mkF m 42 #[.val (.ref p1), .val (.int (5 : Int32)), .val (.int p3), .val (.int p4), .val (.long p5), .second, .unset] [(.int (5 : Int32)), (.int (8 : Int32)), (.int (56 : Int32)), (.long p5)])) _
        refine XS.imul X0.here hx rfl (hb hby own_d11_42) rfl ?_
        show Steps p.tables e below (s₁.setTop (mkF m 43 #[.val (.ref p1), .val (.int (5 : Int32)), .val (.int p3), .val (.int p4), .val (.long p5), .second, .unset] [(.int (40 : Int32)), (.int (56 : Int32)), (.long p5)])) _
        refine XS.isub X0.here hx rfl (hb hby own_d11_43) rfl ?_
        show Steps p.tables e below (s₁.setTop (mkF m 44 #[.val (.ref p1), .val (.int (5 : Int32)), .val (.int p3), .val (.int p4), .val (.long p5), .second, .unset] [(.int (16 : Int32)), (.long p5)])) _
        refine XS.lushr X0.here hx rfl (hb hby own_d11_44) rfl ?_
        show Steps p.tables e below (s₁.setTop (mkF m 45 #[.val (.ref p1), .val (.int (5 : Int32)), .val (.int p3), .val (.int p4), .val (.long p5), .second, .unset] [(.long ((p5.toUInt64 >>> ((16 : Int32) &&& 0x3f).toInt64.toUInt64).toInt64))])) _
        refine X0.ldc2Long hx hown (mvT hZ (hw _ (List.mem_of_getElem? (i := 60) rfl))) (g := (mkF m 45 #[.val (.ref p1), .val (.int (5 : Int32)), .val (.int p3), .val (.int p4), .val (.long p5), .second, .unset] [(.long ((p5.toUInt64 >>> ((16 : Int32) &&& 0x3f).toInt64.toUInt64).toInt64))])) rfl (hb hby own_d11_45) _ ?_
        show Steps p.tables e below (s₁.setTop (mkF m 48 #[.val (.ref p1), .val (.int (5 : Int32)), .val (.int p3), .val (.int p4), .val (.long p5), .second, .unset] [(.long (255 : Int64)), (.long ((p5.toUInt64 >>> ((16 : Int32) &&& 0x3f).toInt64.toUInt64).toInt64))])) _
        refine XS.land X0.here hx rfl (hb hby own_d11_48) rfl ?_
        show Steps p.tables e below (s₁.setTop (mkF m 49 #[.val (.ref p1), .val (.int (5 : Int32)), .val (.int p3), .val (.int p4), .val (.long p5), .second, .unset] [(.long (((p5.toUInt64 >>> ((16 : Int32) &&& 0x3f).toInt64.toUInt64).toInt64) &&& (255 : Int64)))])) _
        refine XS.l2i X0.here hx rfl (hb hby own_d11_49) rfl ?_
        show Steps p.tables e below (s₁.setTop (mkF m 50 #[.val (.ref p1), .val (.int (5 : Int32)), .val (.int p3), .val (.int p4), .val (.long p5), .second, .unset] [(.int ((((p5.toUInt64 >>> ((16 : Int32) &&& 0x3f).toInt64.toUInt64).toInt64) &&& (255 : Int64)).toInt32))])) _
        refine XS.istore X0.here hx rfl (hb hby own_d11_50) rfl (l' := #[.val (.ref p1), .val (.int (5 : Int32)), .val (.int p3), .val (.int p4), .val (.long p5), .second, .val (.int ((((p5.toUInt64 >>> ((16 : Int32) &&& 0x3f).toInt64.toUInt64).toInt64) &&& (255 : Int64)).toInt32))]) rfl ?_
        have q0 : (own_ex5 p3 p4 p5) = ((((p5.toUInt64 >>> ((16 : Int32) &&& 0x3f).toInt64.toUInt64).toInt64) &&& (255 : Int64)).toInt32) := ((if_neg hc2_2).trans (if_neg hc22_3))
        rw [q0] at k
        exact k
  obtain ⟨cl4, Ar4, qa4, Sa4, Na4, Ha4, Ga4⟩ := id V0
  have hin5 : ¬ ((5 : Int32) < 0 ∨ cl4.slots.size ≤ ((5 : Int32)).toNatClampNeg) := inb_of Sa4 ⟨by decide, by decide⟩
  have hat6 : cl4.slots[((5 : Int32)).toNatClampNeg]? = some (.int v5) := Ha4 5 (Nat.lt_of_not_le fun q => hin5 (Or.inr q))
  have k7 : ∀ t, Steps p.tables e below (s₁.setTop (mkF m 61 #[.val (.ref p1), .val (.int (5 : Int32)), .val (.int p3), .val (.int p4), .val (.long p5), .second, .val (.int (own_ex5 p3 p4 p5))] [(.int (own_ex5 p3 p4 p5)), (.int (v5 &&& (255 : Int32)))])) t → Steps p.tables e below (s₁.setTop (entryFrame m #[(.ref p1), (.int (5 : Int32)), (.int p3), (.int p4), (.long p5)] 7)) t := by
    intro t k
    refine k1 t ?_
    show Steps p.tables e below (s₁.setTop (mkF m 52 #[.val (.ref p1), .val (.int (5 : Int32)), .val (.int p3), .val (.int p4), .val (.long p5), .second, .val (.int (own_ex5 p3 p4 p5))] [])) _
    refine XS.aloadN X0.here hx rfl (hb hby own_d11_52) rfl rfl ?_
    show Steps p.tables e below (s₁.setTop (mkF m 53 #[.val (.ref p1), .val (.int (5 : Int32)), .val (.int p3), .val (.int p4), .val (.long p5), .second, .val (.int (own_ex5 p3 p4 p5))] [(.ref p1)])) _
    refine XS.iloadN X0.here hx rfl (hb hby own_d11_53) rfl ?_
    show Steps p.tables e below (s₁.setTop (mkF m 54 #[.val (.ref p1), .val (.int (5 : Int32)), .val (.int p3), .val (.int p4), .val (.long p5), .second, .val (.int (own_ex5 p3 p4 p5))] [(.int (5 : Int32)), (.ref p1)])) _
    refine X0.baloadBytes hx (j := (5 : Int32)) (v := (.int v5)) (by rw [e0]; exact Ar4.1) (State.isArrayOf_alike hZ.alike Ar4.2.1) Ar4.2.2 hin5 hat6 (g := (mkF m 54 #[.val (.ref p1), .val (.int (5 : Int32)), .val (.int p3), .val (.int p4), .val (.long p5), .second, .val (.int (own_ex5 p3 p4 p5))] [(.int (5 : Int32)), (.ref p1)])) rfl rfl (hb hby own_d11_54) _ ?_
    show Steps p.tables e below (s₁.setTop (mkF m 55 #[.val (.ref p1), .val (.int (5 : Int32)), .val (.int p3), .val (.int p4), .val (.long p5), .second, .val (.int (own_ex5 p3 p4 p5))] [(.int v5)])) _
    refine XS.sipush X0.here hx rfl (hb hby own_d11_55) ?_
    show Steps p.tables e below (s₁.setTop (mkF m 58 #[.val (.ref p1), .val (.int (5 : Int32)), .val (.int p3), .val (.int p4), .val (.long p5), .second, .val (.int (own_ex5 p3 p4 p5))] [(.int (255 : Int32)), (.int v5)])) _
    refine XS.iand X0.here hx rfl (hb hby own_d11_58) rfl ?_
    show Steps p.tables e below (s₁.setTop (mkF m 59 #[.val (.ref p1), .val (.int (5 : Int32)), .val (.int p3), .val (.int p4), .val (.long p5), .second, .val (.int (own_ex5 p3 p4 p5))] [(.int (v5 &&& (255 : Int32)))])) _
    refine XS.iload X0.here hx rfl (hb hby own_d11_59) rfl ?_
    exact k
  by_cases hc61_8 : (v5 &&& (255 : Int32)) = (own_ex5 p3 p4 p5)
  · have k9 : ∀ t, Steps p.tables e below (s₁.setTop (mkF m 69 #[.val (.ref p1), .val (.int (5 : Int32)), .val (.int p3), .val (.int p4), .val (.long p5), .second, .val (.int (own_ex5 p3 p4 p5))] [(.int (1 : Int32))])) t → Steps p.tables e below (s₁.setTop (entryFrame m #[(.ref p1), (.int (5 : Int32)), (.int p3), (.int p4), (.long p5)] 7)) t := by
      intro t k
      refine k7 t ?_
      show Steps p.tables e below (s₁.setTop (mkF m 61 #[.val (.ref p1), .val (.int (5 : Int32)), .val (.int p3), .val (.int p4), .val (.long p5), .second, .val (.int (own_ex5 p3 p4 p5))] [(.int (own_ex5 p3 p4 p5)), (.int (v5 &&& (255 : Int32)))])) _
      refine XS.icmpNo X0.here hx rfl (hb hby own_d11_61) rfl (teq hc61_8).2 ?_
      show Steps p.tables e below (s₁.setTop (mkF m 64 #[.val (.ref p1), .val (.int (5 : Int32)), .val (.int p3), .val (.int p4), .val (.long p5), .second, .val (.int (own_ex5 p3 p4 p5))] [])) _
      refine XS.iconst X0.here hx rfl (hb hby own_d11_64) ?_
      show Steps p.tables e below (s₁.setTop (mkF m 65 #[.val (.ref p1), .val (.int (5 : Int32)), .val (.int p3), .val (.int p4), .val (.long p5), .second, .val (.int (own_ex5 p3 p4 p5))] [(.int (1 : Int32))])) _
      refine XS.goto X0.here hx rfl (pc0 := 65) (pc' := 69) rfl (hb hby own_d11_65) (by decide) (by decide) ?_
      exact k
    obtain ⟨fs, hr, hrun, hended, hW, hsame⟩ := X0.leave (v := (some (.int (1 : Int32)))) (fun h => by rw [Bd.returns] at h; cases h)
    refine ⟨_, _, k9 _ ?_, hrun, hended, _, _, rfl, ?_, ⟨_, rfl⟩, hW, hsame.mono (by decide) (by decide)⟩
    · exact retN X0 hx (t := .boolean) Bd.returns (by simp) (hb hby own_d11_69) hr
    · have hv : (own_vat5 p3 p4 p5 v5) = (1 : Int32) := (if_pos hc61_8)
      exact ⟨congrArg (fun z => some (Value.int z)) hv.symm, N0, e0⟩
  · have k10 : ∀ t, Steps p.tables e below (s₁.setTop (mkF m 69 #[.val (.ref p1), .val (.int (5 : Int32)), .val (.int p3), .val (.int p4), .val (.long p5), .second, .val (.int (own_ex5 p3 p4 p5))] [(.int (0 : Int32))])) t → Steps p.tables e below (s₁.setTop (entryFrame m #[(.ref p1), (.int (5 : Int32)), (.int p3), (.int p4), (.long p5)] 7)) t := by
      intro t k
      refine k7 t ?_
      show Steps p.tables e below (s₁.setTop (mkF m 61 #[.val (.ref p1), .val (.int (5 : Int32)), .val (.int p3), .val (.int p4), .val (.long p5), .second, .val (.int (own_ex5 p3 p4 p5))] [(.int (own_ex5 p3 p4 p5)), (.int (v5 &&& (255 : Int32)))])) _
      refine XS.icmpYes X0.here hx rfl (pc0 := 61) (pc' := 68) rfl (hb hby own_d11_61) rfl (feq hc61_8).2 (by decide) (by decide) ?_
      show Steps p.tables e below (s₁.setTop (mkF m 68 #[.val (.ref p1), .val (.int (5 : Int32)), .val (.int p3), .val (.int p4), .val (.long p5), .second, .val (.int (own_ex5 p3 p4 p5))] [])) _
      refine XS.iconst X0.here hx rfl (hb hby own_d11_68) ?_
      exact k
    obtain ⟨fs, hr, hrun, hended, hW, hsame⟩ := X0.leave (v := (some (.int (0 : Int32)))) (fun h => by rw [Bd.returns] at h; cases h)
    refine ⟨_, _, k10 _ ?_, hrun, hended, _, _, rfl, ?_, ⟨_, rfl⟩, hW, hsame.mono (by decide) (by decide)⟩
    · exact retN X0 hx (t := .boolean) Bd.returns (by simp) (hb hby own_d11_69) hr
    · have hv : (own_vat5 p3 p4 p5 v5) = (0 : Int32) := (if_neg hc61_8)
      exact ⟨congrArg (fun z => some (Value.int z)) hv.symm, N0, e0⟩
def own_ex6 (p3 : Int32) (p4 : Int32) (p5 : Int64) : Int32 := if (6 : Int32) = p3 then ((p4 >>> ((8 : Int32) &&& 31)) &&& (255 : Int32)) else if (6 : Int32) = (p3 + (1 : Int32)) then (p4 &&& (255 : Int32)) else ((((p5.toUInt64 >>> ((8 : Int32) &&& 0x3f).toInt64.toUInt64).toInt64) &&& (255 : Int64)).toInt32)
def own_vat6 (p3 : Int32) (p4 : Int32) (p5 : Int64) (v6 : Int32) : Int32 :=
  if (v6 &&& (255 : Int32)) = (own_ex6 p3 p4 p5) then (1 : Int32) else
  (0 : Int32)
theorem own_efat6 (m : MethodId) (x0 : Addr) (x2 : Int32) (x3 : Int32) (x4 : Int64) : entryFrame m #[(.ref x0), (.int (6 : Int32)), (.int x2), (.int x3), (.long x4)] 7 = mkF m 0 #[.val (.ref x0), .val (.int (6 : Int32)), .val (.int x2), .val (.int x3), .val (.long x4), .second, .unset] [] := by first | (simp [entryFrame, mkF, argsToLocals, Value.category]; done) | rfl
def own_Qat6 (Z : State) (p1 : Addr) (p3 : Int32) (p4 : Int32) (p5 : Int64) (cc : ClassId) (v0 : Int32) (v1 : Int32) (v2 : Int32) (v3 : Int32) (v4 : Int32) (v5 : Int32) (v6 : Int32) (v7 : Int32) (h0 : Heap) (n0 : Nat) (v : Option Value) (h : Heap) (L : List Loc) : Prop := v = some (.int (own_vat6 p3 p4 p5 v6)) ∧ Fr n0 L ∧ h = h0
set_option maxRecDepth 65536 in
set_option maxHeartbeats 40000000 in
theorem own_rmat6 (l : Launch) (Z : State) (a0 : Array Value) (hw : ∀ d ∈ tables_1, d.before a0 Z = true) (ws : List Jvm.Cond) (p1 : Addr) (p3 : Int32) (p4 : Int32) (p5 : Int64) (cc : ClassId) (v0 : Int32) (v1 : Int32) (v2 : Int32) (v3 : Int32) (v4 : Int32) (v5 : Int32) (v6 : Int32) (v7 : Int32) (h0 : Heap) (n0 : Nat) (Z0 : n0 ≤ h0.size) (V0 : Arv Z h0 p1 cc .byte (8 : Int32) [(.int v0), (.int v1), (.int v2), (.int v3), (.int v4), (.int v5), (.int v6), (.int v7)] (.int (0 : Int32))) :
    MetFree l (⟨"com/example/reckoner/reckoner/BytesSetU2PinLaw", "at", "([BIIIJ)Z"⟩ : MethodName) (head1 (Jvm.Cond.code (⟨"com/example/reckoner/reckoner/BytesSetU2PinLaw", "at", "([BIIIJ)Z"⟩ : MethodName) method_3_code 7 (some .boolean) :: ws) ({ frames := 0, cells := 0, slots := 0, locals := 0 } : Room)) (fun aa U => aa = #[(.ref p1), (.int (6 : Int32)), (.int p3), (.int p4), (.long p5)] ∧ Z.Warmed39 U.vm ∧ U.heap = h0) (fun _ _ _ _ _ => True) (fun _ U o U' => ∃ v L, o = .returned v ∧ own_Qat6 Z p1 p3 p4 p5 cc v0 v1 v2 v3 v4 v5 v6 v7 h0 n0 v U'.heap L ∧ FrameEnd U o U' L ({ frames := 0, cells := 0, slots := 0, locals := 0 } : Room).cells ({ frames := 0, cells := 0, slots := 0, locals := 0 } : Room).slots) := by
  refine MetFree.of_bodySF (plainFor_of_name own_pn2) hisR ?_
  intro p e s m args below meth c s₁ Bd hml0 hP hK
  obtain ⟨rfl, hZ, hh⟩ := hP
  have hx := Bd.exec
  have hby := Bd.bytes
  have hml : c.maxLocals = 7 := hml0
  have hown : s.vm.findClass "com/example/reckoner/reckoner/BytesSetU2PinLaw" = some m.cls := findClass_of_methodNamed Bd.named
  have hnm := (name_of_methodNamed Bd.named Bd.method).1
  have X0 : Stand p l e ({ frames := 0, cells := 0, slots := 0, locals := 0 } : Room) s m #[(.ref p1), (.int (6 : Int32)), (.int p3), (.int p4), (.long p5)] below meth c s₁ [] 0 0 := Stand.of_body Bd
  have e0 : s₁.heap = h0 := by rw [← hh, Bd.state]; rfl
  have N0 := Fr.nil n0
  have pre0 : ∀ t, Steps p.tables e below (s₁.setTop (mkF m 0 #[.val (.ref p1), .val (.int (6 : Int32)), .val (.int p3), .val (.int p4), .val (.long p5), .second, .unset] [])) t → Steps p.tables e below (s₁.setTop (entryFrame m #[(.ref p1), (.int (6 : Int32)), (.int p3), (.int p4), (.long p5)] 7)) t := fun t k => castTop (own_efat6 m p1 p3 p4 p5) k
  have k1 : ∀ t, Steps p.tables e below (s₁.setTop (mkF m 52 #[.val (.ref p1), .val (.int (6 : Int32)), .val (.int p3), .val (.int p4), .val (.long p5), .second, .val (.int (own_ex6 p3 p4 p5))] [])) t → Steps p.tables e below (s₁.setTop (entryFrame m #[(.ref p1), (.int (6 : Int32)), (.int p3), (.int p4), (.long p5)] 7)) t := by
    intro t k
    refine pre0 t ?_
    show Steps p.tables e below (s₁.setTop (mkF m 0 #[.val (.ref p1), .val (.int (6 : Int32)), .val (.int p3), .val (.int p4), .val (.long p5), .second, .unset] [])) _
    refine XS.iloadN X0.here hx rfl (hb hby own_d11_0) rfl ?_
    show Steps p.tables e below (s₁.setTop (mkF m 1 #[.val (.ref p1), .val (.int (6 : Int32)), .val (.int p3), .val (.int p4), .val (.long p5), .second, .unset] [(.int (6 : Int32))])) _
    refine XS.iloadN X0.here hx rfl (hb hby own_d11_1) rfl ?_
    by_cases hc2_2 : (6 : Int32) = p3
    · show Steps p.tables e below (s₁.setTop (mkF m 2 #[.val (.ref p1), .val (.int (6 : Int32)), .val (.int p3), .val (.int p4), .val (.long p5), .second, .unset] [(.int p3), (.int (6 : Int32))])) _
      refine XS.icmpNo X0.here hx rfl (hb hby own_d11_2) rfl (teq hc2_2).2 ?_
      show Steps p.tables e below (s₁.setTop (mkF m 5 #[.val (.ref p1), .val (.int (6 : Int32)), .val (.int p3), .val (.int p4), .val (.long p5), .second, .unset] [])) _
      refine XS.iloadN X0.here hx rfl (hb hby own_d11_5) rfl ?_
      show Steps p.tables e below (s₁.setTop (mkF m 6 #[.val (.ref p1), .val (.int (6 : Int32)), .val (.int p3), .val (.int p4), .val (.long p5), .second, .unset] [(.int p4)])) _
      refine XS.bipush X0.here hx rfl (hb hby own_d11_6) ?_
      show Steps p.tables e below (s₁.setTop (mkF m 8 #[.val (.ref p1), .val (.int (6 : Int32)), .val (.int p3), .val (.int p4), .val (.long p5), .second, .unset] [(.int (8 : Int32)), (.int p4)])) _
      refine XS.ishr X0.here hx rfl (hb hby own_d11_8) rfl ?_
      show Steps p.tables e below (s₁.setTop (mkF m 9 #[.val (.ref p1), .val (.int (6 : Int32)), .val (.int p3), .val (.int p4), .val (.long p5), .second, .unset] [(.int (p4 >>> ((8 : Int32) &&& 31)))])) _
      refine XS.sipush X0.here hx rfl (hb hby own_d11_9) ?_
      show Steps p.tables e below (s₁.setTop (mkF m 12 #[.val (.ref p1), .val (.int (6 : Int32)), .val (.int p3), .val (.int p4), .val (.long p5), .second, .unset] [(.int (255 : Int32)), (.int (p4 >>> ((8 : Int32) &&& 31)))])) _
      refine XS.iand X0.here hx rfl (hb hby own_d11_12) rfl ?_
      show Steps p.tables e below (s₁.setTop (mkF m 13 #[.val (.ref p1), .val (.int (6 : Int32)), .val (.int p3), .val (.int p4), .val (.long p5), .second, .unset] [(.int ((p4 >>> ((8 : Int32) &&& 31)) &&& (255 : Int32)))])) _
      refine XS.istore X0.here hx rfl (hb hby own_d11_13) rfl (l' := #[.val (.ref p1), .val (.int (6 : Int32)), .val (.int p3), .val (.int p4), .val (.long p5), .second, .val (.int ((p4 >>> ((8 : Int32) &&& 31)) &&& (255 : Int32)))]) rfl ?_
      show Steps p.tables e below (s₁.setTop (mkF m 15 #[.val (.ref p1), .val (.int (6 : Int32)), .val (.int p3), .val (.int p4), .val (.long p5), .second, .val (.int ((p4 >>> ((8 : Int32) &&& 31)) &&& (255 : Int32)))] [])) _
      refine XS.goto X0.here hx rfl (pc0 := 15) (pc' := 52) rfl (hb hby own_d11_15) (by decide) (by decide) ?_
      have q0 : (own_ex6 p3 p4 p5) = ((p4 >>> ((8 : Int32) &&& 31)) &&& (255 : Int32)) := (if_pos hc2_2)
      rw [q0] at k
      exact k
    · show Steps p.tables e below (s₁.setTop (mkF m 2 #[.val (.ref p1), .val (.int (6 : Int32)), .val (.int p3), .val (.int p4), .val (.long p5), .second, .unset] [(.int p3), (.int (6 : Int32))])) _
      refine XS.icmpYes X0.here hx rfl (pc0 := 2) (pc' := 18) rfl (hb hby own_d11_2) rfl (feq hc2_2).2 (by decide) (by decide) ?_
      show Steps p.tables e below (s₁.setTop (mkF m 18 #[.val (.ref p1), .val (.int (6 : Int32)), .val (.int p3), .val (.int p4), .val (.long p5), .second, .unset] [])) _
      refine XS.iloadN X0.here hx rfl (hb hby own_d11_18) rfl ?_
      show Steps p.tables e below (s₁.setTop (mkF m 19 #[.val (.ref p1), .val (.int (6 : Int32)), .val (.int p3), .val (.int p4), .val (.long p5), .second, .unset] [(.int (6 : Int32))])) _
      refine XS.iloadN X0.here hx rfl (hb hby own_d11_19) rfl ?_
      show Steps p.tables e below (s₁.setTop (mkF m 20 #[.val (.ref p1), .val (.int (6 : Int32)), .val (.int p3), .val (.int p4), .val (.long p5), .second, .unset] [(.int p3), (.int (6 : Int32))])) _
      refine XS.iconst X0.here hx rfl (hb hby own_d11_20) ?_
      show Steps p.tables e below (s₁.setTop (mkF m 21 #[.val (.ref p1), .val (.int (6 : Int32)), .val (.int p3), .val (.int p4), .val (.long p5), .second, .unset] [(.int (1 : Int32)), (.int p3), (.int (6 : Int32))])) _
      refine XS.iadd X0.here hx rfl (hb hby own_d11_21) rfl ?_
      by_cases hc22_3 : (6 : Int32) = (p3 + (1 : Int32))
      · show Steps p.tables e below (s₁.setTop (mkF m 22 #[.val (.ref p1), .val (.int (6 : Int32)), .val (.int p3), .val (.int p4), .val (.long p5), .second, .unset] [(.int (p3 + (1 : Int32))), (.int (6 : Int32))])) _
        refine XS.icmpNo X0.here hx rfl (hb hby own_d11_22) rfl (teq hc22_3).2 ?_
        show Steps p.tables e below (s₁.setTop (mkF m 25 #[.val (.ref p1), .val (.int (6 : Int32)), .val (.int p3), .val (.int p4), .val (.long p5), .second, .unset] [])) _
        refine XS.iloadN X0.here hx rfl (hb hby own_d11_25) rfl ?_
        show Steps p.tables e below (s₁.setTop (mkF m 26 #[.val (.ref p1), .val (.int (6 : Int32)), .val (.int p3), .val (.int p4), .val (.long p5), .second, .unset] [(.int p4)])) _
        refine XS.sipush X0.here hx rfl (hb hby own_d11_26) ?_
        show Steps p.tables e below (s₁.setTop (mkF m 29 #[.val (.ref p1), .val (.int (6 : Int32)), .val (.int p3), .val (.int p4), .val (.long p5), .second, .unset] [(.int (255 : Int32)), (.int p4)])) _
        refine XS.iand X0.here hx rfl (hb hby own_d11_29) rfl ?_
        show Steps p.tables e below (s₁.setTop (mkF m 30 #[.val (.ref p1), .val (.int (6 : Int32)), .val (.int p3), .val (.int p4), .val (.long p5), .second, .unset] [(.int (p4 &&& (255 : Int32)))])) _
        refine XS.istore X0.here hx rfl (hb hby own_d11_30) rfl (l' := #[.val (.ref p1), .val (.int (6 : Int32)), .val (.int p3), .val (.int p4), .val (.long p5), .second, .val (.int (p4 &&& (255 : Int32)))]) rfl ?_
        show Steps p.tables e below (s₁.setTop (mkF m 32 #[.val (.ref p1), .val (.int (6 : Int32)), .val (.int p3), .val (.int p4), .val (.long p5), .second, .val (.int (p4 &&& (255 : Int32)))] [])) _
        refine XS.goto X0.here hx rfl (pc0 := 32) (pc' := 52) rfl (hb hby own_d11_32) (by decide) (by decide) ?_
        have q0 : (own_ex6 p3 p4 p5) = (p4 &&& (255 : Int32)) := ((if_neg hc2_2).trans (if_pos hc22_3))
        rw [q0] at k
        exact k
      · show Steps p.tables e below (s₁.setTop (mkF m 22 #[.val (.ref p1), .val (.int (6 : Int32)), .val (.int p3), .val (.int p4), .val (.long p5), .second, .unset] [(.int (p3 + (1 : Int32))), (.int (6 : Int32))])) _
        refine XS.icmpYes X0.here hx rfl (pc0 := 22) (pc' := 35) rfl (hb hby own_d11_22) rfl (feq hc22_3).2 (by decide) (by decide) ?_
        show Steps p.tables e below (s₁.setTop (mkF m 35 #[.val (.ref p1), .val (.int (6 : Int32)), .val (.int p3), .val (.int p4), .val (.long p5), .second, .unset] [])) _
        refine XS.lload X0.here hx rfl (hb hby own_d11_35) rfl ?_
        show Steps p.tables e below (s₁.setTop (mkF m 37 #[.val (.ref p1), .val (.int (6 : Int32)), .val (.int p3), .val (.int p4), .val (.long p5), .second, .unset] [(.long p5)])) _
        refine XS.bipush X0.here hx rfl (hb hby own_d11_37) ?_
        show Steps p.tables e below (s₁.setTop (mkF m 39 #[.val (.ref p1), .val (.int (6 : Int32)), .val (.int p3), .val (.int p4), .val (.long p5), .second, .unset] [(.int (56 : Int32)), (.long p5)])) _
        refine XS.bipush X0.here hx rfl (hb hby own_d11_39) ?_
        show Steps p.tables e below (s₁.setTop (mkF m 41 #[.val (.ref p1), .val (.int (6 : Int32)), .val (.int p3), .val (.int p4), .val (.long p5), .second, .unset] [(.int (8 : Int32)), (.int (56 : Int32)), (.long p5)])) _
        refine XS.iloadN X0.here hx rfl (hb hby own_d11_41) rfl ?_
        show Steps p.tables e below (s₁.setTop (mkF m 42 #[.val (.ref p1), .val (.int (6 : Int32)), .val (.int p3), .val (.int p4), .val (.long p5), .second, .unset] [(.int (6 : Int32)), (.int (8 : Int32)), (.int (56 : Int32)), (.long p5)])) _
        refine XS.imul X0.here hx rfl (hb hby own_d11_42) rfl ?_
        show Steps p.tables e below (s₁.setTop (mkF m 43 #[.val (.ref p1), .val (.int (6 : Int32)), .val (.int p3), .val (.int p4), .val (.long p5), .second, .unset] [(.int (48 : Int32)), (.int (56 : Int32)), (.long p5)])) _
        refine XS.isub X0.here hx rfl (hb hby own_d11_43) rfl ?_
        show Steps p.tables e below (s₁.setTop (mkF m 44 #[.val (.ref p1), .val (.int (6 : Int32)), .val (.int p3), .val (.int p4), .val (.long p5), .second, .unset] [(.int (8 : Int32)), (.long p5)])) _
        refine XS.lushr X0.here hx rfl (hb hby own_d11_44) rfl ?_
        show Steps p.tables e below (s₁.setTop (mkF m 45 #[.val (.ref p1), .val (.int (6 : Int32)), .val (.int p3), .val (.int p4), .val (.long p5), .second, .unset] [(.long ((p5.toUInt64 >>> ((8 : Int32) &&& 0x3f).toInt64.toUInt64).toInt64))])) _
        refine X0.ldc2Long hx hown (mvT hZ (hw _ (List.mem_of_getElem? (i := 60) rfl))) (g := (mkF m 45 #[.val (.ref p1), .val (.int (6 : Int32)), .val (.int p3), .val (.int p4), .val (.long p5), .second, .unset] [(.long ((p5.toUInt64 >>> ((8 : Int32) &&& 0x3f).toInt64.toUInt64).toInt64))])) rfl (hb hby own_d11_45) _ ?_
        show Steps p.tables e below (s₁.setTop (mkF m 48 #[.val (.ref p1), .val (.int (6 : Int32)), .val (.int p3), .val (.int p4), .val (.long p5), .second, .unset] [(.long (255 : Int64)), (.long ((p5.toUInt64 >>> ((8 : Int32) &&& 0x3f).toInt64.toUInt64).toInt64))])) _
        refine XS.land X0.here hx rfl (hb hby own_d11_48) rfl ?_
        show Steps p.tables e below (s₁.setTop (mkF m 49 #[.val (.ref p1), .val (.int (6 : Int32)), .val (.int p3), .val (.int p4), .val (.long p5), .second, .unset] [(.long (((p5.toUInt64 >>> ((8 : Int32) &&& 0x3f).toInt64.toUInt64).toInt64) &&& (255 : Int64)))])) _
        refine XS.l2i X0.here hx rfl (hb hby own_d11_49) rfl ?_
        show Steps p.tables e below (s₁.setTop (mkF m 50 #[.val (.ref p1), .val (.int (6 : Int32)), .val (.int p3), .val (.int p4), .val (.long p5), .second, .unset] [(.int ((((p5.toUInt64 >>> ((8 : Int32) &&& 0x3f).toInt64.toUInt64).toInt64) &&& (255 : Int64)).toInt32))])) _
        refine XS.istore X0.here hx rfl (hb hby own_d11_50) rfl (l' := #[.val (.ref p1), .val (.int (6 : Int32)), .val (.int p3), .val (.int p4), .val (.long p5), .second, .val (.int ((((p5.toUInt64 >>> ((8 : Int32) &&& 0x3f).toInt64.toUInt64).toInt64) &&& (255 : Int64)).toInt32))]) rfl ?_
        have q0 : (own_ex6 p3 p4 p5) = ((((p5.toUInt64 >>> ((8 : Int32) &&& 0x3f).toInt64.toUInt64).toInt64) &&& (255 : Int64)).toInt32) := ((if_neg hc2_2).trans (if_neg hc22_3))
        rw [q0] at k
        exact k
  obtain ⟨cl4, Ar4, qa4, Sa4, Na4, Ha4, Ga4⟩ := id V0
  have hin5 : ¬ ((6 : Int32) < 0 ∨ cl4.slots.size ≤ ((6 : Int32)).toNatClampNeg) := inb_of Sa4 ⟨by decide, by decide⟩
  have hat6 : cl4.slots[((6 : Int32)).toNatClampNeg]? = some (.int v6) := Ha4 6 (Nat.lt_of_not_le fun q => hin5 (Or.inr q))
  have k7 : ∀ t, Steps p.tables e below (s₁.setTop (mkF m 61 #[.val (.ref p1), .val (.int (6 : Int32)), .val (.int p3), .val (.int p4), .val (.long p5), .second, .val (.int (own_ex6 p3 p4 p5))] [(.int (own_ex6 p3 p4 p5)), (.int (v6 &&& (255 : Int32)))])) t → Steps p.tables e below (s₁.setTop (entryFrame m #[(.ref p1), (.int (6 : Int32)), (.int p3), (.int p4), (.long p5)] 7)) t := by
    intro t k
    refine k1 t ?_
    show Steps p.tables e below (s₁.setTop (mkF m 52 #[.val (.ref p1), .val (.int (6 : Int32)), .val (.int p3), .val (.int p4), .val (.long p5), .second, .val (.int (own_ex6 p3 p4 p5))] [])) _
    refine XS.aloadN X0.here hx rfl (hb hby own_d11_52) rfl rfl ?_
    show Steps p.tables e below (s₁.setTop (mkF m 53 #[.val (.ref p1), .val (.int (6 : Int32)), .val (.int p3), .val (.int p4), .val (.long p5), .second, .val (.int (own_ex6 p3 p4 p5))] [(.ref p1)])) _
    refine XS.iloadN X0.here hx rfl (hb hby own_d11_53) rfl ?_
    show Steps p.tables e below (s₁.setTop (mkF m 54 #[.val (.ref p1), .val (.int (6 : Int32)), .val (.int p3), .val (.int p4), .val (.long p5), .second, .val (.int (own_ex6 p3 p4 p5))] [(.int (6 : Int32)), (.ref p1)])) _
    refine X0.baloadBytes hx (j := (6 : Int32)) (v := (.int v6)) (by rw [e0]; exact Ar4.1) (State.isArrayOf_alike hZ.alike Ar4.2.1) Ar4.2.2 hin5 hat6 (g := (mkF m 54 #[.val (.ref p1), .val (.int (6 : Int32)), .val (.int p3), .val (.int p4), .val (.long p5), .second, .val (.int (own_ex6 p3 p4 p5))] [(.int (6 : Int32)), (.ref p1)])) rfl rfl (hb hby own_d11_54) _ ?_
    show Steps p.tables e below (s₁.setTop (mkF m 55 #[.val (.ref p1), .val (.int (6 : Int32)), .val (.int p3), .val (.int p4), .val (.long p5), .second, .val (.int (own_ex6 p3 p4 p5))] [(.int v6)])) _
    refine XS.sipush X0.here hx rfl (hb hby own_d11_55) ?_
    show Steps p.tables e below (s₁.setTop (mkF m 58 #[.val (.ref p1), .val (.int (6 : Int32)), .val (.int p3), .val (.int p4), .val (.long p5), .second, .val (.int (own_ex6 p3 p4 p5))] [(.int (255 : Int32)), (.int v6)])) _
    refine XS.iand X0.here hx rfl (hb hby own_d11_58) rfl ?_
    show Steps p.tables e below (s₁.setTop (mkF m 59 #[.val (.ref p1), .val (.int (6 : Int32)), .val (.int p3), .val (.int p4), .val (.long p5), .second, .val (.int (own_ex6 p3 p4 p5))] [(.int (v6 &&& (255 : Int32)))])) _
    refine XS.iload X0.here hx rfl (hb hby own_d11_59) rfl ?_
    exact k
  by_cases hc61_8 : (v6 &&& (255 : Int32)) = (own_ex6 p3 p4 p5)
  · have k9 : ∀ t, Steps p.tables e below (s₁.setTop (mkF m 69 #[.val (.ref p1), .val (.int (6 : Int32)), .val (.int p3), .val (.int p4), .val (.long p5), .second, .val (.int (own_ex6 p3 p4 p5))] [(.int (1 : Int32))])) t → Steps p.tables e below (s₁.setTop (entryFrame m #[(.ref p1), (.int (6 : Int32)), (.int p3), (.int p4), (.long p5)] 7)) t := by
      intro t k
      refine k7 t ?_
      show Steps p.tables e below (s₁.setTop (mkF m 61 #[.val (.ref p1), .val (.int (6 : Int32)), .val (.int p3), .val (.int p4), .val (.long p5), .second, .val (.int (own_ex6 p3 p4 p5))] [(.int (own_ex6 p3 p4 p5)), (.int (v6 &&& (255 : Int32)))])) _
      refine XS.icmpNo X0.here hx rfl (hb hby own_d11_61) rfl (teq hc61_8).2 ?_
      show Steps p.tables e below (s₁.setTop (mkF m 64 #[.val (.ref p1), .val (.int (6 : Int32)), .val (.int p3), .val (.int p4), .val (.long p5), .second, .val (.int (own_ex6 p3 p4 p5))] [])) _
      refine XS.iconst X0.here hx rfl (hb hby own_d11_64) ?_
      show Steps p.tables e below (s₁.setTop (mkF m 65 #[.val (.ref p1), .val (.int (6 : Int32)), .val (.int p3), .val (.int p4), .val (.long p5), .second, .val (.int (own_ex6 p3 p4 p5))] [(.int (1 : Int32))])) _
      refine XS.goto X0.here hx rfl (pc0 := 65) (pc' := 69) rfl (hb hby own_d11_65) (by decide) (by decide) ?_
      exact k
    obtain ⟨fs, hr, hrun, hended, hW, hsame⟩ := X0.leave (v := (some (.int (1 : Int32)))) (fun h => by rw [Bd.returns] at h; cases h)
    refine ⟨_, _, k9 _ ?_, hrun, hended, _, _, rfl, ?_, ⟨_, rfl⟩, hW, hsame.mono (by decide) (by decide)⟩
    · exact retN X0 hx (t := .boolean) Bd.returns (by simp) (hb hby own_d11_69) hr
    · have hv : (own_vat6 p3 p4 p5 v6) = (1 : Int32) := (if_pos hc61_8)
      exact ⟨congrArg (fun z => some (Value.int z)) hv.symm, N0, e0⟩
  · have k10 : ∀ t, Steps p.tables e below (s₁.setTop (mkF m 69 #[.val (.ref p1), .val (.int (6 : Int32)), .val (.int p3), .val (.int p4), .val (.long p5), .second, .val (.int (own_ex6 p3 p4 p5))] [(.int (0 : Int32))])) t → Steps p.tables e below (s₁.setTop (entryFrame m #[(.ref p1), (.int (6 : Int32)), (.int p3), (.int p4), (.long p5)] 7)) t := by
      intro t k
      refine k7 t ?_
      show Steps p.tables e below (s₁.setTop (mkF m 61 #[.val (.ref p1), .val (.int (6 : Int32)), .val (.int p3), .val (.int p4), .val (.long p5), .second, .val (.int (own_ex6 p3 p4 p5))] [(.int (own_ex6 p3 p4 p5)), (.int (v6 &&& (255 : Int32)))])) _
      refine XS.icmpYes X0.here hx rfl (pc0 := 61) (pc' := 68) rfl (hb hby own_d11_61) rfl (feq hc61_8).2 (by decide) (by decide) ?_
      show Steps p.tables e below (s₁.setTop (mkF m 68 #[.val (.ref p1), .val (.int (6 : Int32)), .val (.int p3), .val (.int p4), .val (.long p5), .second, .val (.int (own_ex6 p3 p4 p5))] [])) _
      refine XS.iconst X0.here hx rfl (hb hby own_d11_68) ?_
      exact k
    obtain ⟨fs, hr, hrun, hended, hW, hsame⟩ := X0.leave (v := (some (.int (0 : Int32)))) (fun h => by rw [Bd.returns] at h; cases h)
    refine ⟨_, _, k10 _ ?_, hrun, hended, _, _, rfl, ?_, ⟨_, rfl⟩, hW, hsame.mono (by decide) (by decide)⟩
    · exact retN X0 hx (t := .boolean) Bd.returns (by simp) (hb hby own_d11_69) hr
    · have hv : (own_vat6 p3 p4 p5 v6) = (0 : Int32) := (if_neg hc61_8)
      exact ⟨congrArg (fun z => some (Value.int z)) hv.symm, N0, e0⟩
def own_ex7 (p3 : Int32) (p4 : Int32) (p5 : Int64) : Int32 := if (7 : Int32) = p3 then ((p4 >>> ((8 : Int32) &&& 31)) &&& (255 : Int32)) else if (7 : Int32) = (p3 + (1 : Int32)) then (p4 &&& (255 : Int32)) else ((((p5.toUInt64 >>> ((0 : Int32) &&& 0x3f).toInt64.toUInt64).toInt64) &&& (255 : Int64)).toInt32)
def own_vat7 (p3 : Int32) (p4 : Int32) (p5 : Int64) (v7 : Int32) : Int32 :=
  if (v7 &&& (255 : Int32)) = (own_ex7 p3 p4 p5) then (1 : Int32) else
  (0 : Int32)
theorem own_efat7 (m : MethodId) (x0 : Addr) (x2 : Int32) (x3 : Int32) (x4 : Int64) : entryFrame m #[(.ref x0), (.int (7 : Int32)), (.int x2), (.int x3), (.long x4)] 7 = mkF m 0 #[.val (.ref x0), .val (.int (7 : Int32)), .val (.int x2), .val (.int x3), .val (.long x4), .second, .unset] [] := by first | (simp [entryFrame, mkF, argsToLocals, Value.category]; done) | rfl
def own_Qat7 (Z : State) (p1 : Addr) (p3 : Int32) (p4 : Int32) (p5 : Int64) (cc : ClassId) (v0 : Int32) (v1 : Int32) (v2 : Int32) (v3 : Int32) (v4 : Int32) (v5 : Int32) (v6 : Int32) (v7 : Int32) (h0 : Heap) (n0 : Nat) (v : Option Value) (h : Heap) (L : List Loc) : Prop := v = some (.int (own_vat7 p3 p4 p5 v7)) ∧ Fr n0 L ∧ h = h0
set_option maxRecDepth 65536 in
set_option maxHeartbeats 40000000 in
theorem own_rmat7 (l : Launch) (Z : State) (a0 : Array Value) (hw : ∀ d ∈ tables_1, d.before a0 Z = true) (ws : List Jvm.Cond) (p1 : Addr) (p3 : Int32) (p4 : Int32) (p5 : Int64) (cc : ClassId) (v0 : Int32) (v1 : Int32) (v2 : Int32) (v3 : Int32) (v4 : Int32) (v5 : Int32) (v6 : Int32) (v7 : Int32) (h0 : Heap) (n0 : Nat) (Z0 : n0 ≤ h0.size) (V0 : Arv Z h0 p1 cc .byte (8 : Int32) [(.int v0), (.int v1), (.int v2), (.int v3), (.int v4), (.int v5), (.int v6), (.int v7)] (.int (0 : Int32))) :
    MetFree l (⟨"com/example/reckoner/reckoner/BytesSetU2PinLaw", "at", "([BIIIJ)Z"⟩ : MethodName) (head1 (Jvm.Cond.code (⟨"com/example/reckoner/reckoner/BytesSetU2PinLaw", "at", "([BIIIJ)Z"⟩ : MethodName) method_3_code 7 (some .boolean) :: ws) ({ frames := 0, cells := 0, slots := 0, locals := 0 } : Room)) (fun aa U => aa = #[(.ref p1), (.int (7 : Int32)), (.int p3), (.int p4), (.long p5)] ∧ Z.Warmed39 U.vm ∧ U.heap = h0) (fun _ _ _ _ _ => True) (fun _ U o U' => ∃ v L, o = .returned v ∧ own_Qat7 Z p1 p3 p4 p5 cc v0 v1 v2 v3 v4 v5 v6 v7 h0 n0 v U'.heap L ∧ FrameEnd U o U' L ({ frames := 0, cells := 0, slots := 0, locals := 0 } : Room).cells ({ frames := 0, cells := 0, slots := 0, locals := 0 } : Room).slots) := by
  refine MetFree.of_bodySF (plainFor_of_name own_pn2) hisR ?_
  intro p e s m args below meth c s₁ Bd hml0 hP hK
  obtain ⟨rfl, hZ, hh⟩ := hP
  have hx := Bd.exec
  have hby := Bd.bytes
  have hml : c.maxLocals = 7 := hml0
  have hown : s.vm.findClass "com/example/reckoner/reckoner/BytesSetU2PinLaw" = some m.cls := findClass_of_methodNamed Bd.named
  have hnm := (name_of_methodNamed Bd.named Bd.method).1
  have X0 : Stand p l e ({ frames := 0, cells := 0, slots := 0, locals := 0 } : Room) s m #[(.ref p1), (.int (7 : Int32)), (.int p3), (.int p4), (.long p5)] below meth c s₁ [] 0 0 := Stand.of_body Bd
  have e0 : s₁.heap = h0 := by rw [← hh, Bd.state]; rfl
  have N0 := Fr.nil n0
  have pre0 : ∀ t, Steps p.tables e below (s₁.setTop (mkF m 0 #[.val (.ref p1), .val (.int (7 : Int32)), .val (.int p3), .val (.int p4), .val (.long p5), .second, .unset] [])) t → Steps p.tables e below (s₁.setTop (entryFrame m #[(.ref p1), (.int (7 : Int32)), (.int p3), (.int p4), (.long p5)] 7)) t := fun t k => castTop (own_efat7 m p1 p3 p4 p5) k
  have k1 : ∀ t, Steps p.tables e below (s₁.setTop (mkF m 52 #[.val (.ref p1), .val (.int (7 : Int32)), .val (.int p3), .val (.int p4), .val (.long p5), .second, .val (.int (own_ex7 p3 p4 p5))] [])) t → Steps p.tables e below (s₁.setTop (entryFrame m #[(.ref p1), (.int (7 : Int32)), (.int p3), (.int p4), (.long p5)] 7)) t := by
    intro t k
    refine pre0 t ?_
    show Steps p.tables e below (s₁.setTop (mkF m 0 #[.val (.ref p1), .val (.int (7 : Int32)), .val (.int p3), .val (.int p4), .val (.long p5), .second, .unset] [])) _
    refine XS.iloadN X0.here hx rfl (hb hby own_d11_0) rfl ?_
    show Steps p.tables e below (s₁.setTop (mkF m 1 #[.val (.ref p1), .val (.int (7 : Int32)), .val (.int p3), .val (.int p4), .val (.long p5), .second, .unset] [(.int (7 : Int32))])) _
    refine XS.iloadN X0.here hx rfl (hb hby own_d11_1) rfl ?_
    by_cases hc2_2 : (7 : Int32) = p3
    · show Steps p.tables e below (s₁.setTop (mkF m 2 #[.val (.ref p1), .val (.int (7 : Int32)), .val (.int p3), .val (.int p4), .val (.long p5), .second, .unset] [(.int p3), (.int (7 : Int32))])) _
      refine XS.icmpNo X0.here hx rfl (hb hby own_d11_2) rfl (teq hc2_2).2 ?_
      show Steps p.tables e below (s₁.setTop (mkF m 5 #[.val (.ref p1), .val (.int (7 : Int32)), .val (.int p3), .val (.int p4), .val (.long p5), .second, .unset] [])) _
      refine XS.iloadN X0.here hx rfl (hb hby own_d11_5) rfl ?_
      show Steps p.tables e below (s₁.setTop (mkF m 6 #[.val (.ref p1), .val (.int (7 : Int32)), .val (.int p3), .val (.int p4), .val (.long p5), .second, .unset] [(.int p4)])) _
      refine XS.bipush X0.here hx rfl (hb hby own_d11_6) ?_
      show Steps p.tables e below (s₁.setTop (mkF m 8 #[.val (.ref p1), .val (.int (7 : Int32)), .val (.int p3), .val (.int p4), .val (.long p5), .second, .unset] [(.int (8 : Int32)), (.int p4)])) _
      refine XS.ishr X0.here hx rfl (hb hby own_d11_8) rfl ?_
      show Steps p.tables e below (s₁.setTop (mkF m 9 #[.val (.ref p1), .val (.int (7 : Int32)), .val (.int p3), .val (.int p4), .val (.long p5), .second, .unset] [(.int (p4 >>> ((8 : Int32) &&& 31)))])) _
      refine XS.sipush X0.here hx rfl (hb hby own_d11_9) ?_
      show Steps p.tables e below (s₁.setTop (mkF m 12 #[.val (.ref p1), .val (.int (7 : Int32)), .val (.int p3), .val (.int p4), .val (.long p5), .second, .unset] [(.int (255 : Int32)), (.int (p4 >>> ((8 : Int32) &&& 31)))])) _
      refine XS.iand X0.here hx rfl (hb hby own_d11_12) rfl ?_
      show Steps p.tables e below (s₁.setTop (mkF m 13 #[.val (.ref p1), .val (.int (7 : Int32)), .val (.int p3), .val (.int p4), .val (.long p5), .second, .unset] [(.int ((p4 >>> ((8 : Int32) &&& 31)) &&& (255 : Int32)))])) _
      refine XS.istore X0.here hx rfl (hb hby own_d11_13) rfl (l' := #[.val (.ref p1), .val (.int (7 : Int32)), .val (.int p3), .val (.int p4), .val (.long p5), .second, .val (.int ((p4 >>> ((8 : Int32) &&& 31)) &&& (255 : Int32)))]) rfl ?_
      show Steps p.tables e below (s₁.setTop (mkF m 15 #[.val (.ref p1), .val (.int (7 : Int32)), .val (.int p3), .val (.int p4), .val (.long p5), .second, .val (.int ((p4 >>> ((8 : Int32) &&& 31)) &&& (255 : Int32)))] [])) _
      refine XS.goto X0.here hx rfl (pc0 := 15) (pc' := 52) rfl (hb hby own_d11_15) (by decide) (by decide) ?_
      have q0 : (own_ex7 p3 p4 p5) = ((p4 >>> ((8 : Int32) &&& 31)) &&& (255 : Int32)) := (if_pos hc2_2)
      rw [q0] at k
      exact k
    · show Steps p.tables e below (s₁.setTop (mkF m 2 #[.val (.ref p1), .val (.int (7 : Int32)), .val (.int p3), .val (.int p4), .val (.long p5), .second, .unset] [(.int p3), (.int (7 : Int32))])) _
      refine XS.icmpYes X0.here hx rfl (pc0 := 2) (pc' := 18) rfl (hb hby own_d11_2) rfl (feq hc2_2).2 (by decide) (by decide) ?_
      show Steps p.tables e below (s₁.setTop (mkF m 18 #[.val (.ref p1), .val (.int (7 : Int32)), .val (.int p3), .val (.int p4), .val (.long p5), .second, .unset] [])) _
      refine XS.iloadN X0.here hx rfl (hb hby own_d11_18) rfl ?_
      show Steps p.tables e below (s₁.setTop (mkF m 19 #[.val (.ref p1), .val (.int (7 : Int32)), .val (.int p3), .val (.int p4), .val (.long p5), .second, .unset] [(.int (7 : Int32))])) _
      refine XS.iloadN X0.here hx rfl (hb hby own_d11_19) rfl ?_
      show Steps p.tables e below (s₁.setTop (mkF m 20 #[.val (.ref p1), .val (.int (7 : Int32)), .val (.int p3), .val (.int p4), .val (.long p5), .second, .unset] [(.int p3), (.int (7 : Int32))])) _
      refine XS.iconst X0.here hx rfl (hb hby own_d11_20) ?_
      show Steps p.tables e below (s₁.setTop (mkF m 21 #[.val (.ref p1), .val (.int (7 : Int32)), .val (.int p3), .val (.int p4), .val (.long p5), .second, .unset] [(.int (1 : Int32)), (.int p3), (.int (7 : Int32))])) _
      refine XS.iadd X0.here hx rfl (hb hby own_d11_21) rfl ?_
      by_cases hc22_3 : (7 : Int32) = (p3 + (1 : Int32))
      · show Steps p.tables e below (s₁.setTop (mkF m 22 #[.val (.ref p1), .val (.int (7 : Int32)), .val (.int p3), .val (.int p4), .val (.long p5), .second, .unset] [(.int (p3 + (1 : Int32))), (.int (7 : Int32))])) _
        refine XS.icmpNo X0.here hx rfl (hb hby own_d11_22) rfl (teq hc22_3).2 ?_
        show Steps p.tables e below (s₁.setTop (mkF m 25 #[.val (.ref p1), .val (.int (7 : Int32)), .val (.int p3), .val (.int p4), .val (.long p5), .second, .unset] [])) _
        refine XS.iloadN X0.here hx rfl (hb hby own_d11_25) rfl ?_
        show Steps p.tables e below (s₁.setTop (mkF m 26 #[.val (.ref p1), .val (.int (7 : Int32)), .val (.int p3), .val (.int p4), .val (.long p5), .second, .unset] [(.int p4)])) _
        refine XS.sipush X0.here hx rfl (hb hby own_d11_26) ?_
        show Steps p.tables e below (s₁.setTop (mkF m 29 #[.val (.ref p1), .val (.int (7 : Int32)), .val (.int p3), .val (.int p4), .val (.long p5), .second, .unset] [(.int (255 : Int32)), (.int p4)])) _
        refine XS.iand X0.here hx rfl (hb hby own_d11_29) rfl ?_
        show Steps p.tables e below (s₁.setTop (mkF m 30 #[.val (.ref p1), .val (.int (7 : Int32)), .val (.int p3), .val (.int p4), .val (.long p5), .second, .unset] [(.int (p4 &&& (255 : Int32)))])) _
        refine XS.istore X0.here hx rfl (hb hby own_d11_30) rfl (l' := #[.val (.ref p1), .val (.int (7 : Int32)), .val (.int p3), .val (.int p4), .val (.long p5), .second, .val (.int (p4 &&& (255 : Int32)))]) rfl ?_
        show Steps p.tables e below (s₁.setTop (mkF m 32 #[.val (.ref p1), .val (.int (7 : Int32)), .val (.int p3), .val (.int p4), .val (.long p5), .second, .val (.int (p4 &&& (255 : Int32)))] [])) _
        refine XS.goto X0.here hx rfl (pc0 := 32) (pc' := 52) rfl (hb hby own_d11_32) (by decide) (by decide) ?_
        have q0 : (own_ex7 p3 p4 p5) = (p4 &&& (255 : Int32)) := ((if_neg hc2_2).trans (if_pos hc22_3))
        rw [q0] at k
        exact k
      · show Steps p.tables e below (s₁.setTop (mkF m 22 #[.val (.ref p1), .val (.int (7 : Int32)), .val (.int p3), .val (.int p4), .val (.long p5), .second, .unset] [(.int (p3 + (1 : Int32))), (.int (7 : Int32))])) _
        refine XS.icmpYes X0.here hx rfl (pc0 := 22) (pc' := 35) rfl (hb hby own_d11_22) rfl (feq hc22_3).2 (by decide) (by decide) ?_
        show Steps p.tables e below (s₁.setTop (mkF m 35 #[.val (.ref p1), .val (.int (7 : Int32)), .val (.int p3), .val (.int p4), .val (.long p5), .second, .unset] [])) _
        refine XS.lload X0.here hx rfl (hb hby own_d11_35) rfl ?_
        show Steps p.tables e below (s₁.setTop (mkF m 37 #[.val (.ref p1), .val (.int (7 : Int32)), .val (.int p3), .val (.int p4), .val (.long p5), .second, .unset] [(.long p5)])) _
        refine XS.bipush X0.here hx rfl (hb hby own_d11_37) ?_
        show Steps p.tables e below (s₁.setTop (mkF m 39 #[.val (.ref p1), .val (.int (7 : Int32)), .val (.int p3), .val (.int p4), .val (.long p5), .second, .unset] [(.int (56 : Int32)), (.long p5)])) _
        refine XS.bipush X0.here hx rfl (hb hby own_d11_39) ?_
        show Steps p.tables e below (s₁.setTop (mkF m 41 #[.val (.ref p1), .val (.int (7 : Int32)), .val (.int p3), .val (.int p4), .val (.long p5), .second, .unset] [(.int (8 : Int32)), (.int (56 : Int32)), (.long p5)])) _
        refine XS.iloadN X0.here hx rfl (hb hby own_d11_41) rfl ?_
        show Steps p.tables e below (s₁.setTop (mkF m 42 #[.val (.ref p1), .val (.int (7 : Int32)), .val (.int p3), .val (.int p4), .val (.long p5), .second, .unset] [(.int (7 : Int32)), (.int (8 : Int32)), (.int (56 : Int32)), (.long p5)])) _
        refine XS.imul X0.here hx rfl (hb hby own_d11_42) rfl ?_
        show Steps p.tables e below (s₁.setTop (mkF m 43 #[.val (.ref p1), .val (.int (7 : Int32)), .val (.int p3), .val (.int p4), .val (.long p5), .second, .unset] [(.int (56 : Int32)), (.int (56 : Int32)), (.long p5)])) _
        refine XS.isub X0.here hx rfl (hb hby own_d11_43) rfl ?_
        show Steps p.tables e below (s₁.setTop (mkF m 44 #[.val (.ref p1), .val (.int (7 : Int32)), .val (.int p3), .val (.int p4), .val (.long p5), .second, .unset] [(.int (0 : Int32)), (.long p5)])) _
        refine XS.lushr X0.here hx rfl (hb hby own_d11_44) rfl ?_
        show Steps p.tables e below (s₁.setTop (mkF m 45 #[.val (.ref p1), .val (.int (7 : Int32)), .val (.int p3), .val (.int p4), .val (.long p5), .second, .unset] [(.long ((p5.toUInt64 >>> ((0 : Int32) &&& 0x3f).toInt64.toUInt64).toInt64))])) _
        refine X0.ldc2Long hx hown (mvT hZ (hw _ (List.mem_of_getElem? (i := 60) rfl))) (g := (mkF m 45 #[.val (.ref p1), .val (.int (7 : Int32)), .val (.int p3), .val (.int p4), .val (.long p5), .second, .unset] [(.long ((p5.toUInt64 >>> ((0 : Int32) &&& 0x3f).toInt64.toUInt64).toInt64))])) rfl (hb hby own_d11_45) _ ?_
        show Steps p.tables e below (s₁.setTop (mkF m 48 #[.val (.ref p1), .val (.int (7 : Int32)), .val (.int p3), .val (.int p4), .val (.long p5), .second, .unset] [(.long (255 : Int64)), (.long ((p5.toUInt64 >>> ((0 : Int32) &&& 0x3f).toInt64.toUInt64).toInt64))])) _
        refine XS.land X0.here hx rfl (hb hby own_d11_48) rfl ?_
        show Steps p.tables e below (s₁.setTop (mkF m 49 #[.val (.ref p1), .val (.int (7 : Int32)), .val (.int p3), .val (.int p4), .val (.long p5), .second, .unset] [(.long (((p5.toUInt64 >>> ((0 : Int32) &&& 0x3f).toInt64.toUInt64).toInt64) &&& (255 : Int64)))])) _
        refine XS.l2i X0.here hx rfl (hb hby own_d11_49) rfl ?_
        show Steps p.tables e below (s₁.setTop (mkF m 50 #[.val (.ref p1), .val (.int (7 : Int32)), .val (.int p3), .val (.int p4), .val (.long p5), .second, .unset] [(.int ((((p5.toUInt64 >>> ((0 : Int32) &&& 0x3f).toInt64.toUInt64).toInt64) &&& (255 : Int64)).toInt32))])) _
        refine XS.istore X0.here hx rfl (hb hby own_d11_50) rfl (l' := #[.val (.ref p1), .val (.int (7 : Int32)), .val (.int p3), .val (.int p4), .val (.long p5), .second, .val (.int ((((p5.toUInt64 >>> ((0 : Int32) &&& 0x3f).toInt64.toUInt64).toInt64) &&& (255 : Int64)).toInt32))]) rfl ?_
        have q0 : (own_ex7 p3 p4 p5) = ((((p5.toUInt64 >>> ((0 : Int32) &&& 0x3f).toInt64.toUInt64).toInt64) &&& (255 : Int64)).toInt32) := ((if_neg hc2_2).trans (if_neg hc22_3))
        rw [q0] at k
        exact k
  obtain ⟨cl4, Ar4, qa4, Sa4, Na4, Ha4, Ga4⟩ := id V0
  have hin5 : ¬ ((7 : Int32) < 0 ∨ cl4.slots.size ≤ ((7 : Int32)).toNatClampNeg) := inb_of Sa4 ⟨by decide, by decide⟩
  have hat6 : cl4.slots[((7 : Int32)).toNatClampNeg]? = some (.int v7) := Ha4 7 (Nat.lt_of_not_le fun q => hin5 (Or.inr q))
  have k7 : ∀ t, Steps p.tables e below (s₁.setTop (mkF m 61 #[.val (.ref p1), .val (.int (7 : Int32)), .val (.int p3), .val (.int p4), .val (.long p5), .second, .val (.int (own_ex7 p3 p4 p5))] [(.int (own_ex7 p3 p4 p5)), (.int (v7 &&& (255 : Int32)))])) t → Steps p.tables e below (s₁.setTop (entryFrame m #[(.ref p1), (.int (7 : Int32)), (.int p3), (.int p4), (.long p5)] 7)) t := by
    intro t k
    refine k1 t ?_
    show Steps p.tables e below (s₁.setTop (mkF m 52 #[.val (.ref p1), .val (.int (7 : Int32)), .val (.int p3), .val (.int p4), .val (.long p5), .second, .val (.int (own_ex7 p3 p4 p5))] [])) _
    refine XS.aloadN X0.here hx rfl (hb hby own_d11_52) rfl rfl ?_
    show Steps p.tables e below (s₁.setTop (mkF m 53 #[.val (.ref p1), .val (.int (7 : Int32)), .val (.int p3), .val (.int p4), .val (.long p5), .second, .val (.int (own_ex7 p3 p4 p5))] [(.ref p1)])) _
    refine XS.iloadN X0.here hx rfl (hb hby own_d11_53) rfl ?_
    show Steps p.tables e below (s₁.setTop (mkF m 54 #[.val (.ref p1), .val (.int (7 : Int32)), .val (.int p3), .val (.int p4), .val (.long p5), .second, .val (.int (own_ex7 p3 p4 p5))] [(.int (7 : Int32)), (.ref p1)])) _
    refine X0.baloadBytes hx (j := (7 : Int32)) (v := (.int v7)) (by rw [e0]; exact Ar4.1) (State.isArrayOf_alike hZ.alike Ar4.2.1) Ar4.2.2 hin5 hat6 (g := (mkF m 54 #[.val (.ref p1), .val (.int (7 : Int32)), .val (.int p3), .val (.int p4), .val (.long p5), .second, .val (.int (own_ex7 p3 p4 p5))] [(.int (7 : Int32)), (.ref p1)])) rfl rfl (hb hby own_d11_54) _ ?_
    show Steps p.tables e below (s₁.setTop (mkF m 55 #[.val (.ref p1), .val (.int (7 : Int32)), .val (.int p3), .val (.int p4), .val (.long p5), .second, .val (.int (own_ex7 p3 p4 p5))] [(.int v7)])) _
    refine XS.sipush X0.here hx rfl (hb hby own_d11_55) ?_
    show Steps p.tables e below (s₁.setTop (mkF m 58 #[.val (.ref p1), .val (.int (7 : Int32)), .val (.int p3), .val (.int p4), .val (.long p5), .second, .val (.int (own_ex7 p3 p4 p5))] [(.int (255 : Int32)), (.int v7)])) _
    refine XS.iand X0.here hx rfl (hb hby own_d11_58) rfl ?_
    show Steps p.tables e below (s₁.setTop (mkF m 59 #[.val (.ref p1), .val (.int (7 : Int32)), .val (.int p3), .val (.int p4), .val (.long p5), .second, .val (.int (own_ex7 p3 p4 p5))] [(.int (v7 &&& (255 : Int32)))])) _
    refine XS.iload X0.here hx rfl (hb hby own_d11_59) rfl ?_
    exact k
  by_cases hc61_8 : (v7 &&& (255 : Int32)) = (own_ex7 p3 p4 p5)
  · have k9 : ∀ t, Steps p.tables e below (s₁.setTop (mkF m 69 #[.val (.ref p1), .val (.int (7 : Int32)), .val (.int p3), .val (.int p4), .val (.long p5), .second, .val (.int (own_ex7 p3 p4 p5))] [(.int (1 : Int32))])) t → Steps p.tables e below (s₁.setTop (entryFrame m #[(.ref p1), (.int (7 : Int32)), (.int p3), (.int p4), (.long p5)] 7)) t := by
      intro t k
      refine k7 t ?_
      show Steps p.tables e below (s₁.setTop (mkF m 61 #[.val (.ref p1), .val (.int (7 : Int32)), .val (.int p3), .val (.int p4), .val (.long p5), .second, .val (.int (own_ex7 p3 p4 p5))] [(.int (own_ex7 p3 p4 p5)), (.int (v7 &&& (255 : Int32)))])) _
      refine XS.icmpNo X0.here hx rfl (hb hby own_d11_61) rfl (teq hc61_8).2 ?_
      show Steps p.tables e below (s₁.setTop (mkF m 64 #[.val (.ref p1), .val (.int (7 : Int32)), .val (.int p3), .val (.int p4), .val (.long p5), .second, .val (.int (own_ex7 p3 p4 p5))] [])) _
      refine XS.iconst X0.here hx rfl (hb hby own_d11_64) ?_
      show Steps p.tables e below (s₁.setTop (mkF m 65 #[.val (.ref p1), .val (.int (7 : Int32)), .val (.int p3), .val (.int p4), .val (.long p5), .second, .val (.int (own_ex7 p3 p4 p5))] [(.int (1 : Int32))])) _
      refine XS.goto X0.here hx rfl (pc0 := 65) (pc' := 69) rfl (hb hby own_d11_65) (by decide) (by decide) ?_
      exact k
    obtain ⟨fs, hr, hrun, hended, hW, hsame⟩ := X0.leave (v := (some (.int (1 : Int32)))) (fun h => by rw [Bd.returns] at h; cases h)
    refine ⟨_, _, k9 _ ?_, hrun, hended, _, _, rfl, ?_, ⟨_, rfl⟩, hW, hsame.mono (by decide) (by decide)⟩
    · exact retN X0 hx (t := .boolean) Bd.returns (by simp) (hb hby own_d11_69) hr
    · have hv : (own_vat7 p3 p4 p5 v7) = (1 : Int32) := (if_pos hc61_8)
      exact ⟨congrArg (fun z => some (Value.int z)) hv.symm, N0, e0⟩
  · have k10 : ∀ t, Steps p.tables e below (s₁.setTop (mkF m 69 #[.val (.ref p1), .val (.int (7 : Int32)), .val (.int p3), .val (.int p4), .val (.long p5), .second, .val (.int (own_ex7 p3 p4 p5))] [(.int (0 : Int32))])) t → Steps p.tables e below (s₁.setTop (entryFrame m #[(.ref p1), (.int (7 : Int32)), (.int p3), (.int p4), (.long p5)] 7)) t := by
      intro t k
      refine k7 t ?_
      show Steps p.tables e below (s₁.setTop (mkF m 61 #[.val (.ref p1), .val (.int (7 : Int32)), .val (.int p3), .val (.int p4), .val (.long p5), .second, .val (.int (own_ex7 p3 p4 p5))] [(.int (own_ex7 p3 p4 p5)), (.int (v7 &&& (255 : Int32)))])) _
      refine XS.icmpYes X0.here hx rfl (pc0 := 61) (pc' := 68) rfl (hb hby own_d11_61) rfl (feq hc61_8).2 (by decide) (by decide) ?_
      show Steps p.tables e below (s₁.setTop (mkF m 68 #[.val (.ref p1), .val (.int (7 : Int32)), .val (.int p3), .val (.int p4), .val (.long p5), .second, .val (.int (own_ex7 p3 p4 p5))] [])) _
      refine XS.iconst X0.here hx rfl (hb hby own_d11_68) ?_
      exact k
    obtain ⟨fs, hr, hrun, hended, hW, hsame⟩ := X0.leave (v := (some (.int (0 : Int32)))) (fun h => by rw [Bd.returns] at h; cases h)
    refine ⟨_, _, k10 _ ?_, hrun, hended, _, _, rfl, ?_, ⟨_, rfl⟩, hW, hsame.mono (by decide) (by decide)⟩
    · exact retN X0 hx (t := .boolean) Bd.returns (by simp) (hb hby own_d11_69) hr
    · have hv : (own_vat7 p3 p4 p5 v7) = (0 : Int32) := (if_neg hc61_8)
      exact ⟨congrArg (fun z => some (Value.int z)) hv.symm, N0, e0⟩
def own_off (p2 : Int32) : Int32 := ((p2 &&& (2147483647 : Int32)) % (7 : Int32))
theorem own_offc (p2 : Int32) : own_off p2 = (0 : Int32) ∨ own_off p2 = (1 : Int32) ∨ own_off p2 = (2 : Int32) ∨ own_off p2 = (3 : Int32) ∨ own_off p2 = (4 : Int32) ∨ own_off p2 = (5 : Int32) ∨ own_off p2 = (6 : Int32) := by
  have h1 := c_mask p2 2147483647 31 (by decide) (by decide)
  have h2 := (c_irem (p2 &&& 2147483647) 7 7 (by decide)).1 (by omega)
  have h3 : 0 ≤ (own_off p2).toInt ∧ (own_off p2).toInt < 7 := by unfold own_off; omega
  simp only [← Int32.toInt_inj]
  generalize (own_off p2).toInt = z at h3
  show z = 0 ∨ z = 1 ∨ z = 2 ∨ z = 3 ∨ z = 4 ∨ z = 5 ∨ z = 6
  omega
theorem own_nz {a b : Int32} (h : a = b) : ¬ ((if a = b then (1 : Int32) else (0 : Int32)) = (0 : Int32)) := by rw [if_pos h]; decide
theorem own_byte (y : Int32) : (nar .byte (y.toInt8.toInt32) &&& (255 : Int32)).toInt = y.toInt % 256 := by
  have h1 := c_mask (nar .byte (y.toInt8.toInt32)) 255 8 (by decide) (by decide)
  have h2 := c_i2b y
  have h3 : (((y.toInt8.toInt32).toInt8.toInt32).toInt - (y.toInt8.toInt32).toInt) % 256 = 0 := (c_i2b (y.toInt8.toInt32)).1
  have h4 : (nar .byte (y.toInt8.toInt32)).toInt = ((y.toInt8.toInt32).toInt8.toInt32).toInt := rfl
  rw [h1, h4]
  omega
theorem own_sh32 (x : Int32) : ((x.toUInt32 >>> ((0 : Int32) &&& 31).toUInt32).toInt32) = x := by
  have e : ((0 : Int32) &&& 31).toUInt32 = 0 := rfl
  rw [e]; simp
theorem own_sh64 (x : Int64) : ((x.toUInt64 >>> ((0 : Int32) &&& 0x3f).toInt64.toUInt64).toInt64) = x := by
  have e : ((0 : Int32) &&& 0x3f).toInt64.toUInt64 = 0 := rfl
  rw [e]; simp
theorem own_low (x : Int64) : ((x &&& (255 : Int64)).toInt32).toInt = x.toInt % 256 := by
  have h1 := c_maskL x 255 8 (by decide) (by decide)
  have h2 := c_l2i (x &&& 255)
  have h3 := rng32 ((x &&& 255).toInt32)
  omega
theorem own_phi (p3 : Int32) : (nar .byte (((p3.toUInt32 >>> ((8 : Int32) &&& 31).toUInt32).toInt32).toInt8.toInt32)) &&& (255 : Int32) = (p3 >>> ((8 : Int32) &&& 31)) &&& (255 : Int32) := by
  apply Int32.toInt_inj.mp
  rw [own_byte]
  have h1 := c_iushr p3 8 8 (by decide) (by decide)
  have h2 := c_mask (p3 >>> ((8 : Int32) &&& 31)) 255 8 (by decide) (by decide)
  have h3 := c_ishr p3 8 8 (by decide)
  rw [h1, h2, h3]
  omega
theorem own_plo (p3 : Int32) : (nar .byte (p3.toInt8.toInt32)) &&& (255 : Int32) = p3 &&& (255 : Int32) := by
  apply Int32.toInt_inj.mp
  rw [own_byte]
  have h2 := c_mask p3 255 8 (by decide) (by decide)
  rw [h2]
  omega
theorem own_hi32 (p1 : Int64) : (((p1.toUInt64 >>> ((32 : Int32) &&& 0x3f).toInt64.toUInt64).toInt64).toInt32).toInt % 4294967296 = (p1.toInt % 18446744073709551616) / 4294967296 := by
  have h1 := c_lushr p1 32 32 (by decide) (by decide)
  have h2 := c_l2i ((p1.toUInt64 >>> ((32 : Int32) &&& 0x3f).toInt64.toUInt64).toInt64)
  omega
theorem own_pw0 (p1 : Int64) : (nar .byte ((((((p1.toUInt64 >>> ((32 : Int32) &&& 0x3f).toInt64.toUInt64).toInt64).toInt32).toUInt32 >>> ((24 : Int32) &&& 31).toUInt32).toInt32).toInt8.toInt32)) &&& (255 : Int32) = ((((p1.toUInt64 >>> ((56 : Int32) &&& 0x3f).toInt64.toUInt64).toInt64) &&& (255 : Int64)).toInt32) := by
  apply Int32.toInt_inj.mp
  rw [own_byte, own_low]
  have h1 := own_hi32 p1
  have h2 := c_iushr (((p1.toUInt64 >>> ((32 : Int32) &&& 0x3f).toInt64.toUInt64).toInt64).toInt32) 24 24 (by decide) (by decide)
  have h3 := c_lushr p1 56 56 (by decide) (by decide)
  rw [h2, h3]
  omega
theorem own_pw1 (p1 : Int64) : (nar .byte ((((((p1.toUInt64 >>> ((32 : Int32) &&& 0x3f).toInt64.toUInt64).toInt64).toInt32).toUInt32 >>> ((16 : Int32) &&& 31).toUInt32).toInt32).toInt8.toInt32)) &&& (255 : Int32) = ((((p1.toUInt64 >>> ((48 : Int32) &&& 0x3f).toInt64.toUInt64).toInt64) &&& (255 : Int64)).toInt32) := by
  apply Int32.toInt_inj.mp
  rw [own_byte, own_low]
  have h1 := own_hi32 p1
  have h2 := c_iushr (((p1.toUInt64 >>> ((32 : Int32) &&& 0x3f).toInt64.toUInt64).toInt64).toInt32) 16 16 (by decide) (by decide)
  have h3 := c_lushr p1 48 48 (by decide) (by decide)
  rw [h2, h3]
  omega
theorem own_pw2 (p1 : Int64) : (nar .byte ((((((p1.toUInt64 >>> ((32 : Int32) &&& 0x3f).toInt64.toUInt64).toInt64).toInt32).toUInt32 >>> ((8 : Int32) &&& 31).toUInt32).toInt32).toInt8.toInt32)) &&& (255 : Int32) = ((((p1.toUInt64 >>> ((40 : Int32) &&& 0x3f).toInt64.toUInt64).toInt64) &&& (255 : Int64)).toInt32) := by
  apply Int32.toInt_inj.mp
  rw [own_byte, own_low]
  have h1 := own_hi32 p1
  have h2 := c_iushr (((p1.toUInt64 >>> ((32 : Int32) &&& 0x3f).toInt64.toUInt64).toInt64).toInt32) 8 8 (by decide) (by decide)
  have h3 := c_lushr p1 40 40 (by decide) (by decide)
  rw [h2, h3]
  omega
theorem own_pw3 (p1 : Int64) : (nar .byte ((((((p1.toUInt64 >>> ((32 : Int32) &&& 0x3f).toInt64.toUInt64).toInt64).toInt32).toUInt32 >>> ((0 : Int32) &&& 31).toUInt32).toInt32).toInt8.toInt32)) &&& (255 : Int32) = ((((p1.toUInt64 >>> ((32 : Int32) &&& 0x3f).toInt64.toUInt64).toInt64) &&& (255 : Int64)).toInt32) := by
  apply Int32.toInt_inj.mp
  rw [own_byte, own_low]
  have h1 := own_hi32 p1
  have h2 := congrArg Int32.toInt (own_sh32 (((p1.toUInt64 >>> ((32 : Int32) &&& 0x3f).toInt64.toUInt64).toInt64).toInt32))
  have h3 := c_lushr p1 32 32 (by decide) (by decide)
  rw [h2, h3]
  omega
theorem own_pw4 (p1 : Int64) : (nar .byte ((((p1.toInt32).toUInt32 >>> ((24 : Int32) &&& 31).toUInt32).toInt32).toInt8.toInt32)) &&& (255 : Int32) = ((((p1.toUInt64 >>> ((24 : Int32) &&& 0x3f).toInt64.toUInt64).toInt64) &&& (255 : Int64)).toInt32) := by
  apply Int32.toInt_inj.mp
  rw [own_byte, own_low]
  have h1 := c_l2i p1
  have h2 := c_iushr (p1.toInt32) 24 24 (by decide) (by decide)
  have h3 := c_lushr p1 24 24 (by decide) (by decide)
  rw [h2, h3]
  omega
theorem own_pw5 (p1 : Int64) : (nar .byte ((((p1.toInt32).toUInt32 >>> ((16 : Int32) &&& 31).toUInt32).toInt32).toInt8.toInt32)) &&& (255 : Int32) = ((((p1.toUInt64 >>> ((16 : Int32) &&& 0x3f).toInt64.toUInt64).toInt64) &&& (255 : Int64)).toInt32) := by
  apply Int32.toInt_inj.mp
  rw [own_byte, own_low]
  have h1 := c_l2i p1
  have h2 := c_iushr (p1.toInt32) 16 16 (by decide) (by decide)
  have h3 := c_lushr p1 16 16 (by decide) (by decide)
  rw [h2, h3]
  omega
theorem own_pw6 (p1 : Int64) : (nar .byte ((((p1.toInt32).toUInt32 >>> ((8 : Int32) &&& 31).toUInt32).toInt32).toInt8.toInt32)) &&& (255 : Int32) = ((((p1.toUInt64 >>> ((8 : Int32) &&& 0x3f).toInt64.toUInt64).toInt64) &&& (255 : Int64)).toInt32) := by
  apply Int32.toInt_inj.mp
  rw [own_byte, own_low]
  have h1 := c_l2i p1
  have h2 := c_iushr (p1.toInt32) 8 8 (by decide) (by decide)
  have h3 := c_lushr p1 8 8 (by decide) (by decide)
  rw [h2, h3]
  omega
theorem own_pw7 (p1 : Int64) : (nar .byte ((((p1.toInt32).toUInt32 >>> ((0 : Int32) &&& 31).toUInt32).toInt32).toInt8.toInt32)) &&& (255 : Int32) = ((((p1.toUInt64 >>> ((0 : Int32) &&& 0x3f).toInt64.toUInt64).toInt64) &&& (255 : Int64)).toInt32) := by
  apply Int32.toInt_inj.mp
  rw [own_byte, own_low]
  have h1 := c_l2i p1
  have h2 := congrArg Int32.toInt (own_sh32 (p1.toInt32))
  have h3 := congrArg Int64.toInt (own_sh64 p1)
  rw [h2, h3]
  omega

theorem own_t0_0 (p1 : Int64) (p3 : Int32) : ¬ ((own_vat0 (0 : Int32) p3 p1 (nar .byte (((p3.toUInt32 >>> ((8 : Int32) &&& 31).toUInt32).toInt32).toInt8.toInt32))) = (0 : Int32)) :=
  own_nz ((own_phi p3).trans (if_pos rfl).symm)
theorem own_t0_1 (p1 : Int64) (p3 : Int32) : ¬ ((own_vat1 (0 : Int32) p3 p1 (nar .byte (p3.toInt8.toInt32))) = (0 : Int32)) :=
  own_nz ((own_plo p3).trans ((if_neg (by decide)).trans (if_pos (by decide))).symm)
theorem own_t0_2 (p1 : Int64) (p3 : Int32) : ¬ ((own_vat2 (0 : Int32) p3 p1 (nar .byte ((((((p1.toUInt64 >>> ((32 : Int32) &&& 0x3f).toInt64.toUInt64).toInt64).toInt32).toUInt32 >>> ((8 : Int32) &&& 31).toUInt32).toInt32).toInt8.toInt32))) = (0 : Int32)) :=
  own_nz ((own_pw2 p1).trans ((if_neg (by decide)).trans (if_neg (by decide))).symm)
theorem own_t0_3 (p1 : Int64) (p3 : Int32) : ¬ ((own_vat3 (0 : Int32) p3 p1 (nar .byte ((((((p1.toUInt64 >>> ((32 : Int32) &&& 0x3f).toInt64.toUInt64).toInt64).toInt32).toUInt32 >>> ((0 : Int32) &&& 31).toUInt32).toInt32).toInt8.toInt32))) = (0 : Int32)) :=
  own_nz ((own_pw3 p1).trans ((if_neg (by decide)).trans (if_neg (by decide))).symm)
theorem own_t0_4 (p1 : Int64) (p3 : Int32) : ¬ ((own_vat4 (0 : Int32) p3 p1 (nar .byte ((((p1.toInt32).toUInt32 >>> ((24 : Int32) &&& 31).toUInt32).toInt32).toInt8.toInt32))) = (0 : Int32)) :=
  own_nz ((own_pw4 p1).trans ((if_neg (by decide)).trans (if_neg (by decide))).symm)
theorem own_t0_5 (p1 : Int64) (p3 : Int32) : ¬ ((own_vat5 (0 : Int32) p3 p1 (nar .byte ((((p1.toInt32).toUInt32 >>> ((16 : Int32) &&& 31).toUInt32).toInt32).toInt8.toInt32))) = (0 : Int32)) :=
  own_nz ((own_pw5 p1).trans ((if_neg (by decide)).trans (if_neg (by decide))).symm)
theorem own_t0_6 (p1 : Int64) (p3 : Int32) : ¬ ((own_vat6 (0 : Int32) p3 p1 (nar .byte ((((p1.toInt32).toUInt32 >>> ((8 : Int32) &&& 31).toUInt32).toInt32).toInt8.toInt32))) = (0 : Int32)) :=
  own_nz ((own_pw6 p1).trans ((if_neg (by decide)).trans (if_neg (by decide))).symm)
theorem own_t0_7 (p1 : Int64) (p3 : Int32) : ¬ ((own_vat7 (0 : Int32) p3 p1 (nar .byte ((((p1.toInt32).toUInt32 >>> ((0 : Int32) &&& 31).toUInt32).toInt32).toInt8.toInt32))) = (0 : Int32)) :=
  own_nz ((own_pw7 p1).trans ((if_neg (by decide)).trans (if_neg (by decide))).symm)
theorem own_t1_0 (p1 : Int64) (p3 : Int32) : ¬ ((own_vat0 (1 : Int32) p3 p1 (nar .byte ((((((p1.toUInt64 >>> ((32 : Int32) &&& 0x3f).toInt64.toUInt64).toInt64).toInt32).toUInt32 >>> ((24 : Int32) &&& 31).toUInt32).toInt32).toInt8.toInt32))) = (0 : Int32)) :=
  own_nz ((own_pw0 p1).trans ((if_neg (by decide)).trans (if_neg (by decide))).symm)
theorem own_t1_1 (p1 : Int64) (p3 : Int32) : ¬ ((own_vat1 (1 : Int32) p3 p1 (nar .byte (((p3.toUInt32 >>> ((8 : Int32) &&& 31).toUInt32).toInt32).toInt8.toInt32))) = (0 : Int32)) :=
  own_nz ((own_phi p3).trans (if_pos rfl).symm)
theorem own_t1_2 (p1 : Int64) (p3 : Int32) : ¬ ((own_vat2 (1 : Int32) p3 p1 (nar .byte (p3.toInt8.toInt32))) = (0 : Int32)) :=
  own_nz ((own_plo p3).trans ((if_neg (by decide)).trans (if_pos (by decide))).symm)
theorem own_t1_3 (p1 : Int64) (p3 : Int32) : ¬ ((own_vat3 (1 : Int32) p3 p1 (nar .byte ((((((p1.toUInt64 >>> ((32 : Int32) &&& 0x3f).toInt64.toUInt64).toInt64).toInt32).toUInt32 >>> ((0 : Int32) &&& 31).toUInt32).toInt32).toInt8.toInt32))) = (0 : Int32)) :=
  own_nz ((own_pw3 p1).trans ((if_neg (by decide)).trans (if_neg (by decide))).symm)
theorem own_t1_4 (p1 : Int64) (p3 : Int32) : ¬ ((own_vat4 (1 : Int32) p3 p1 (nar .byte ((((p1.toInt32).toUInt32 >>> ((24 : Int32) &&& 31).toUInt32).toInt32).toInt8.toInt32))) = (0 : Int32)) :=
  own_nz ((own_pw4 p1).trans ((if_neg (by decide)).trans (if_neg (by decide))).symm)
theorem own_t1_5 (p1 : Int64) (p3 : Int32) : ¬ ((own_vat5 (1 : Int32) p3 p1 (nar .byte ((((p1.toInt32).toUInt32 >>> ((16 : Int32) &&& 31).toUInt32).toInt32).toInt8.toInt32))) = (0 : Int32)) :=
  own_nz ((own_pw5 p1).trans ((if_neg (by decide)).trans (if_neg (by decide))).symm)
theorem own_t1_6 (p1 : Int64) (p3 : Int32) : ¬ ((own_vat6 (1 : Int32) p3 p1 (nar .byte ((((p1.toInt32).toUInt32 >>> ((8 : Int32) &&& 31).toUInt32).toInt32).toInt8.toInt32))) = (0 : Int32)) :=
  own_nz ((own_pw6 p1).trans ((if_neg (by decide)).trans (if_neg (by decide))).symm)
theorem own_t1_7 (p1 : Int64) (p3 : Int32) : ¬ ((own_vat7 (1 : Int32) p3 p1 (nar .byte ((((p1.toInt32).toUInt32 >>> ((0 : Int32) &&& 31).toUInt32).toInt32).toInt8.toInt32))) = (0 : Int32)) :=
  own_nz ((own_pw7 p1).trans ((if_neg (by decide)).trans (if_neg (by decide))).symm)
theorem own_t2_0 (p1 : Int64) (p3 : Int32) : ¬ ((own_vat0 (2 : Int32) p3 p1 (nar .byte ((((((p1.toUInt64 >>> ((32 : Int32) &&& 0x3f).toInt64.toUInt64).toInt64).toInt32).toUInt32 >>> ((24 : Int32) &&& 31).toUInt32).toInt32).toInt8.toInt32))) = (0 : Int32)) :=
  own_nz ((own_pw0 p1).trans ((if_neg (by decide)).trans (if_neg (by decide))).symm)
theorem own_t2_1 (p1 : Int64) (p3 : Int32) : ¬ ((own_vat1 (2 : Int32) p3 p1 (nar .byte ((((((p1.toUInt64 >>> ((32 : Int32) &&& 0x3f).toInt64.toUInt64).toInt64).toInt32).toUInt32 >>> ((16 : Int32) &&& 31).toUInt32).toInt32).toInt8.toInt32))) = (0 : Int32)) :=
  own_nz ((own_pw1 p1).trans ((if_neg (by decide)).trans (if_neg (by decide))).symm)
theorem own_t2_2 (p1 : Int64) (p3 : Int32) : ¬ ((own_vat2 (2 : Int32) p3 p1 (nar .byte (((p3.toUInt32 >>> ((8 : Int32) &&& 31).toUInt32).toInt32).toInt8.toInt32))) = (0 : Int32)) :=
  own_nz ((own_phi p3).trans (if_pos rfl).symm)
theorem own_t2_3 (p1 : Int64) (p3 : Int32) : ¬ ((own_vat3 (2 : Int32) p3 p1 (nar .byte (p3.toInt8.toInt32))) = (0 : Int32)) :=
  own_nz ((own_plo p3).trans ((if_neg (by decide)).trans (if_pos (by decide))).symm)
theorem own_t2_4 (p1 : Int64) (p3 : Int32) : ¬ ((own_vat4 (2 : Int32) p3 p1 (nar .byte ((((p1.toInt32).toUInt32 >>> ((24 : Int32) &&& 31).toUInt32).toInt32).toInt8.toInt32))) = (0 : Int32)) :=
  own_nz ((own_pw4 p1).trans ((if_neg (by decide)).trans (if_neg (by decide))).symm)
theorem own_t2_5 (p1 : Int64) (p3 : Int32) : ¬ ((own_vat5 (2 : Int32) p3 p1 (nar .byte ((((p1.toInt32).toUInt32 >>> ((16 : Int32) &&& 31).toUInt32).toInt32).toInt8.toInt32))) = (0 : Int32)) :=
  own_nz ((own_pw5 p1).trans ((if_neg (by decide)).trans (if_neg (by decide))).symm)
theorem own_t2_6 (p1 : Int64) (p3 : Int32) : ¬ ((own_vat6 (2 : Int32) p3 p1 (nar .byte ((((p1.toInt32).toUInt32 >>> ((8 : Int32) &&& 31).toUInt32).toInt32).toInt8.toInt32))) = (0 : Int32)) :=
  own_nz ((own_pw6 p1).trans ((if_neg (by decide)).trans (if_neg (by decide))).symm)
theorem own_t2_7 (p1 : Int64) (p3 : Int32) : ¬ ((own_vat7 (2 : Int32) p3 p1 (nar .byte ((((p1.toInt32).toUInt32 >>> ((0 : Int32) &&& 31).toUInt32).toInt32).toInt8.toInt32))) = (0 : Int32)) :=
  own_nz ((own_pw7 p1).trans ((if_neg (by decide)).trans (if_neg (by decide))).symm)
theorem own_t3_0 (p1 : Int64) (p3 : Int32) : ¬ ((own_vat0 (3 : Int32) p3 p1 (nar .byte ((((((p1.toUInt64 >>> ((32 : Int32) &&& 0x3f).toInt64.toUInt64).toInt64).toInt32).toUInt32 >>> ((24 : Int32) &&& 31).toUInt32).toInt32).toInt8.toInt32))) = (0 : Int32)) :=
  own_nz ((own_pw0 p1).trans ((if_neg (by decide)).trans (if_neg (by decide))).symm)
theorem own_t3_1 (p1 : Int64) (p3 : Int32) : ¬ ((own_vat1 (3 : Int32) p3 p1 (nar .byte ((((((p1.toUInt64 >>> ((32 : Int32) &&& 0x3f).toInt64.toUInt64).toInt64).toInt32).toUInt32 >>> ((16 : Int32) &&& 31).toUInt32).toInt32).toInt8.toInt32))) = (0 : Int32)) :=
  own_nz ((own_pw1 p1).trans ((if_neg (by decide)).trans (if_neg (by decide))).symm)
theorem own_t3_2 (p1 : Int64) (p3 : Int32) : ¬ ((own_vat2 (3 : Int32) p3 p1 (nar .byte ((((((p1.toUInt64 >>> ((32 : Int32) &&& 0x3f).toInt64.toUInt64).toInt64).toInt32).toUInt32 >>> ((8 : Int32) &&& 31).toUInt32).toInt32).toInt8.toInt32))) = (0 : Int32)) :=
  own_nz ((own_pw2 p1).trans ((if_neg (by decide)).trans (if_neg (by decide))).symm)
theorem own_t3_3 (p1 : Int64) (p3 : Int32) : ¬ ((own_vat3 (3 : Int32) p3 p1 (nar .byte (((p3.toUInt32 >>> ((8 : Int32) &&& 31).toUInt32).toInt32).toInt8.toInt32))) = (0 : Int32)) :=
  own_nz ((own_phi p3).trans (if_pos rfl).symm)
theorem own_t3_4 (p1 : Int64) (p3 : Int32) : ¬ ((own_vat4 (3 : Int32) p3 p1 (nar .byte (p3.toInt8.toInt32))) = (0 : Int32)) :=
  own_nz ((own_plo p3).trans ((if_neg (by decide)).trans (if_pos (by decide))).symm)
theorem own_t3_5 (p1 : Int64) (p3 : Int32) : ¬ ((own_vat5 (3 : Int32) p3 p1 (nar .byte ((((p1.toInt32).toUInt32 >>> ((16 : Int32) &&& 31).toUInt32).toInt32).toInt8.toInt32))) = (0 : Int32)) :=
  own_nz ((own_pw5 p1).trans ((if_neg (by decide)).trans (if_neg (by decide))).symm)
theorem own_t3_6 (p1 : Int64) (p3 : Int32) : ¬ ((own_vat6 (3 : Int32) p3 p1 (nar .byte ((((p1.toInt32).toUInt32 >>> ((8 : Int32) &&& 31).toUInt32).toInt32).toInt8.toInt32))) = (0 : Int32)) :=
  own_nz ((own_pw6 p1).trans ((if_neg (by decide)).trans (if_neg (by decide))).symm)
theorem own_t3_7 (p1 : Int64) (p3 : Int32) : ¬ ((own_vat7 (3 : Int32) p3 p1 (nar .byte ((((p1.toInt32).toUInt32 >>> ((0 : Int32) &&& 31).toUInt32).toInt32).toInt8.toInt32))) = (0 : Int32)) :=
  own_nz ((own_pw7 p1).trans ((if_neg (by decide)).trans (if_neg (by decide))).symm)
theorem own_t4_0 (p1 : Int64) (p3 : Int32) : ¬ ((own_vat0 (4 : Int32) p3 p1 (nar .byte ((((((p1.toUInt64 >>> ((32 : Int32) &&& 0x3f).toInt64.toUInt64).toInt64).toInt32).toUInt32 >>> ((24 : Int32) &&& 31).toUInt32).toInt32).toInt8.toInt32))) = (0 : Int32)) :=
  own_nz ((own_pw0 p1).trans ((if_neg (by decide)).trans (if_neg (by decide))).symm)
theorem own_t4_1 (p1 : Int64) (p3 : Int32) : ¬ ((own_vat1 (4 : Int32) p3 p1 (nar .byte ((((((p1.toUInt64 >>> ((32 : Int32) &&& 0x3f).toInt64.toUInt64).toInt64).toInt32).toUInt32 >>> ((16 : Int32) &&& 31).toUInt32).toInt32).toInt8.toInt32))) = (0 : Int32)) :=
  own_nz ((own_pw1 p1).trans ((if_neg (by decide)).trans (if_neg (by decide))).symm)
theorem own_t4_2 (p1 : Int64) (p3 : Int32) : ¬ ((own_vat2 (4 : Int32) p3 p1 (nar .byte ((((((p1.toUInt64 >>> ((32 : Int32) &&& 0x3f).toInt64.toUInt64).toInt64).toInt32).toUInt32 >>> ((8 : Int32) &&& 31).toUInt32).toInt32).toInt8.toInt32))) = (0 : Int32)) :=
  own_nz ((own_pw2 p1).trans ((if_neg (by decide)).trans (if_neg (by decide))).symm)
theorem own_t4_3 (p1 : Int64) (p3 : Int32) : ¬ ((own_vat3 (4 : Int32) p3 p1 (nar .byte ((((((p1.toUInt64 >>> ((32 : Int32) &&& 0x3f).toInt64.toUInt64).toInt64).toInt32).toUInt32 >>> ((0 : Int32) &&& 31).toUInt32).toInt32).toInt8.toInt32))) = (0 : Int32)) :=
  own_nz ((own_pw3 p1).trans ((if_neg (by decide)).trans (if_neg (by decide))).symm)
theorem own_t4_4 (p1 : Int64) (p3 : Int32) : ¬ ((own_vat4 (4 : Int32) p3 p1 (nar .byte (((p3.toUInt32 >>> ((8 : Int32) &&& 31).toUInt32).toInt32).toInt8.toInt32))) = (0 : Int32)) :=
  own_nz ((own_phi p3).trans (if_pos rfl).symm)
theorem own_t4_5 (p1 : Int64) (p3 : Int32) : ¬ ((own_vat5 (4 : Int32) p3 p1 (nar .byte (p3.toInt8.toInt32))) = (0 : Int32)) :=
  own_nz ((own_plo p3).trans ((if_neg (by decide)).trans (if_pos (by decide))).symm)
theorem own_t4_6 (p1 : Int64) (p3 : Int32) : ¬ ((own_vat6 (4 : Int32) p3 p1 (nar .byte ((((p1.toInt32).toUInt32 >>> ((8 : Int32) &&& 31).toUInt32).toInt32).toInt8.toInt32))) = (0 : Int32)) :=
  own_nz ((own_pw6 p1).trans ((if_neg (by decide)).trans (if_neg (by decide))).symm)
theorem own_t4_7 (p1 : Int64) (p3 : Int32) : ¬ ((own_vat7 (4 : Int32) p3 p1 (nar .byte ((((p1.toInt32).toUInt32 >>> ((0 : Int32) &&& 31).toUInt32).toInt32).toInt8.toInt32))) = (0 : Int32)) :=
  own_nz ((own_pw7 p1).trans ((if_neg (by decide)).trans (if_neg (by decide))).symm)
theorem own_t5_0 (p1 : Int64) (p3 : Int32) : ¬ ((own_vat0 (5 : Int32) p3 p1 (nar .byte ((((((p1.toUInt64 >>> ((32 : Int32) &&& 0x3f).toInt64.toUInt64).toInt64).toInt32).toUInt32 >>> ((24 : Int32) &&& 31).toUInt32).toInt32).toInt8.toInt32))) = (0 : Int32)) :=
  own_nz ((own_pw0 p1).trans ((if_neg (by decide)).trans (if_neg (by decide))).symm)
theorem own_t5_1 (p1 : Int64) (p3 : Int32) : ¬ ((own_vat1 (5 : Int32) p3 p1 (nar .byte ((((((p1.toUInt64 >>> ((32 : Int32) &&& 0x3f).toInt64.toUInt64).toInt64).toInt32).toUInt32 >>> ((16 : Int32) &&& 31).toUInt32).toInt32).toInt8.toInt32))) = (0 : Int32)) :=
  own_nz ((own_pw1 p1).trans ((if_neg (by decide)).trans (if_neg (by decide))).symm)
theorem own_t5_2 (p1 : Int64) (p3 : Int32) : ¬ ((own_vat2 (5 : Int32) p3 p1 (nar .byte ((((((p1.toUInt64 >>> ((32 : Int32) &&& 0x3f).toInt64.toUInt64).toInt64).toInt32).toUInt32 >>> ((8 : Int32) &&& 31).toUInt32).toInt32).toInt8.toInt32))) = (0 : Int32)) :=
  own_nz ((own_pw2 p1).trans ((if_neg (by decide)).trans (if_neg (by decide))).symm)
theorem own_t5_3 (p1 : Int64) (p3 : Int32) : ¬ ((own_vat3 (5 : Int32) p3 p1 (nar .byte ((((((p1.toUInt64 >>> ((32 : Int32) &&& 0x3f).toInt64.toUInt64).toInt64).toInt32).toUInt32 >>> ((0 : Int32) &&& 31).toUInt32).toInt32).toInt8.toInt32))) = (0 : Int32)) :=
  own_nz ((own_pw3 p1).trans ((if_neg (by decide)).trans (if_neg (by decide))).symm)
theorem own_t5_4 (p1 : Int64) (p3 : Int32) : ¬ ((own_vat4 (5 : Int32) p3 p1 (nar .byte ((((p1.toInt32).toUInt32 >>> ((24 : Int32) &&& 31).toUInt32).toInt32).toInt8.toInt32))) = (0 : Int32)) :=
  own_nz ((own_pw4 p1).trans ((if_neg (by decide)).trans (if_neg (by decide))).symm)
theorem own_t5_5 (p1 : Int64) (p3 : Int32) : ¬ ((own_vat5 (5 : Int32) p3 p1 (nar .byte (((p3.toUInt32 >>> ((8 : Int32) &&& 31).toUInt32).toInt32).toInt8.toInt32))) = (0 : Int32)) :=
  own_nz ((own_phi p3).trans (if_pos rfl).symm)
theorem own_t5_6 (p1 : Int64) (p3 : Int32) : ¬ ((own_vat6 (5 : Int32) p3 p1 (nar .byte (p3.toInt8.toInt32))) = (0 : Int32)) :=
  own_nz ((own_plo p3).trans ((if_neg (by decide)).trans (if_pos (by decide))).symm)
theorem own_t5_7 (p1 : Int64) (p3 : Int32) : ¬ ((own_vat7 (5 : Int32) p3 p1 (nar .byte ((((p1.toInt32).toUInt32 >>> ((0 : Int32) &&& 31).toUInt32).toInt32).toInt8.toInt32))) = (0 : Int32)) :=
  own_nz ((own_pw7 p1).trans ((if_neg (by decide)).trans (if_neg (by decide))).symm)
theorem own_t6_0 (p1 : Int64) (p3 : Int32) : ¬ ((own_vat0 (6 : Int32) p3 p1 (nar .byte ((((((p1.toUInt64 >>> ((32 : Int32) &&& 0x3f).toInt64.toUInt64).toInt64).toInt32).toUInt32 >>> ((24 : Int32) &&& 31).toUInt32).toInt32).toInt8.toInt32))) = (0 : Int32)) :=
  own_nz ((own_pw0 p1).trans ((if_neg (by decide)).trans (if_neg (by decide))).symm)
theorem own_t6_1 (p1 : Int64) (p3 : Int32) : ¬ ((own_vat1 (6 : Int32) p3 p1 (nar .byte ((((((p1.toUInt64 >>> ((32 : Int32) &&& 0x3f).toInt64.toUInt64).toInt64).toInt32).toUInt32 >>> ((16 : Int32) &&& 31).toUInt32).toInt32).toInt8.toInt32))) = (0 : Int32)) :=
  own_nz ((own_pw1 p1).trans ((if_neg (by decide)).trans (if_neg (by decide))).symm)
theorem own_t6_2 (p1 : Int64) (p3 : Int32) : ¬ ((own_vat2 (6 : Int32) p3 p1 (nar .byte ((((((p1.toUInt64 >>> ((32 : Int32) &&& 0x3f).toInt64.toUInt64).toInt64).toInt32).toUInt32 >>> ((8 : Int32) &&& 31).toUInt32).toInt32).toInt8.toInt32))) = (0 : Int32)) :=
  own_nz ((own_pw2 p1).trans ((if_neg (by decide)).trans (if_neg (by decide))).symm)
theorem own_t6_3 (p1 : Int64) (p3 : Int32) : ¬ ((own_vat3 (6 : Int32) p3 p1 (nar .byte ((((((p1.toUInt64 >>> ((32 : Int32) &&& 0x3f).toInt64.toUInt64).toInt64).toInt32).toUInt32 >>> ((0 : Int32) &&& 31).toUInt32).toInt32).toInt8.toInt32))) = (0 : Int32)) :=
  own_nz ((own_pw3 p1).trans ((if_neg (by decide)).trans (if_neg (by decide))).symm)
theorem own_t6_4 (p1 : Int64) (p3 : Int32) : ¬ ((own_vat4 (6 : Int32) p3 p1 (nar .byte ((((p1.toInt32).toUInt32 >>> ((24 : Int32) &&& 31).toUInt32).toInt32).toInt8.toInt32))) = (0 : Int32)) :=
  own_nz ((own_pw4 p1).trans ((if_neg (by decide)).trans (if_neg (by decide))).symm)
theorem own_t6_5 (p1 : Int64) (p3 : Int32) : ¬ ((own_vat5 (6 : Int32) p3 p1 (nar .byte ((((p1.toInt32).toUInt32 >>> ((16 : Int32) &&& 31).toUInt32).toInt32).toInt8.toInt32))) = (0 : Int32)) :=
  own_nz ((own_pw5 p1).trans ((if_neg (by decide)).trans (if_neg (by decide))).symm)
theorem own_t6_6 (p1 : Int64) (p3 : Int32) : ¬ ((own_vat6 (6 : Int32) p3 p1 (nar .byte (((p3.toUInt32 >>> ((8 : Int32) &&& 31).toUInt32).toInt32).toInt8.toInt32))) = (0 : Int32)) :=
  own_nz ((own_phi p3).trans (if_pos rfl).symm)
theorem own_t6_7 (p1 : Int64) (p3 : Int32) : ¬ ((own_vat7 (6 : Int32) p3 p1 (nar .byte (p3.toInt8.toInt32))) = (0 : Int32)) :=
  own_nz ((own_plo p3).trans ((if_neg (by decide)).trans (if_pos (by decide))).symm)
theorem own_pd4 : parseMethodDescriptor "()V" = some ⟨[], none⟩ := by decide +kernel
theorem own_pd5 : parseMethodDescriptor "(J)Lcom/example/reckoner/reckoner/Bytes;" = some ⟨[.long], some (.object "com/example/reckoner/reckoner/Bytes")⟩ := by decide +kernel
theorem own_pd6 : parseMethodDescriptor "(II)V" = some ⟨[.int, .int], none⟩ := by decide +kernel
theorem own_pd7 : parseMethodDescriptor "()[B" = some ⟨[], some (.array .byte)⟩ := by decide +kernel
theorem own_pd8 : parseMethodDescriptor "()I" = some ⟨[], some .int⟩ := by decide +kernel
theorem own_pd9 : parseMethodDescriptor "([BIIIJ)Z" = some ⟨[(.array .byte), .int, .int, .int, .long], some .boolean⟩ := by decide +kernel
theorem own_ef0 (m : MethodId) (x0 : Int64) (x1 : Int32) (x2 : Int32) : entryFrame m #[(.long x0), (.int x1), (.int x2)] maxLocals = mkF m 0 #[.val (.long x0), .second, .val (.int x1), .val (.int x2), .unset, .unset, .unset] [] := by first | (simp [entryFrame, mkF, argsToLocals, Value.category, maxLocals]; done) | rfl
def own_Q0 (Z : State) (p1 : Int64) (p2 : Int32) (p3 : Int32) (h0 : Heap) (n0 : Nat) (v : Option Value) (h : Heap) (L : List Loc) : Prop := v = some (.int (1 : Int32)) ∧ Fr n0 L
set_option maxRecDepth 65536 in
set_option maxHeartbeats 40000000 in
theorem own_rm0 (l : Launch) (Z : State) (a0 : Array Value) (hw : ∀ d ∈ tables_1, d.before a0 Z = true) (ws : List Jvm.Cond) (p1 : Int64) (p2 : Int32) (p3 : Int32) (h0 : Heap) (n0 : Nat) (Z0 : n0 ≤ h0.size) :
    MetFree l x (head1 (Jvm.Cond.code x code maxLocals ret :: ws) room_1) (fun aa U => aa = #[(.long p1), (.int p2), (.int p3)] ∧ Z.Warmed39 U.vm ∧ U.heap = h0) (fun _ _ _ _ _ => True) (fun _ U o U' => ∃ v L, o = .returned v ∧ own_Q0 Z p1 p2 p3 h0 n0 v U'.heap L ∧ FrameEnd U o U' L room_1.cells room_1.slots) := by
  refine MetFree.of_bodySF (plainFor_of_name own_pn2) hisR ?_
  intro p e s m args below meth c s₁ Bd hml0 hP hK
  obtain ⟨rfl, hZ, hh⟩ := hP
  have hx := Bd.exec
  have hby := Bd.bytes
  have hml : c.maxLocals = 7 := hml0
  have hown : s.vm.findClass "com/example/reckoner/reckoner/BytesSetU2PinLaw" = some m.cls := findClass_of_methodNamed Bd.named
  have hnm := (name_of_methodNamed Bd.named Bd.method).1
  have X0 : Stand p l e room_1 s m #[(.long p1), (.int p2), (.int p3)] below meth c s₁ [] 0 0 := Stand.of_body Bd
  have e0 : s₁.heap = h0 := by rw [← hh, Bd.state]; rfl
  have N0 := Fr.nil n0
  have pre0 : ∀ t, Steps p.tables e below (s₁.setTop (mkF m 0 #[.val (.long p1), .second, .val (.int p2), .val (.int p3), .unset, .unset, .unset] [])) t → Steps p.tables e below (s₁.setTop (entryFrame m #[(.long p1), (.int p2), (.int p3)] maxLocals)) t := fun t k => castTop (own_ef0 m p1 p2 p3) k
  obtain ⟨T1, h1, X1, e1, E1, A1, D1, -, st1⟩ := newO X0 hx hZ hown (hw _ (List.mem_of_getElem? (i := 0) rfl)) (hw _ (List.mem_of_getElem? (i := 1) rfl)) (hw _ (List.mem_of_getElem? (i := 2) rfl)) e0 (g := (mkF m 0 #[.val (.long p1), .second, .val (.int p2), .val (.int p3), .unset, .unset, .unset] [])) rfl (hb hby at_0) (by decide) (by decide)
  obtain ⟨b1, g1⟩ : ∃ z, z = h0.size := ⟨_, rfl⟩
  rw [← g1] at A1 D1 st1
  have ge1 : n0 ≤ b1 := Nat.le_trans Z0 (Nat.le_of_eq g1.symm)
  have bo1 : h0.size ≤ b1 := Nat.le_trans (Keep.refl h0 []).1 (Nat.le_of_eq g1.symm)
  have Z1 : n0 ≤ h1.size := Nat.le_trans Z0 E1.1
  have K1 : Keep h0 h1 [] := (Keep.refl h0 []).ext E1
  have f2 : Fld Z h1 b1 "com/example/reckoner/reckoner/Bytes" "bytes" "[B" .null := D1 (Or.inl (hw _ (List.mem_of_getElem? (i := 11) rfl))) (ty := (.array .byte)) (by decide)
  have f3 : Fld Z h1 b1 "com/example/reckoner/reckoner/Bytes" "length" "I" (.int (0 : Int32)) := D1 (Or.inl (hw _ (List.mem_of_getElem? (i := 27) rfl))) (ty := .int) (by decide)
  have k4 : ∀ t, Steps p.tables e below (T1.setTop (mkF m 3 #[.val (.long p1), .second, .val (.int p2), .val (.int p3), .unset, .unset, .unset] [(.ref b1)])) t → Steps p.tables e below (s₁.setTop (entryFrame m #[(.long p1), (.int p2), (.int p3)] maxLocals)) t := fun t k => pre0 t (st1 t k)
  have k5 : ∀ t, Steps p.tables e below (T1.setTop (mkF m 4 #[.val (.long p1), .second, .val (.int p2), .val (.int p3), .unset, .unset, .unset] [(.ref b1), (.ref b1)])) t → Steps p.tables e below (s₁.setTop (entryFrame m #[(.long p1), (.int p2), (.int p3)] maxLocals)) t := by
    intro t k
    refine k4 t ?_
    show Steps p.tables e below (T1.setTop (mkF m 3 #[.val (.long p1), .second, .val (.int p2), .val (.int p3), .unset, .unset, .unset] [(.ref b1)])) _
    refine XS.dup X1.here hx rfl (hb hby at_3) rfl rfl ?_
    exact k
  obtain ⟨_, _, ⟨T6, L6, k6c, n6⟩, -, X6, ⟨Lc6, hQ6, l6, y6, z6⟩, st6⟩ := X1.specialBack hx (y := (⟨"com/example/reckoner/reckoner/Bytes", "<init>", "()V"⟩ : MethodName)) rfl hown (mvT hZ (hw _ (List.mem_of_getElem? (i := 3) rfl))) (mvT hZ (hw _ (List.mem_of_getElem? (i := 4) rfl))) (mvT hZ (hw _ (List.mem_of_getElem? (i := 5) rfl))) (by decide) (backOf (W := 1) (own_rmin l Z a0 hw [] b1 .null h1 n0 Z1 A1 f2 f3 ge1) hZ (hw _ (List.mem_of_getElem? (i := 5) rfl)) (hw _ (List.mem_of_getElem? (i := 2) rfl)) (by decide) (by decide)) (g := (mkF m 4 #[.val (.long p1), .second, .val (.int p2), .val (.int p3), .unset, .unset, .unset] [(.ref b1), (.ref b1)])) rfl (by rw [hml]; rfl) (Steps.refl _) (a := b1) (argsL := []) (rest := [(.ref b1)]) (lenOf own_pd4 rfl) rfl (by show 2 * 0 + _ ≤ _; exact Nat.le_of_eq rfl) (hb hby at_4) (fun _ _ => ⟨rfl, e1, (by decide : 1 + 1 ≤ _), (by decide : 2 + 64 ≤ _)⟩)
  dsimp only [Pt.U, Pt.locs, Pt.cells, Pt.slots] at X6 l6 y6 z6 st6 hQ6
  subst l6 y6 z6
  obtain ⟨ar6, cc6, rfl, N6q, Kq6, Eq6, Fa6, Fb6, Vq6, ge6, ne6x⟩ := hQ6
  have N6 := Fr.app N0 N6q
  have Z6 : n0 ≤ T6.heap.size := Nat.le_trans Z1 Kq6.1
  have k7 : ∀ t, Steps p.tables e below (T6.setTop (mkF m 7 #[.val (.long p1), .second, .val (.int p2), .val (.int p3), .unset, .unset, .unset] [(.ref b1)])) t → Steps p.tables e below (s₁.setTop (entryFrame m #[(.long p1), (.int p2), (.int p3)] maxLocals)) t := fun t k => k5 t (st6.trans k)
  have k8 : ∀ t, Steps p.tables e below (T6.setTop (mkF m 12 #[.val (.long p1), .second, .val (.int p2), .val (.int p3), .val (.ref b1), .unset, .unset] [(.long p1), (.ref b1)])) t → Steps p.tables e below (s₁.setTop (entryFrame m #[(.long p1), (.int p2), (.int p3)] maxLocals)) t := by
    intro t k
    refine k7 t ?_
    show Steps p.tables e below (T6.setTop (mkF m 7 #[.val (.long p1), .second, .val (.int p2), .val (.int p3), .unset, .unset, .unset] [(.ref b1)])) _
    refine XS.astore X6.here hx rfl (hb hby at_7) rfl rfl (l' := #[.val (.long p1), .second, .val (.int p2), .val (.int p3), .val (.ref b1), .unset, .unset]) rfl ?_
    show Steps p.tables e below (T6.setTop (mkF m 9 #[.val (.long p1), .second, .val (.int p2), .val (.int p3), .val (.ref b1), .unset, .unset] [])) _
    refine XS.aload X6.here hx rfl (hb hby at_9) rfl rfl ?_
    show Steps p.tables e below (T6.setTop (mkF m 11 #[.val (.long p1), .second, .val (.int p2), .val (.int p3), .val (.ref b1), .unset, .unset] [(.ref b1)])) _
    refine XS.lloadN X6.here hx rfl (hb hby at_11) rfl ?_
    exact k
  obtain ⟨cq9, kq9, q9a, q9b, q9c⟩ := isOf hZ rfl Eq6
  obtain ⟨_, _, ⟨T9, L9, k9c, n9⟩, -, X9, ⟨Lc9, hQ9, l9, y9, z9⟩, st9⟩ := X6.virtualBack hx (y := (⟨"com/example/reckoner/reckoner/Bytes", "u8", "(J)Lcom/example/reckoner/reckoner/Bytes;"⟩ : MethodName)) (z := (⟨"com/example/reckoner/reckoner/Bytes", "u8", "(J)Lcom/example/reckoner/reckoner/Bytes;"⟩ : MethodName)) hown (mvT hZ (hw _ (List.mem_of_getElem? (i := 12) rfl))) (mvT hZ (hw _ (List.mem_of_getElem? (i := 13) rfl))) (notFace_of_selects (args := #[]) (mvT hZ (hw _ (List.mem_of_getElem? (i := 15) rfl)))) (mvT hZ (hw _ (List.mem_of_getElem? (i := 15) rfl))) (mvT hZ (hw _ (List.mem_of_getElem? (i := 14) rfl))) (by decide) (backOf (W := 0) (own_rmu8 l Z a0 hw [] b1 p1 ar6 cc6 (0 : Int32) (0 : Int32) (0 : Int32) (0 : Int32) (0 : Int32) (0 : Int32) (0 : Int32) (0 : Int32) T6.heap n0 Z6 Eq6 Fa6 Fb6 Vq6 ge1 ge6 ne6x) hZ (hw _ (List.mem_of_getElem? (i := 16) rfl)) (hw _ (List.mem_of_getElem? (i := 2) rfl)) (by decide) (by decide)) q9a q9c (g := (mkF m 12 #[.val (.long p1), .second, .val (.int p2), .val (.int p3), .val (.ref b1), .unset, .unset] [(.long p1), (.ref b1)])) rfl (by rw [hml]; rfl) (Steps.refl _) (argsL := [(.long p1)]) (rest := []) (lenOf own_pd5 rfl) rfl (by show 2 * 0 + _ ≤ _; exact Nat.le_of_eq rfl) (hb hby at_12) (fun _ _ => ⟨rfl, rfl, (by decide : 2 + 0 ≤ _), (by decide : 66 + 0 ≤ _)⟩)
  dsimp only [Pt.U, Pt.locs, Pt.cells, Pt.slots] at X9 l9 y9 z9 st9 hQ9
  subst l9 y9 z9
  obtain ⟨rfl, N9q, Kq9, Eq9, Fa9, Fb9, Vq9⟩ := hQ9
  have N9 := Fr.app N6 N9q
  have Z9 : n0 ≤ T9.heap.size := Nat.le_trans Z6 Kq9.1
  have k10 : ∀ t, Steps p.tables e below (T9.setTop (mkF m 15 #[.val (.long p1), .second, .val (.int p2), .val (.int p3), .val (.ref b1), .unset, .unset] [(.ref b1)])) t → Steps p.tables e below (s₁.setTop (entryFrame m #[(.long p1), (.int p2), (.int p3)] maxLocals)) t := fun t k => k8 t (st9.trans k)
  have k11 : ∀ t, Steps p.tables e below (T9.setTop (mkF m 25 #[.val (.long p1), .second, .val (.int p2), .val (.int p3), .val (.ref b1), .val (.int (own_off p2)), .unset] [])) t → Steps p.tables e below (s₁.setTop (entryFrame m #[(.long p1), (.int p2), (.int p3)] maxLocals)) t := by
    intro t k
    refine k10 t ?_
    show Steps p.tables e below (T9.setTop (mkF m 15 #[.val (.long p1), .second, .val (.int p2), .val (.int p3), .val (.ref b1), .unset, .unset] [(.ref b1)])) _
    refine XS.pop X9.here hx rfl (hb hby at_15) rfl rfl ?_
    show Steps p.tables e below (T9.setTop (mkF m 16 #[.val (.long p1), .second, .val (.int p2), .val (.int p3), .val (.ref b1), .unset, .unset] [])) _
    refine XS.iloadN X9.here hx rfl (hb hby at_16) rfl ?_
    show Steps p.tables e below (T9.setTop (mkF m 17 #[.val (.long p1), .second, .val (.int p2), .val (.int p3), .val (.ref b1), .unset, .unset] [(.int p2)])) _
    refine X9.ldcInt hx hown (mvT hZ (hw _ (List.mem_of_getElem? (i := 28) rfl))) (g := (mkF m 17 #[.val (.long p1), .second, .val (.int p2), .val (.int p3), .val (.ref b1), .unset, .unset] [(.int p2)])) rfl (hb hby at_17) _ ?_
    show Steps p.tables e below (T9.setTop (mkF m 19 #[.val (.long p1), .second, .val (.int p2), .val (.int p3), .val (.ref b1), .unset, .unset] [(.int (2147483647 : Int32)), (.int p2)])) _
    refine XS.iand X9.here hx rfl (hb hby at_19) rfl ?_
    show Steps p.tables e below (T9.setTop (mkF m 20 #[.val (.long p1), .second, .val (.int p2), .val (.int p3), .val (.ref b1), .unset, .unset] [(.int (p2 &&& (2147483647 : Int32)))])) _
    refine XS.bipush X9.here hx rfl (hb hby at_20) ?_
    show Steps p.tables e below (T9.setTop (mkF m 22 #[.val (.long p1), .second, .val (.int p2), .val (.int p3), .val (.ref b1), .unset, .unset] [(.int (7 : Int32)), (.int (p2 &&& (2147483647 : Int32)))])) _
    refine iremM X9 hx rfl (hb hby at_22) rfl (by decide) ?_
    show Steps p.tables e below (T9.setTop (mkF m 23 #[.val (.long p1), .second, .val (.int p2), .val (.int p3), .val (.ref b1), .unset, .unset] [(.int ((p2 &&& (2147483647 : Int32)) % (7 : Int32)))])) _
    refine XS.istore X9.here hx rfl (hb hby at_23) rfl (l' := #[.val (.long p1), .second, .val (.int p2), .val (.int p3), .val (.ref b1), .val (.int ((p2 &&& (2147483647 : Int32)) % (7 : Int32))), .unset]) rfl ?_
    exact k
  rcases own_offc p2 with he | he | he | he | he | he | he
  · have k12 : ∀ t, Steps p.tables e below (T9.setTop (mkF m 25 #[.val (.long p1), .second, .val (.int p2), .val (.int p3), .val (.ref b1), .val (.int (0 : Int32)), .unset] [])) t → Steps p.tables e below (s₁.setTop (entryFrame m #[(.long p1), (.int p2), (.int p3)] maxLocals)) t := by have z := k11; rw [he] at z; exact z
    have k13 : ∀ t, Steps p.tables e below (T9.setTop (mkF m 30 #[.val (.long p1), .second, .val (.int p2), .val (.int p3), .val (.ref b1), .val (.int (0 : Int32)), .unset] [(.int p3), (.int (0 : Int32)), (.ref b1)])) t → Steps p.tables e below (s₁.setTop (entryFrame m #[(.long p1), (.int p2), (.int p3)] maxLocals)) t := by
      intro t k
      refine k12 t ?_
      show Steps p.tables e below (T9.setTop (mkF m 25 #[.val (.long p1), .second, .val (.int p2), .val (.int p3), .val (.ref b1), .val (.int (0 : Int32)), .unset] [])) _
      refine XS.aload X9.here hx rfl (hb hby at_25) rfl rfl ?_
      show Steps p.tables e below (T9.setTop (mkF m 27 #[.val (.long p1), .second, .val (.int p2), .val (.int p3), .val (.ref b1), .val (.int (0 : Int32)), .unset] [(.ref b1)])) _
      refine XS.iload X9.here hx rfl (hb hby at_27) rfl ?_
      show Steps p.tables e below (T9.setTop (mkF m 29 #[.val (.long p1), .second, .val (.int p2), .val (.int p3), .val (.ref b1), .val (.int (0 : Int32)), .unset] [(.int (0 : Int32)), (.ref b1)])) _
      refine XS.iloadN X9.here hx rfl (hb hby at_29) rfl ?_
      exact k
    obtain ⟨cq14, kq14, q14a, q14b, q14c⟩ := isOf hZ rfl Eq9
    obtain ⟨_, _, ⟨T14, L14, k14c, n14⟩, -, X14, ⟨Lc14, hQ14, l14, y14, z14⟩, st14⟩ := X9.virtualBack hx (y := (⟨"com/example/reckoner/reckoner/Bytes", "setU2", "(II)V"⟩ : MethodName)) (z := (⟨"com/example/reckoner/reckoner/Bytes", "setU2", "(II)V"⟩ : MethodName)) hown (mvT hZ (hw _ (List.mem_of_getElem? (i := 29) rfl))) (mvT hZ (hw _ (List.mem_of_getElem? (i := 30) rfl))) (notFace_of_selects (args := #[]) (mvT hZ (hw _ (List.mem_of_getElem? (i := 32) rfl)))) (mvT hZ (hw _ (List.mem_of_getElem? (i := 32) rfl))) (mvT hZ (hw _ (List.mem_of_getElem? (i := 31) rfl))) (by decide) (backOf (W := 0) (own_rmsu0 l Z a0 hw [] b1 p3 (8 : Int32) ar6 cc6 (nar .byte ((((((p1.toUInt64 >>> ((32 : Int32) &&& 0x3f).toInt64.toUInt64).toInt64).toInt32).toUInt32 >>> ((24 : Int32) &&& 31).toUInt32).toInt32).toInt8.toInt32)) (nar .byte ((((((p1.toUInt64 >>> ((32 : Int32) &&& 0x3f).toInt64.toUInt64).toInt64).toInt32).toUInt32 >>> ((16 : Int32) &&& 31).toUInt32).toInt32).toInt8.toInt32)) (nar .byte ((((((p1.toUInt64 >>> ((32 : Int32) &&& 0x3f).toInt64.toUInt64).toInt64).toInt32).toUInt32 >>> ((8 : Int32) &&& 31).toUInt32).toInt32).toInt8.toInt32)) (nar .byte ((((((p1.toUInt64 >>> ((32 : Int32) &&& 0x3f).toInt64.toUInt64).toInt64).toInt32).toUInt32 >>> ((0 : Int32) &&& 31).toUInt32).toInt32).toInt8.toInt32)) (nar .byte ((((p1.toInt32).toUInt32 >>> ((24 : Int32) &&& 31).toUInt32).toInt32).toInt8.toInt32)) (nar .byte ((((p1.toInt32).toUInt32 >>> ((16 : Int32) &&& 31).toUInt32).toInt32).toInt8.toInt32)) (nar .byte ((((p1.toInt32).toUInt32 >>> ((8 : Int32) &&& 31).toUInt32).toInt32).toInt8.toInt32)) (nar .byte ((((p1.toInt32).toUInt32 >>> ((0 : Int32) &&& 31).toUInt32).toInt32).toInt8.toInt32)) T9.heap n0 Z9 Eq9 Fa9 Fb9 Vq9 ge1 ge6 ne6x) hZ (hw _ (List.mem_of_getElem? (i := 33) rfl)) (hw _ (List.mem_of_getElem? (i := 2) rfl)) (by decide) (by decide)) q14a q14c (g := (mkF m 30 #[.val (.long p1), .second, .val (.int p2), .val (.int p3), .val (.ref b1), .val (.int (0 : Int32)), .unset] [(.int p3), (.int (0 : Int32)), (.ref b1)])) rfl (by rw [hml]; rfl) (Steps.refl _) (argsL := [(.int (0 : Int32)), (.int p3)]) (rest := []) (lenOf own_pd6 rfl) rfl (by show 2 * 0 + _ ≤ _; exact Nat.le_of_eq rfl) (hb hby at_30) (fun _ _ => ⟨rfl, rfl, (by decide : 2 + 0 ≤ _), (by decide : 66 + 0 ≤ _)⟩)
    dsimp only [Pt.U, Pt.locs, Pt.cells, Pt.slots] at X14 l14 y14 z14 st14 hQ14
    subst l14 y14 z14
    obtain ⟨rfl, N14q, Kq14, Eq14, Fa14, Fb14, Vq14⟩ := hQ14
    have N14 := Fr.app N9 N14q
    have Z14 : n0 ≤ T14.heap.size := Nat.le_trans Z9 Kq14.1
    have k15 : ∀ t, Steps p.tables e below (T14.setTop (mkF m 33 #[.val (.long p1), .second, .val (.int p2), .val (.int p3), .val (.ref b1), .val (.int (0 : Int32)), .unset] [])) t → Steps p.tables e below (s₁.setTop (entryFrame m #[(.long p1), (.int p2), (.int p3)] maxLocals)) t := fun t k => k13 t (st14.trans k)
    have k16 : ∀ t, Steps p.tables e below (T14.setTop (mkF m 35 #[.val (.long p1), .second, .val (.int p2), .val (.int p3), .val (.ref b1), .val (.int (0 : Int32)), .unset] [(.ref b1)])) t → Steps p.tables e below (s₁.setTop (entryFrame m #[(.long p1), (.int p2), (.int p3)] maxLocals)) t := by
      intro t k
      refine k15 t ?_
      show Steps p.tables e below (T14.setTop (mkF m 33 #[.val (.long p1), .second, .val (.int p2), .val (.int p3), .val (.ref b1), .val (.int (0 : Int32)), .unset] [])) _
      refine XS.aload X14.here hx rfl (hb hby at_33) rfl rfl ?_
      exact k
    obtain ⟨cq17, kq17, q17a, q17b, q17c⟩ := isOf hZ rfl Eq14
    obtain ⟨_, _, ⟨T17, L17, k17c, n17⟩, -, X17, ⟨Lc17, hQ17, l17, y17, z17⟩, st17⟩ := X14.virtualBack hx (y := (⟨"com/example/reckoner/reckoner/Bytes", "toArray", "()[B"⟩ : MethodName)) (z := (⟨"com/example/reckoner/reckoner/Bytes", "toArray", "()[B"⟩ : MethodName)) hown (mvT hZ (hw _ (List.mem_of_getElem? (i := 34) rfl))) (mvT hZ (hw _ (List.mem_of_getElem? (i := 35) rfl))) (notFace_of_selects (args := #[]) (mvT hZ (hw _ (List.mem_of_getElem? (i := 37) rfl)))) (mvT hZ (hw _ (List.mem_of_getElem? (i := 37) rfl))) (mvT hZ (hw _ (List.mem_of_getElem? (i := 36) rfl))) (by decide) (backOf (W := 0) (own_rmta l Z a0 hw [] b1 ar6 cc6 (nar .byte (((p3.toUInt32 >>> ((8 : Int32) &&& 31).toUInt32).toInt32).toInt8.toInt32)) (nar .byte (p3.toInt8.toInt32)) (nar .byte ((((((p1.toUInt64 >>> ((32 : Int32) &&& 0x3f).toInt64.toUInt64).toInt64).toInt32).toUInt32 >>> ((8 : Int32) &&& 31).toUInt32).toInt32).toInt8.toInt32)) (nar .byte ((((((p1.toUInt64 >>> ((32 : Int32) &&& 0x3f).toInt64.toUInt64).toInt64).toInt32).toUInt32 >>> ((0 : Int32) &&& 31).toUInt32).toInt32).toInt8.toInt32)) (nar .byte ((((p1.toInt32).toUInt32 >>> ((24 : Int32) &&& 31).toUInt32).toInt32).toInt8.toInt32)) (nar .byte ((((p1.toInt32).toUInt32 >>> ((16 : Int32) &&& 31).toUInt32).toInt32).toInt8.toInt32)) (nar .byte ((((p1.toInt32).toUInt32 >>> ((8 : Int32) &&& 31).toUInt32).toInt32).toInt8.toInt32)) (nar .byte ((((p1.toInt32).toUInt32 >>> ((0 : Int32) &&& 31).toUInt32).toInt32).toInt8.toInt32)) T14.heap n0 Z14 Fa14 Fb14 Vq14) hZ (hw _ (List.mem_of_getElem? (i := 38) rfl)) (hw _ (List.mem_of_getElem? (i := 2) rfl)) (by decide) (by decide)) q17a q17c (g := (mkF m 35 #[.val (.long p1), .second, .val (.int p2), .val (.int p3), .val (.ref b1), .val (.int (0 : Int32)), .unset] [(.ref b1)])) rfl (by rw [hml]; rfl) (Steps.refl _) (argsL := []) (rest := []) (lenOf own_pd7 rfl) rfl (by show 2 * 0 + _ ≤ _; exact Nat.le_of_eq rfl) (hb hby at_35) (fun _ _ => ⟨rfl, rfl, (by decide : 2 + 1 ≤ _), (by decide : 66 + 8 ≤ _)⟩)
    dsimp only [Pt.U, Pt.locs, Pt.cells, Pt.slots] at X17 l17 y17 z17 st17 hQ17
    subst l17 y17 z17
    obtain ⟨rr17, rc17, rfl, N17q, Kq17, Vr17⟩ := hQ17
    have N17 := Fr.app N14 N17q
    have f18 := Eq14.keep Kq17
    have f19 := Fa14.keep Kq17 List.not_mem_nil
    have f20 := Fb14.keep Kq17 List.not_mem_nil
    have f21 := Vq14.keep Kq17 List.not_mem_nil
    have Z17 : n0 ≤ T17.heap.size := Nat.le_trans Z14 Kq17.1
    have k22 : ∀ t, Steps p.tables e below (T17.setTop (mkF m 38 #[.val (.long p1), .second, .val (.int p2), .val (.int p3), .val (.ref b1), .val (.int (0 : Int32)), .unset] [(.ref rr17)])) t → Steps p.tables e below (s₁.setTop (entryFrame m #[(.long p1), (.int p2), (.int p3)] maxLocals)) t := fun t k => k16 t (st17.trans k)
    have k23 : ∀ t, Steps p.tables e below (T17.setTop (mkF m 42 #[.val (.long p1), .second, .val (.int p2), .val (.int p3), .val (.ref b1), .val (.int (0 : Int32)), .val (.ref rr17)] [(.ref b1)])) t → Steps p.tables e below (s₁.setTop (entryFrame m #[(.long p1), (.int p2), (.int p3)] maxLocals)) t := by
      intro t k
      refine k22 t ?_
      show Steps p.tables e below (T17.setTop (mkF m 38 #[.val (.long p1), .second, .val (.int p2), .val (.int p3), .val (.ref b1), .val (.int (0 : Int32)), .unset] [(.ref rr17)])) _
      refine XS.astore X17.here hx rfl (hb hby at_38) rfl rfl (l' := #[.val (.long p1), .second, .val (.int p2), .val (.int p3), .val (.ref b1), .val (.int (0 : Int32)), .val (.ref rr17)]) rfl ?_
      show Steps p.tables e below (T17.setTop (mkF m 40 #[.val (.long p1), .second, .val (.int p2), .val (.int p3), .val (.ref b1), .val (.int (0 : Int32)), .val (.ref rr17)] [])) _
      refine XS.aload X17.here hx rfl (hb hby at_40) rfl rfl ?_
      exact k
    obtain ⟨cq24, kq24, q24a, q24b, q24c⟩ := isOf hZ rfl f18
    obtain ⟨_, _, ⟨T24, L24, k24c, n24⟩, -, X24, ⟨Lc24, hQ24, l24, y24, z24⟩, st24⟩ := X17.virtualBack hx (y := (⟨"com/example/reckoner/reckoner/Bytes", "length", "()I"⟩ : MethodName)) (z := (⟨"com/example/reckoner/reckoner/Bytes", "length", "()I"⟩ : MethodName)) hown (mvT hZ (hw _ (List.mem_of_getElem? (i := 51) rfl))) (mvT hZ (hw _ (List.mem_of_getElem? (i := 52) rfl))) (notFace_of_selects (args := #[]) (mvT hZ (hw _ (List.mem_of_getElem? (i := 54) rfl)))) (mvT hZ (hw _ (List.mem_of_getElem? (i := 54) rfl))) (mvT hZ (hw _ (List.mem_of_getElem? (i := 53) rfl))) (by decide) (backOf (W := 0) (own_rmln l Z a0 hw [] b1 (8 : Int32) T17.heap n0 Z17 f20) hZ (hw _ (List.mem_of_getElem? (i := 55) rfl)) (hw _ (List.mem_of_getElem? (i := 2) rfl)) (by decide) (by decide)) q24a q24c (g := (mkF m 42 #[.val (.long p1), .second, .val (.int p2), .val (.int p3), .val (.ref b1), .val (.int (0 : Int32)), .val (.ref rr17)] [(.ref b1)])) rfl (by rw [hml]; rfl) (Steps.refl _) (argsL := []) (rest := []) (lenOf own_pd8 rfl) rfl (by show 2 * 0 + _ ≤ _; exact Nat.le_of_eq rfl) (hb hby at_42) (fun _ _ => ⟨rfl, rfl, (by decide : 3 + 0 ≤ _), (by decide : 74 + 0 ≤ _)⟩)
    dsimp only [Pt.U, Pt.locs, Pt.cells, Pt.slots] at X24 l24 y24 z24 st24 hQ24
    subst l24 y24 z24
    obtain ⟨hr24, N24q, e24⟩ := hQ24
    rw [show (own_vln (8 : Int32)) = (8 : Int32) from rfl] at hr24
    subst hr24
    have N24 := Fr.app N17 N24q
    have k25 : ∀ t, Steps p.tables e below (T24.setTop (mkF m 45 #[.val (.long p1), .second, .val (.int p2), .val (.int p3), .val (.ref b1), .val (.int (0 : Int32)), .val (.ref rr17)] [(.int (8 : Int32))])) t → Steps p.tables e below (s₁.setTop (entryFrame m #[(.long p1), (.int p2), (.int p3)] maxLocals)) t := fun t k => k23 t (st24.trans k)
    obtain ⟨cl26, Ar26, qa26, Sa26, Na26, Ha26, Ga26⟩ := id Vr17
    have k27 : ∀ t, Steps p.tables e below (T24.setTop (mkF m 67 #[.val (.long p1), .second, .val (.int p2), .val (.int p3), .val (.ref b1), .val (.int (0 : Int32)), .val (.ref rr17)] [(.long p1), (.int p3), (.int (0 : Int32)), (.int (0 : Int32)), (.ref rr17)])) t → Steps p.tables e below (s₁.setTop (entryFrame m #[(.long p1), (.int p2), (.int p3)] maxLocals)) t := by
      intro t k
      refine k25 t ?_
      show Steps p.tables e below (T24.setTop (mkF m 45 #[.val (.long p1), .second, .val (.int p2), .val (.int p3), .val (.ref b1), .val (.int (0 : Int32)), .val (.ref rr17)] [(.int (8 : Int32))])) _
      refine XS.bipush X24.here hx rfl (hb hby at_45) ?_
      show Steps p.tables e below (T24.setTop (mkF m 47 #[.val (.long p1), .second, .val (.int p2), .val (.int p3), .val (.ref b1), .val (.int (0 : Int32)), .val (.ref rr17)] [(.int (8 : Int32)), (.int (8 : Int32))])) _
      refine XS.icmpNo X24.here hx rfl (hb hby at_47) rfl (teq (rfl : (8 : Int32) = (8 : Int32))).2 ?_
      show Steps p.tables e below (T24.setTop (mkF m 50 #[.val (.long p1), .second, .val (.int p2), .val (.int p3), .val (.ref b1), .val (.int (0 : Int32)), .val (.ref rr17)] [])) _
      refine XS.aload X24.here hx rfl (hb hby at_50) rfl rfl ?_
      show Steps p.tables e below (T24.setTop (mkF m 52 #[.val (.long p1), .second, .val (.int p2), .val (.int p3), .val (.ref b1), .val (.int (0 : Int32)), .val (.ref rr17)] [(.ref rr17)])) _
      refine X24.arraylength hx (by rw [e24]; exact Ar26.1) (State.isArrayOf_alike hZ.alike Ar26.2.1) (g := (mkF m 52 #[.val (.long p1), .second, .val (.int p2), .val (.int p3), .val (.ref b1), .val (.int (0 : Int32)), .val (.ref rr17)] [(.ref rr17)])) rfl rfl (hb hby at_52) _ ?_
      rw [len_of Sa26 Na26]
      show Steps p.tables e below (T24.setTop (mkF m 53 #[.val (.long p1), .second, .val (.int p2), .val (.int p3), .val (.ref b1), .val (.int (0 : Int32)), .val (.ref rr17)] [(.int (8 : Int32))])) _
      refine XS.bipush X24.here hx rfl (hb hby at_53) ?_
      show Steps p.tables e below (T24.setTop (mkF m 55 #[.val (.long p1), .second, .val (.int p2), .val (.int p3), .val (.ref b1), .val (.int (0 : Int32)), .val (.ref rr17)] [(.int (8 : Int32)), (.int (8 : Int32))])) _
      refine XS.icmpYes X24.here hx rfl (pc0 := 55) (pc' := 60) rfl (hb hby at_55) rfl (teq (rfl : (8 : Int32) = (8 : Int32))).1 (by decide) (by decide) ?_
      show Steps p.tables e below (T24.setTop (mkF m 60 #[.val (.long p1), .second, .val (.int p2), .val (.int p3), .val (.ref b1), .val (.int (0 : Int32)), .val (.ref rr17)] [])) _
      refine XS.aload X24.here hx rfl (hb hby at_60) rfl rfl ?_
      show Steps p.tables e below (T24.setTop (mkF m 62 #[.val (.long p1), .second, .val (.int p2), .val (.int p3), .val (.ref b1), .val (.int (0 : Int32)), .val (.ref rr17)] [(.ref rr17)])) _
      refine XS.iconst X24.here hx rfl (hb hby at_62) ?_
      show Steps p.tables e below (T24.setTop (mkF m 63 #[.val (.long p1), .second, .val (.int p2), .val (.int p3), .val (.ref b1), .val (.int (0 : Int32)), .val (.ref rr17)] [(.int (0 : Int32)), (.ref rr17)])) _
      refine XS.iload X24.here hx rfl (hb hby at_63) rfl ?_
      show Steps p.tables e below (T24.setTop (mkF m 65 #[.val (.long p1), .second, .val (.int p2), .val (.int p3), .val (.ref b1), .val (.int (0 : Int32)), .val (.ref rr17)] [(.int (0 : Int32)), (.int (0 : Int32)), (.ref rr17)])) _
      refine XS.iloadN X24.here hx rfl (hb hby at_65) rfl ?_
      show Steps p.tables e below (T24.setTop (mkF m 66 #[.val (.long p1), .second, .val (.int p2), .val (.int p3), .val (.ref b1), .val (.int (0 : Int32)), .val (.ref rr17)] [(.int p3), (.int (0 : Int32)), (.int (0 : Int32)), (.ref rr17)])) _
      refine XS.lloadN X24.here hx rfl (hb hby at_66) rfl ?_
      exact k
    obtain ⟨_, _, ⟨T28, L28, k28c, n28⟩, -, X28, ⟨Lc28, hQ28, l28, y28, z28⟩, st28⟩ := Jvm.LawKit.callS X24 hx (y := (⟨"com/example/reckoner/reckoner/BytesSetU2PinLaw", "at", "([BIIIJ)Z"⟩ : MethodName)) hown (mvT hZ (hw _ (List.mem_of_getElem? (i := 56) rfl))) (mvT hZ (hw _ (List.mem_of_getElem? (i := 57) rfl))) (mvT hZ (hw _ (List.mem_of_getElem? (i := 58) rfl))) (mvT hZ (hw _ (List.mem_of_getElem? (i := 59) rfl))) (by decide) (backOf (W := 0) (own_rmat0 l Z a0 hw [] rr17 (0 : Int32) p3 p1 rc17 (nar .byte (((p3.toUInt32 >>> ((8 : Int32) &&& 31).toUInt32).toInt32).toInt8.toInt32)) (nar .byte (p3.toInt8.toInt32)) (nar .byte ((((((p1.toUInt64 >>> ((32 : Int32) &&& 0x3f).toInt64.toUInt64).toInt64).toInt32).toUInt32 >>> ((8 : Int32) &&& 31).toUInt32).toInt32).toInt8.toInt32)) (nar .byte ((((((p1.toUInt64 >>> ((32 : Int32) &&& 0x3f).toInt64.toUInt64).toInt64).toInt32).toUInt32 >>> ((0 : Int32) &&& 31).toUInt32).toInt32).toInt8.toInt32)) (nar .byte ((((p1.toInt32).toUInt32 >>> ((24 : Int32) &&& 31).toUInt32).toInt32).toInt8.toInt32)) (nar .byte ((((p1.toInt32).toUInt32 >>> ((16 : Int32) &&& 31).toUInt32).toInt32).toInt8.toInt32)) (nar .byte ((((p1.toInt32).toUInt32 >>> ((8 : Int32) &&& 31).toUInt32).toInt32).toInt8.toInt32)) (nar .byte ((((p1.toInt32).toUInt32 >>> ((0 : Int32) &&& 31).toUInt32).toInt32).toInt8.toInt32)) T17.heap n0 Z17 Vr17) hZ (hw _ (List.mem_of_getElem? (i := 59) rfl)) (hw _ (List.mem_of_getElem? (i := 58) rfl)) (by decide) (by decide)) (g := (mkF m 67 #[.val (.long p1), .second, .val (.int p2), .val (.int p3), .val (.ref b1), .val (.int (0 : Int32)), .val (.ref rr17)] [(.long p1), (.int p3), (.int (0 : Int32)), (.int (0 : Int32)), (.ref rr17)])) rfl (by rw [hml]; rfl) (argsL := [(.ref rr17), (.int (0 : Int32)), (.int (0 : Int32)), (.int p3), (.long p1)]) (rest := []) (lenOf own_pd9 rfl) rfl (by show 2 * 0 + _ ≤ _; exact Nat.le_of_eq rfl) (hb hby at_67) (fun _ _ => ⟨rfl, e24, (by decide : 3 + 0 ≤ _), (by decide : 74 + 0 ≤ _)⟩)
    dsimp only [Pt.U, Pt.locs, Pt.cells, Pt.slots] at X28 l28 y28 z28 st28 hQ28
    subst l28 y28 z28
    obtain ⟨rfl, N28q, e28⟩ := hQ28
    have N28 := Fr.app N24 N28q
    have k29 : ∀ t, Steps p.tables e below (T28.setTop (mkF m 70 #[.val (.long p1), .second, .val (.int p2), .val (.int p3), .val (.ref b1), .val (.int (0 : Int32)), .val (.ref rr17)] [(.int (own_vat0 (0 : Int32) p3 p1 (nar .byte (((p3.toUInt32 >>> ((8 : Int32) &&& 31).toUInt32).toInt32).toInt8.toInt32))))])) t → Steps p.tables e below (s₁.setTop (entryFrame m #[(.long p1), (.int p2), (.int p3)] maxLocals)) t := fun t k => k27 t (st28 t k)
    have k30 : ∀ t, Steps p.tables e below (T28.setTop (mkF m 80 #[.val (.long p1), .second, .val (.int p2), .val (.int p3), .val (.ref b1), .val (.int (0 : Int32)), .val (.ref rr17)] [(.long p1), (.int p3), (.int (0 : Int32)), (.int (1 : Int32)), (.ref rr17)])) t → Steps p.tables e below (s₁.setTop (entryFrame m #[(.long p1), (.int p2), (.int p3)] maxLocals)) t := by
      intro t k
      refine k29 t ?_
      show Steps p.tables e below (T28.setTop (mkF m 70 #[.val (.long p1), .second, .val (.int p2), .val (.int p3), .val (.ref b1), .val (.int (0 : Int32)), .val (.ref rr17)] [(.int (own_vat0 (0 : Int32) p3 p1 (nar .byte (((p3.toUInt32 >>> ((8 : Int32) &&& 31).toUInt32).toInt32).toInt8.toInt32))))])) _
      refine XS.ifNo X28.here hx rfl (hb hby at_70) rfl ((if0 _ _).trans (feq (own_t0_0 p1 p3)).1) ?_
      show Steps p.tables e below (T28.setTop (mkF m 73 #[.val (.long p1), .second, .val (.int p2), .val (.int p3), .val (.ref b1), .val (.int (0 : Int32)), .val (.ref rr17)] [])) _
      refine XS.aload X28.here hx rfl (hb hby at_73) rfl rfl ?_
      show Steps p.tables e below (T28.setTop (mkF m 75 #[.val (.long p1), .second, .val (.int p2), .val (.int p3), .val (.ref b1), .val (.int (0 : Int32)), .val (.ref rr17)] [(.ref rr17)])) _
      refine XS.iconst X28.here hx rfl (hb hby at_75) ?_
      show Steps p.tables e below (T28.setTop (mkF m 76 #[.val (.long p1), .second, .val (.int p2), .val (.int p3), .val (.ref b1), .val (.int (0 : Int32)), .val (.ref rr17)] [(.int (1 : Int32)), (.ref rr17)])) _
      refine XS.iload X28.here hx rfl (hb hby at_76) rfl ?_
      show Steps p.tables e below (T28.setTop (mkF m 78 #[.val (.long p1), .second, .val (.int p2), .val (.int p3), .val (.ref b1), .val (.int (0 : Int32)), .val (.ref rr17)] [(.int (0 : Int32)), (.int (1 : Int32)), (.ref rr17)])) _
      refine XS.iloadN X28.here hx rfl (hb hby at_78) rfl ?_
      show Steps p.tables e below (T28.setTop (mkF m 79 #[.val (.long p1), .second, .val (.int p2), .val (.int p3), .val (.ref b1), .val (.int (0 : Int32)), .val (.ref rr17)] [(.int p3), (.int (0 : Int32)), (.int (1 : Int32)), (.ref rr17)])) _
      refine XS.lloadN X28.here hx rfl (hb hby at_79) rfl ?_
      exact k
    obtain ⟨_, _, ⟨T31, L31, k31c, n31⟩, -, X31, ⟨Lc31, hQ31, l31, y31, z31⟩, st31⟩ := Jvm.LawKit.callS X28 hx (y := (⟨"com/example/reckoner/reckoner/BytesSetU2PinLaw", "at", "([BIIIJ)Z"⟩ : MethodName)) hown (mvT hZ (hw _ (List.mem_of_getElem? (i := 56) rfl))) (mvT hZ (hw _ (List.mem_of_getElem? (i := 57) rfl))) (mvT hZ (hw _ (List.mem_of_getElem? (i := 58) rfl))) (mvT hZ (hw _ (List.mem_of_getElem? (i := 59) rfl))) (by decide) (backOf (W := 0) (own_rmat1 l Z a0 hw [] rr17 (0 : Int32) p3 p1 rc17 (nar .byte (((p3.toUInt32 >>> ((8 : Int32) &&& 31).toUInt32).toInt32).toInt8.toInt32)) (nar .byte (p3.toInt8.toInt32)) (nar .byte ((((((p1.toUInt64 >>> ((32 : Int32) &&& 0x3f).toInt64.toUInt64).toInt64).toInt32).toUInt32 >>> ((8 : Int32) &&& 31).toUInt32).toInt32).toInt8.toInt32)) (nar .byte ((((((p1.toUInt64 >>> ((32 : Int32) &&& 0x3f).toInt64.toUInt64).toInt64).toInt32).toUInt32 >>> ((0 : Int32) &&& 31).toUInt32).toInt32).toInt8.toInt32)) (nar .byte ((((p1.toInt32).toUInt32 >>> ((24 : Int32) &&& 31).toUInt32).toInt32).toInt8.toInt32)) (nar .byte ((((p1.toInt32).toUInt32 >>> ((16 : Int32) &&& 31).toUInt32).toInt32).toInt8.toInt32)) (nar .byte ((((p1.toInt32).toUInt32 >>> ((8 : Int32) &&& 31).toUInt32).toInt32).toInt8.toInt32)) (nar .byte ((((p1.toInt32).toUInt32 >>> ((0 : Int32) &&& 31).toUInt32).toInt32).toInt8.toInt32)) T17.heap n0 Z17 Vr17) hZ (hw _ (List.mem_of_getElem? (i := 59) rfl)) (hw _ (List.mem_of_getElem? (i := 58) rfl)) (by decide) (by decide)) (g := (mkF m 80 #[.val (.long p1), .second, .val (.int p2), .val (.int p3), .val (.ref b1), .val (.int (0 : Int32)), .val (.ref rr17)] [(.long p1), (.int p3), (.int (0 : Int32)), (.int (1 : Int32)), (.ref rr17)])) rfl (by rw [hml]; rfl) (argsL := [(.ref rr17), (.int (1 : Int32)), (.int (0 : Int32)), (.int p3), (.long p1)]) (rest := []) (lenOf own_pd9 rfl) rfl (by show 2 * 0 + _ ≤ _; exact Nat.le_of_eq rfl) (hb hby at_80) (fun _ _ => ⟨rfl, e28, (by decide : 3 + 0 ≤ _), (by decide : 74 + 0 ≤ _)⟩)
    dsimp only [Pt.U, Pt.locs, Pt.cells, Pt.slots] at X31 l31 y31 z31 st31 hQ31
    subst l31 y31 z31
    obtain ⟨rfl, N31q, e31⟩ := hQ31
    have N31 := Fr.app N28 N31q
    have k32 : ∀ t, Steps p.tables e below (T31.setTop (mkF m 83 #[.val (.long p1), .second, .val (.int p2), .val (.int p3), .val (.ref b1), .val (.int (0 : Int32)), .val (.ref rr17)] [(.int (own_vat1 (0 : Int32) p3 p1 (nar .byte (p3.toInt8.toInt32))))])) t → Steps p.tables e below (s₁.setTop (entryFrame m #[(.long p1), (.int p2), (.int p3)] maxLocals)) t := fun t k => k30 t (st31 t k)
    have k33 : ∀ t, Steps p.tables e below (T31.setTop (mkF m 93 #[.val (.long p1), .second, .val (.int p2), .val (.int p3), .val (.ref b1), .val (.int (0 : Int32)), .val (.ref rr17)] [(.long p1), (.int p3), (.int (0 : Int32)), (.int (2 : Int32)), (.ref rr17)])) t → Steps p.tables e below (s₁.setTop (entryFrame m #[(.long p1), (.int p2), (.int p3)] maxLocals)) t := by
      intro t k
      refine k32 t ?_
      show Steps p.tables e below (T31.setTop (mkF m 83 #[.val (.long p1), .second, .val (.int p2), .val (.int p3), .val (.ref b1), .val (.int (0 : Int32)), .val (.ref rr17)] [(.int (own_vat1 (0 : Int32) p3 p1 (nar .byte (p3.toInt8.toInt32))))])) _
      refine XS.ifNo X31.here hx rfl (hb hby at_83) rfl ((if0 _ _).trans (feq (own_t0_1 p1 p3)).1) ?_
      show Steps p.tables e below (T31.setTop (mkF m 86 #[.val (.long p1), .second, .val (.int p2), .val (.int p3), .val (.ref b1), .val (.int (0 : Int32)), .val (.ref rr17)] [])) _
      refine XS.aload X31.here hx rfl (hb hby at_86) rfl rfl ?_
      show Steps p.tables e below (T31.setTop (mkF m 88 #[.val (.long p1), .second, .val (.int p2), .val (.int p3), .val (.ref b1), .val (.int (0 : Int32)), .val (.ref rr17)] [(.ref rr17)])) _
      refine XS.iconst X31.here hx rfl (hb hby at_88) ?_
      show Steps p.tables e below (T31.setTop (mkF m 89 #[.val (.long p1), .second, .val (.int p2), .val (.int p3), .val (.ref b1), .val (.int (0 : Int32)), .val (.ref rr17)] [(.int (2 : Int32)), (.ref rr17)])) _
      refine XS.iload X31.here hx rfl (hb hby at_89) rfl ?_
      show Steps p.tables e below (T31.setTop (mkF m 91 #[.val (.long p1), .second, .val (.int p2), .val (.int p3), .val (.ref b1), .val (.int (0 : Int32)), .val (.ref rr17)] [(.int (0 : Int32)), (.int (2 : Int32)), (.ref rr17)])) _
      refine XS.iloadN X31.here hx rfl (hb hby at_91) rfl ?_
      show Steps p.tables e below (T31.setTop (mkF m 92 #[.val (.long p1), .second, .val (.int p2), .val (.int p3), .val (.ref b1), .val (.int (0 : Int32)), .val (.ref rr17)] [(.int p3), (.int (0 : Int32)), (.int (2 : Int32)), (.ref rr17)])) _
      refine XS.lloadN X31.here hx rfl (hb hby at_92) rfl ?_
      exact k
    obtain ⟨_, _, ⟨T34, L34, k34c, n34⟩, -, X34, ⟨Lc34, hQ34, l34, y34, z34⟩, st34⟩ := Jvm.LawKit.callS X31 hx (y := (⟨"com/example/reckoner/reckoner/BytesSetU2PinLaw", "at", "([BIIIJ)Z"⟩ : MethodName)) hown (mvT hZ (hw _ (List.mem_of_getElem? (i := 56) rfl))) (mvT hZ (hw _ (List.mem_of_getElem? (i := 57) rfl))) (mvT hZ (hw _ (List.mem_of_getElem? (i := 58) rfl))) (mvT hZ (hw _ (List.mem_of_getElem? (i := 59) rfl))) (by decide) (backOf (W := 0) (own_rmat2 l Z a0 hw [] rr17 (0 : Int32) p3 p1 rc17 (nar .byte (((p3.toUInt32 >>> ((8 : Int32) &&& 31).toUInt32).toInt32).toInt8.toInt32)) (nar .byte (p3.toInt8.toInt32)) (nar .byte ((((((p1.toUInt64 >>> ((32 : Int32) &&& 0x3f).toInt64.toUInt64).toInt64).toInt32).toUInt32 >>> ((8 : Int32) &&& 31).toUInt32).toInt32).toInt8.toInt32)) (nar .byte ((((((p1.toUInt64 >>> ((32 : Int32) &&& 0x3f).toInt64.toUInt64).toInt64).toInt32).toUInt32 >>> ((0 : Int32) &&& 31).toUInt32).toInt32).toInt8.toInt32)) (nar .byte ((((p1.toInt32).toUInt32 >>> ((24 : Int32) &&& 31).toUInt32).toInt32).toInt8.toInt32)) (nar .byte ((((p1.toInt32).toUInt32 >>> ((16 : Int32) &&& 31).toUInt32).toInt32).toInt8.toInt32)) (nar .byte ((((p1.toInt32).toUInt32 >>> ((8 : Int32) &&& 31).toUInt32).toInt32).toInt8.toInt32)) (nar .byte ((((p1.toInt32).toUInt32 >>> ((0 : Int32) &&& 31).toUInt32).toInt32).toInt8.toInt32)) T17.heap n0 Z17 Vr17) hZ (hw _ (List.mem_of_getElem? (i := 59) rfl)) (hw _ (List.mem_of_getElem? (i := 58) rfl)) (by decide) (by decide)) (g := (mkF m 93 #[.val (.long p1), .second, .val (.int p2), .val (.int p3), .val (.ref b1), .val (.int (0 : Int32)), .val (.ref rr17)] [(.long p1), (.int p3), (.int (0 : Int32)), (.int (2 : Int32)), (.ref rr17)])) rfl (by rw [hml]; rfl) (argsL := [(.ref rr17), (.int (2 : Int32)), (.int (0 : Int32)), (.int p3), (.long p1)]) (rest := []) (lenOf own_pd9 rfl) rfl (by show 2 * 0 + _ ≤ _; exact Nat.le_of_eq rfl) (hb hby at_93) (fun _ _ => ⟨rfl, e31, (by decide : 3 + 0 ≤ _), (by decide : 74 + 0 ≤ _)⟩)
    dsimp only [Pt.U, Pt.locs, Pt.cells, Pt.slots] at X34 l34 y34 z34 st34 hQ34
    subst l34 y34 z34
    obtain ⟨rfl, N34q, e34⟩ := hQ34
    have N34 := Fr.app N31 N34q
    have k35 : ∀ t, Steps p.tables e below (T34.setTop (mkF m 96 #[.val (.long p1), .second, .val (.int p2), .val (.int p3), .val (.ref b1), .val (.int (0 : Int32)), .val (.ref rr17)] [(.int (own_vat2 (0 : Int32) p3 p1 (nar .byte ((((((p1.toUInt64 >>> ((32 : Int32) &&& 0x3f).toInt64.toUInt64).toInt64).toInt32).toUInt32 >>> ((8 : Int32) &&& 31).toUInt32).toInt32).toInt8.toInt32))))])) t → Steps p.tables e below (s₁.setTop (entryFrame m #[(.long p1), (.int p2), (.int p3)] maxLocals)) t := fun t k => k33 t (st34 t k)
    have k36 : ∀ t, Steps p.tables e below (T34.setTop (mkF m 106 #[.val (.long p1), .second, .val (.int p2), .val (.int p3), .val (.ref b1), .val (.int (0 : Int32)), .val (.ref rr17)] [(.long p1), (.int p3), (.int (0 : Int32)), (.int (3 : Int32)), (.ref rr17)])) t → Steps p.tables e below (s₁.setTop (entryFrame m #[(.long p1), (.int p2), (.int p3)] maxLocals)) t := by
      intro t k
      refine k35 t ?_
      show Steps p.tables e below (T34.setTop (mkF m 96 #[.val (.long p1), .second, .val (.int p2), .val (.int p3), .val (.ref b1), .val (.int (0 : Int32)), .val (.ref rr17)] [(.int (own_vat2 (0 : Int32) p3 p1 (nar .byte ((((((p1.toUInt64 >>> ((32 : Int32) &&& 0x3f).toInt64.toUInt64).toInt64).toInt32).toUInt32 >>> ((8 : Int32) &&& 31).toUInt32).toInt32).toInt8.toInt32))))])) _
      refine XS.ifNo X34.here hx rfl (hb hby at_96) rfl ((if0 _ _).trans (feq (own_t0_2 p1 p3)).1) ?_
      show Steps p.tables e below (T34.setTop (mkF m 99 #[.val (.long p1), .second, .val (.int p2), .val (.int p3), .val (.ref b1), .val (.int (0 : Int32)), .val (.ref rr17)] [])) _
      refine XS.aload X34.here hx rfl (hb hby at_99) rfl rfl ?_
      show Steps p.tables e below (T34.setTop (mkF m 101 #[.val (.long p1), .second, .val (.int p2), .val (.int p3), .val (.ref b1), .val (.int (0 : Int32)), .val (.ref rr17)] [(.ref rr17)])) _
      refine XS.iconst X34.here hx rfl (hb hby at_101) ?_
      show Steps p.tables e below (T34.setTop (mkF m 102 #[.val (.long p1), .second, .val (.int p2), .val (.int p3), .val (.ref b1), .val (.int (0 : Int32)), .val (.ref rr17)] [(.int (3 : Int32)), (.ref rr17)])) _
      refine XS.iload X34.here hx rfl (hb hby at_102) rfl ?_
      show Steps p.tables e below (T34.setTop (mkF m 104 #[.val (.long p1), .second, .val (.int p2), .val (.int p3), .val (.ref b1), .val (.int (0 : Int32)), .val (.ref rr17)] [(.int (0 : Int32)), (.int (3 : Int32)), (.ref rr17)])) _
      refine XS.iloadN X34.here hx rfl (hb hby at_104) rfl ?_
      show Steps p.tables e below (T34.setTop (mkF m 105 #[.val (.long p1), .second, .val (.int p2), .val (.int p3), .val (.ref b1), .val (.int (0 : Int32)), .val (.ref rr17)] [(.int p3), (.int (0 : Int32)), (.int (3 : Int32)), (.ref rr17)])) _
      refine XS.lloadN X34.here hx rfl (hb hby at_105) rfl ?_
      exact k
    obtain ⟨_, _, ⟨T37, L37, k37c, n37⟩, -, X37, ⟨Lc37, hQ37, l37, y37, z37⟩, st37⟩ := Jvm.LawKit.callS X34 hx (y := (⟨"com/example/reckoner/reckoner/BytesSetU2PinLaw", "at", "([BIIIJ)Z"⟩ : MethodName)) hown (mvT hZ (hw _ (List.mem_of_getElem? (i := 56) rfl))) (mvT hZ (hw _ (List.mem_of_getElem? (i := 57) rfl))) (mvT hZ (hw _ (List.mem_of_getElem? (i := 58) rfl))) (mvT hZ (hw _ (List.mem_of_getElem? (i := 59) rfl))) (by decide) (backOf (W := 0) (own_rmat3 l Z a0 hw [] rr17 (0 : Int32) p3 p1 rc17 (nar .byte (((p3.toUInt32 >>> ((8 : Int32) &&& 31).toUInt32).toInt32).toInt8.toInt32)) (nar .byte (p3.toInt8.toInt32)) (nar .byte ((((((p1.toUInt64 >>> ((32 : Int32) &&& 0x3f).toInt64.toUInt64).toInt64).toInt32).toUInt32 >>> ((8 : Int32) &&& 31).toUInt32).toInt32).toInt8.toInt32)) (nar .byte ((((((p1.toUInt64 >>> ((32 : Int32) &&& 0x3f).toInt64.toUInt64).toInt64).toInt32).toUInt32 >>> ((0 : Int32) &&& 31).toUInt32).toInt32).toInt8.toInt32)) (nar .byte ((((p1.toInt32).toUInt32 >>> ((24 : Int32) &&& 31).toUInt32).toInt32).toInt8.toInt32)) (nar .byte ((((p1.toInt32).toUInt32 >>> ((16 : Int32) &&& 31).toUInt32).toInt32).toInt8.toInt32)) (nar .byte ((((p1.toInt32).toUInt32 >>> ((8 : Int32) &&& 31).toUInt32).toInt32).toInt8.toInt32)) (nar .byte ((((p1.toInt32).toUInt32 >>> ((0 : Int32) &&& 31).toUInt32).toInt32).toInt8.toInt32)) T17.heap n0 Z17 Vr17) hZ (hw _ (List.mem_of_getElem? (i := 59) rfl)) (hw _ (List.mem_of_getElem? (i := 58) rfl)) (by decide) (by decide)) (g := (mkF m 106 #[.val (.long p1), .second, .val (.int p2), .val (.int p3), .val (.ref b1), .val (.int (0 : Int32)), .val (.ref rr17)] [(.long p1), (.int p3), (.int (0 : Int32)), (.int (3 : Int32)), (.ref rr17)])) rfl (by rw [hml]; rfl) (argsL := [(.ref rr17), (.int (3 : Int32)), (.int (0 : Int32)), (.int p3), (.long p1)]) (rest := []) (lenOf own_pd9 rfl) rfl (by show 2 * 0 + _ ≤ _; exact Nat.le_of_eq rfl) (hb hby at_106) (fun _ _ => ⟨rfl, e34, (by decide : 3 + 0 ≤ _), (by decide : 74 + 0 ≤ _)⟩)
    dsimp only [Pt.U, Pt.locs, Pt.cells, Pt.slots] at X37 l37 y37 z37 st37 hQ37
    subst l37 y37 z37
    obtain ⟨rfl, N37q, e37⟩ := hQ37
    have N37 := Fr.app N34 N37q
    have k38 : ∀ t, Steps p.tables e below (T37.setTop (mkF m 109 #[.val (.long p1), .second, .val (.int p2), .val (.int p3), .val (.ref b1), .val (.int (0 : Int32)), .val (.ref rr17)] [(.int (own_vat3 (0 : Int32) p3 p1 (nar .byte ((((((p1.toUInt64 >>> ((32 : Int32) &&& 0x3f).toInt64.toUInt64).toInt64).toInt32).toUInt32 >>> ((0 : Int32) &&& 31).toUInt32).toInt32).toInt8.toInt32))))])) t → Steps p.tables e below (s₁.setTop (entryFrame m #[(.long p1), (.int p2), (.int p3)] maxLocals)) t := fun t k => k36 t (st37 t k)
    have k39 : ∀ t, Steps p.tables e below (T37.setTop (mkF m 119 #[.val (.long p1), .second, .val (.int p2), .val (.int p3), .val (.ref b1), .val (.int (0 : Int32)), .val (.ref rr17)] [(.long p1), (.int p3), (.int (0 : Int32)), (.int (4 : Int32)), (.ref rr17)])) t → Steps p.tables e below (s₁.setTop (entryFrame m #[(.long p1), (.int p2), (.int p3)] maxLocals)) t := by
      intro t k
      refine k38 t ?_
      show Steps p.tables e below (T37.setTop (mkF m 109 #[.val (.long p1), .second, .val (.int p2), .val (.int p3), .val (.ref b1), .val (.int (0 : Int32)), .val (.ref rr17)] [(.int (own_vat3 (0 : Int32) p3 p1 (nar .byte ((((((p1.toUInt64 >>> ((32 : Int32) &&& 0x3f).toInt64.toUInt64).toInt64).toInt32).toUInt32 >>> ((0 : Int32) &&& 31).toUInt32).toInt32).toInt8.toInt32))))])) _
      refine XS.ifNo X37.here hx rfl (hb hby at_109) rfl ((if0 _ _).trans (feq (own_t0_3 p1 p3)).1) ?_
      show Steps p.tables e below (T37.setTop (mkF m 112 #[.val (.long p1), .second, .val (.int p2), .val (.int p3), .val (.ref b1), .val (.int (0 : Int32)), .val (.ref rr17)] [])) _
      refine XS.aload X37.here hx rfl (hb hby at_112) rfl rfl ?_
      show Steps p.tables e below (T37.setTop (mkF m 114 #[.val (.long p1), .second, .val (.int p2), .val (.int p3), .val (.ref b1), .val (.int (0 : Int32)), .val (.ref rr17)] [(.ref rr17)])) _
      refine XS.iconst X37.here hx rfl (hb hby at_114) ?_
      show Steps p.tables e below (T37.setTop (mkF m 115 #[.val (.long p1), .second, .val (.int p2), .val (.int p3), .val (.ref b1), .val (.int (0 : Int32)), .val (.ref rr17)] [(.int (4 : Int32)), (.ref rr17)])) _
      refine XS.iload X37.here hx rfl (hb hby at_115) rfl ?_
      show Steps p.tables e below (T37.setTop (mkF m 117 #[.val (.long p1), .second, .val (.int p2), .val (.int p3), .val (.ref b1), .val (.int (0 : Int32)), .val (.ref rr17)] [(.int (0 : Int32)), (.int (4 : Int32)), (.ref rr17)])) _
      refine XS.iloadN X37.here hx rfl (hb hby at_117) rfl ?_
      show Steps p.tables e below (T37.setTop (mkF m 118 #[.val (.long p1), .second, .val (.int p2), .val (.int p3), .val (.ref b1), .val (.int (0 : Int32)), .val (.ref rr17)] [(.int p3), (.int (0 : Int32)), (.int (4 : Int32)), (.ref rr17)])) _
      refine XS.lloadN X37.here hx rfl (hb hby at_118) rfl ?_
      exact k
    obtain ⟨_, _, ⟨T40, L40, k40c, n40⟩, -, X40, ⟨Lc40, hQ40, l40, y40, z40⟩, st40⟩ := Jvm.LawKit.callS X37 hx (y := (⟨"com/example/reckoner/reckoner/BytesSetU2PinLaw", "at", "([BIIIJ)Z"⟩ : MethodName)) hown (mvT hZ (hw _ (List.mem_of_getElem? (i := 56) rfl))) (mvT hZ (hw _ (List.mem_of_getElem? (i := 57) rfl))) (mvT hZ (hw _ (List.mem_of_getElem? (i := 58) rfl))) (mvT hZ (hw _ (List.mem_of_getElem? (i := 59) rfl))) (by decide) (backOf (W := 0) (own_rmat4 l Z a0 hw [] rr17 (0 : Int32) p3 p1 rc17 (nar .byte (((p3.toUInt32 >>> ((8 : Int32) &&& 31).toUInt32).toInt32).toInt8.toInt32)) (nar .byte (p3.toInt8.toInt32)) (nar .byte ((((((p1.toUInt64 >>> ((32 : Int32) &&& 0x3f).toInt64.toUInt64).toInt64).toInt32).toUInt32 >>> ((8 : Int32) &&& 31).toUInt32).toInt32).toInt8.toInt32)) (nar .byte ((((((p1.toUInt64 >>> ((32 : Int32) &&& 0x3f).toInt64.toUInt64).toInt64).toInt32).toUInt32 >>> ((0 : Int32) &&& 31).toUInt32).toInt32).toInt8.toInt32)) (nar .byte ((((p1.toInt32).toUInt32 >>> ((24 : Int32) &&& 31).toUInt32).toInt32).toInt8.toInt32)) (nar .byte ((((p1.toInt32).toUInt32 >>> ((16 : Int32) &&& 31).toUInt32).toInt32).toInt8.toInt32)) (nar .byte ((((p1.toInt32).toUInt32 >>> ((8 : Int32) &&& 31).toUInt32).toInt32).toInt8.toInt32)) (nar .byte ((((p1.toInt32).toUInt32 >>> ((0 : Int32) &&& 31).toUInt32).toInt32).toInt8.toInt32)) T17.heap n0 Z17 Vr17) hZ (hw _ (List.mem_of_getElem? (i := 59) rfl)) (hw _ (List.mem_of_getElem? (i := 58) rfl)) (by decide) (by decide)) (g := (mkF m 119 #[.val (.long p1), .second, .val (.int p2), .val (.int p3), .val (.ref b1), .val (.int (0 : Int32)), .val (.ref rr17)] [(.long p1), (.int p3), (.int (0 : Int32)), (.int (4 : Int32)), (.ref rr17)])) rfl (by rw [hml]; rfl) (argsL := [(.ref rr17), (.int (4 : Int32)), (.int (0 : Int32)), (.int p3), (.long p1)]) (rest := []) (lenOf own_pd9 rfl) rfl (by show 2 * 0 + _ ≤ _; exact Nat.le_of_eq rfl) (hb hby at_119) (fun _ _ => ⟨rfl, e37, (by decide : 3 + 0 ≤ _), (by decide : 74 + 0 ≤ _)⟩)
    dsimp only [Pt.U, Pt.locs, Pt.cells, Pt.slots] at X40 l40 y40 z40 st40 hQ40
    subst l40 y40 z40
    obtain ⟨rfl, N40q, e40⟩ := hQ40
    have N40 := Fr.app N37 N40q
    have k41 : ∀ t, Steps p.tables e below (T40.setTop (mkF m 122 #[.val (.long p1), .second, .val (.int p2), .val (.int p3), .val (.ref b1), .val (.int (0 : Int32)), .val (.ref rr17)] [(.int (own_vat4 (0 : Int32) p3 p1 (nar .byte ((((p1.toInt32).toUInt32 >>> ((24 : Int32) &&& 31).toUInt32).toInt32).toInt8.toInt32))))])) t → Steps p.tables e below (s₁.setTop (entryFrame m #[(.long p1), (.int p2), (.int p3)] maxLocals)) t := fun t k => k39 t (st40 t k)
    have k42 : ∀ t, Steps p.tables e below (T40.setTop (mkF m 132 #[.val (.long p1), .second, .val (.int p2), .val (.int p3), .val (.ref b1), .val (.int (0 : Int32)), .val (.ref rr17)] [(.long p1), (.int p3), (.int (0 : Int32)), (.int (5 : Int32)), (.ref rr17)])) t → Steps p.tables e below (s₁.setTop (entryFrame m #[(.long p1), (.int p2), (.int p3)] maxLocals)) t := by
      intro t k
      refine k41 t ?_
      show Steps p.tables e below (T40.setTop (mkF m 122 #[.val (.long p1), .second, .val (.int p2), .val (.int p3), .val (.ref b1), .val (.int (0 : Int32)), .val (.ref rr17)] [(.int (own_vat4 (0 : Int32) p3 p1 (nar .byte ((((p1.toInt32).toUInt32 >>> ((24 : Int32) &&& 31).toUInt32).toInt32).toInt8.toInt32))))])) _
      refine XS.ifNo X40.here hx rfl (hb hby at_122) rfl ((if0 _ _).trans (feq (own_t0_4 p1 p3)).1) ?_
      show Steps p.tables e below (T40.setTop (mkF m 125 #[.val (.long p1), .second, .val (.int p2), .val (.int p3), .val (.ref b1), .val (.int (0 : Int32)), .val (.ref rr17)] [])) _
      refine XS.aload X40.here hx rfl (hb hby at_125) rfl rfl ?_
      show Steps p.tables e below (T40.setTop (mkF m 127 #[.val (.long p1), .second, .val (.int p2), .val (.int p3), .val (.ref b1), .val (.int (0 : Int32)), .val (.ref rr17)] [(.ref rr17)])) _
      refine XS.iconst X40.here hx rfl (hb hby at_127) ?_
      show Steps p.tables e below (T40.setTop (mkF m 128 #[.val (.long p1), .second, .val (.int p2), .val (.int p3), .val (.ref b1), .val (.int (0 : Int32)), .val (.ref rr17)] [(.int (5 : Int32)), (.ref rr17)])) _
      refine XS.iload X40.here hx rfl (hb hby at_128) rfl ?_
      show Steps p.tables e below (T40.setTop (mkF m 130 #[.val (.long p1), .second, .val (.int p2), .val (.int p3), .val (.ref b1), .val (.int (0 : Int32)), .val (.ref rr17)] [(.int (0 : Int32)), (.int (5 : Int32)), (.ref rr17)])) _
      refine XS.iloadN X40.here hx rfl (hb hby at_130) rfl ?_
      show Steps p.tables e below (T40.setTop (mkF m 131 #[.val (.long p1), .second, .val (.int p2), .val (.int p3), .val (.ref b1), .val (.int (0 : Int32)), .val (.ref rr17)] [(.int p3), (.int (0 : Int32)), (.int (5 : Int32)), (.ref rr17)])) _
      refine XS.lloadN X40.here hx rfl (hb hby at_131) rfl ?_
      exact k
    obtain ⟨_, _, ⟨T43, L43, k43c, n43⟩, -, X43, ⟨Lc43, hQ43, l43, y43, z43⟩, st43⟩ := Jvm.LawKit.callS X40 hx (y := (⟨"com/example/reckoner/reckoner/BytesSetU2PinLaw", "at", "([BIIIJ)Z"⟩ : MethodName)) hown (mvT hZ (hw _ (List.mem_of_getElem? (i := 56) rfl))) (mvT hZ (hw _ (List.mem_of_getElem? (i := 57) rfl))) (mvT hZ (hw _ (List.mem_of_getElem? (i := 58) rfl))) (mvT hZ (hw _ (List.mem_of_getElem? (i := 59) rfl))) (by decide) (backOf (W := 0) (own_rmat5 l Z a0 hw [] rr17 (0 : Int32) p3 p1 rc17 (nar .byte (((p3.toUInt32 >>> ((8 : Int32) &&& 31).toUInt32).toInt32).toInt8.toInt32)) (nar .byte (p3.toInt8.toInt32)) (nar .byte ((((((p1.toUInt64 >>> ((32 : Int32) &&& 0x3f).toInt64.toUInt64).toInt64).toInt32).toUInt32 >>> ((8 : Int32) &&& 31).toUInt32).toInt32).toInt8.toInt32)) (nar .byte ((((((p1.toUInt64 >>> ((32 : Int32) &&& 0x3f).toInt64.toUInt64).toInt64).toInt32).toUInt32 >>> ((0 : Int32) &&& 31).toUInt32).toInt32).toInt8.toInt32)) (nar .byte ((((p1.toInt32).toUInt32 >>> ((24 : Int32) &&& 31).toUInt32).toInt32).toInt8.toInt32)) (nar .byte ((((p1.toInt32).toUInt32 >>> ((16 : Int32) &&& 31).toUInt32).toInt32).toInt8.toInt32)) (nar .byte ((((p1.toInt32).toUInt32 >>> ((8 : Int32) &&& 31).toUInt32).toInt32).toInt8.toInt32)) (nar .byte ((((p1.toInt32).toUInt32 >>> ((0 : Int32) &&& 31).toUInt32).toInt32).toInt8.toInt32)) T17.heap n0 Z17 Vr17) hZ (hw _ (List.mem_of_getElem? (i := 59) rfl)) (hw _ (List.mem_of_getElem? (i := 58) rfl)) (by decide) (by decide)) (g := (mkF m 132 #[.val (.long p1), .second, .val (.int p2), .val (.int p3), .val (.ref b1), .val (.int (0 : Int32)), .val (.ref rr17)] [(.long p1), (.int p3), (.int (0 : Int32)), (.int (5 : Int32)), (.ref rr17)])) rfl (by rw [hml]; rfl) (argsL := [(.ref rr17), (.int (5 : Int32)), (.int (0 : Int32)), (.int p3), (.long p1)]) (rest := []) (lenOf own_pd9 rfl) rfl (by show 2 * 0 + _ ≤ _; exact Nat.le_of_eq rfl) (hb hby at_132) (fun _ _ => ⟨rfl, e40, (by decide : 3 + 0 ≤ _), (by decide : 74 + 0 ≤ _)⟩)
    dsimp only [Pt.U, Pt.locs, Pt.cells, Pt.slots] at X43 l43 y43 z43 st43 hQ43
    subst l43 y43 z43
    obtain ⟨rfl, N43q, e43⟩ := hQ43
    have N43 := Fr.app N40 N43q
    have k44 : ∀ t, Steps p.tables e below (T43.setTop (mkF m 135 #[.val (.long p1), .second, .val (.int p2), .val (.int p3), .val (.ref b1), .val (.int (0 : Int32)), .val (.ref rr17)] [(.int (own_vat5 (0 : Int32) p3 p1 (nar .byte ((((p1.toInt32).toUInt32 >>> ((16 : Int32) &&& 31).toUInt32).toInt32).toInt8.toInt32))))])) t → Steps p.tables e below (s₁.setTop (entryFrame m #[(.long p1), (.int p2), (.int p3)] maxLocals)) t := fun t k => k42 t (st43 t k)
    have k45 : ∀ t, Steps p.tables e below (T43.setTop (mkF m 146 #[.val (.long p1), .second, .val (.int p2), .val (.int p3), .val (.ref b1), .val (.int (0 : Int32)), .val (.ref rr17)] [(.long p1), (.int p3), (.int (0 : Int32)), (.int (6 : Int32)), (.ref rr17)])) t → Steps p.tables e below (s₁.setTop (entryFrame m #[(.long p1), (.int p2), (.int p3)] maxLocals)) t := by
      intro t k
      refine k44 t ?_
      show Steps p.tables e below (T43.setTop (mkF m 135 #[.val (.long p1), .second, .val (.int p2), .val (.int p3), .val (.ref b1), .val (.int (0 : Int32)), .val (.ref rr17)] [(.int (own_vat5 (0 : Int32) p3 p1 (nar .byte ((((p1.toInt32).toUInt32 >>> ((16 : Int32) &&& 31).toUInt32).toInt32).toInt8.toInt32))))])) _
      refine XS.ifNo X43.here hx rfl (hb hby at_135) rfl ((if0 _ _).trans (feq (own_t0_5 p1 p3)).1) ?_
      show Steps p.tables e below (T43.setTop (mkF m 138 #[.val (.long p1), .second, .val (.int p2), .val (.int p3), .val (.ref b1), .val (.int (0 : Int32)), .val (.ref rr17)] [])) _
      refine XS.aload X43.here hx rfl (hb hby at_138) rfl rfl ?_
      show Steps p.tables e below (T43.setTop (mkF m 140 #[.val (.long p1), .second, .val (.int p2), .val (.int p3), .val (.ref b1), .val (.int (0 : Int32)), .val (.ref rr17)] [(.ref rr17)])) _
      refine XS.bipush X43.here hx rfl (hb hby at_140) ?_
      show Steps p.tables e below (T43.setTop (mkF m 142 #[.val (.long p1), .second, .val (.int p2), .val (.int p3), .val (.ref b1), .val (.int (0 : Int32)), .val (.ref rr17)] [(.int (6 : Int32)), (.ref rr17)])) _
      refine XS.iload X43.here hx rfl (hb hby at_142) rfl ?_
      show Steps p.tables e below (T43.setTop (mkF m 144 #[.val (.long p1), .second, .val (.int p2), .val (.int p3), .val (.ref b1), .val (.int (0 : Int32)), .val (.ref rr17)] [(.int (0 : Int32)), (.int (6 : Int32)), (.ref rr17)])) _
      refine XS.iloadN X43.here hx rfl (hb hby at_144) rfl ?_
      show Steps p.tables e below (T43.setTop (mkF m 145 #[.val (.long p1), .second, .val (.int p2), .val (.int p3), .val (.ref b1), .val (.int (0 : Int32)), .val (.ref rr17)] [(.int p3), (.int (0 : Int32)), (.int (6 : Int32)), (.ref rr17)])) _
      refine XS.lloadN X43.here hx rfl (hb hby at_145) rfl ?_
      exact k
    obtain ⟨_, _, ⟨T46, L46, k46c, n46⟩, -, X46, ⟨Lc46, hQ46, l46, y46, z46⟩, st46⟩ := Jvm.LawKit.callS X43 hx (y := (⟨"com/example/reckoner/reckoner/BytesSetU2PinLaw", "at", "([BIIIJ)Z"⟩ : MethodName)) hown (mvT hZ (hw _ (List.mem_of_getElem? (i := 56) rfl))) (mvT hZ (hw _ (List.mem_of_getElem? (i := 57) rfl))) (mvT hZ (hw _ (List.mem_of_getElem? (i := 58) rfl))) (mvT hZ (hw _ (List.mem_of_getElem? (i := 59) rfl))) (by decide) (backOf (W := 0) (own_rmat6 l Z a0 hw [] rr17 (0 : Int32) p3 p1 rc17 (nar .byte (((p3.toUInt32 >>> ((8 : Int32) &&& 31).toUInt32).toInt32).toInt8.toInt32)) (nar .byte (p3.toInt8.toInt32)) (nar .byte ((((((p1.toUInt64 >>> ((32 : Int32) &&& 0x3f).toInt64.toUInt64).toInt64).toInt32).toUInt32 >>> ((8 : Int32) &&& 31).toUInt32).toInt32).toInt8.toInt32)) (nar .byte ((((((p1.toUInt64 >>> ((32 : Int32) &&& 0x3f).toInt64.toUInt64).toInt64).toInt32).toUInt32 >>> ((0 : Int32) &&& 31).toUInt32).toInt32).toInt8.toInt32)) (nar .byte ((((p1.toInt32).toUInt32 >>> ((24 : Int32) &&& 31).toUInt32).toInt32).toInt8.toInt32)) (nar .byte ((((p1.toInt32).toUInt32 >>> ((16 : Int32) &&& 31).toUInt32).toInt32).toInt8.toInt32)) (nar .byte ((((p1.toInt32).toUInt32 >>> ((8 : Int32) &&& 31).toUInt32).toInt32).toInt8.toInt32)) (nar .byte ((((p1.toInt32).toUInt32 >>> ((0 : Int32) &&& 31).toUInt32).toInt32).toInt8.toInt32)) T17.heap n0 Z17 Vr17) hZ (hw _ (List.mem_of_getElem? (i := 59) rfl)) (hw _ (List.mem_of_getElem? (i := 58) rfl)) (by decide) (by decide)) (g := (mkF m 146 #[.val (.long p1), .second, .val (.int p2), .val (.int p3), .val (.ref b1), .val (.int (0 : Int32)), .val (.ref rr17)] [(.long p1), (.int p3), (.int (0 : Int32)), (.int (6 : Int32)), (.ref rr17)])) rfl (by rw [hml]; rfl) (argsL := [(.ref rr17), (.int (6 : Int32)), (.int (0 : Int32)), (.int p3), (.long p1)]) (rest := []) (lenOf own_pd9 rfl) rfl (by show 2 * 0 + _ ≤ _; exact Nat.le_of_eq rfl) (hb hby at_146) (fun _ _ => ⟨rfl, e43, (by decide : 3 + 0 ≤ _), (by decide : 74 + 0 ≤ _)⟩)
    dsimp only [Pt.U, Pt.locs, Pt.cells, Pt.slots] at X46 l46 y46 z46 st46 hQ46
    subst l46 y46 z46
    obtain ⟨rfl, N46q, e46⟩ := hQ46
    have N46 := Fr.app N43 N46q
    have k47 : ∀ t, Steps p.tables e below (T46.setTop (mkF m 149 #[.val (.long p1), .second, .val (.int p2), .val (.int p3), .val (.ref b1), .val (.int (0 : Int32)), .val (.ref rr17)] [(.int (own_vat6 (0 : Int32) p3 p1 (nar .byte ((((p1.toInt32).toUInt32 >>> ((8 : Int32) &&& 31).toUInt32).toInt32).toInt8.toInt32))))])) t → Steps p.tables e below (s₁.setTop (entryFrame m #[(.long p1), (.int p2), (.int p3)] maxLocals)) t := fun t k => k45 t (st46 t k)
    have k48 : ∀ t, Steps p.tables e below (T46.setTop (mkF m 160 #[.val (.long p1), .second, .val (.int p2), .val (.int p3), .val (.ref b1), .val (.int (0 : Int32)), .val (.ref rr17)] [(.long p1), (.int p3), (.int (0 : Int32)), (.int (7 : Int32)), (.ref rr17)])) t → Steps p.tables e below (s₁.setTop (entryFrame m #[(.long p1), (.int p2), (.int p3)] maxLocals)) t := by
      intro t k
      refine k47 t ?_
      show Steps p.tables e below (T46.setTop (mkF m 149 #[.val (.long p1), .second, .val (.int p2), .val (.int p3), .val (.ref b1), .val (.int (0 : Int32)), .val (.ref rr17)] [(.int (own_vat6 (0 : Int32) p3 p1 (nar .byte ((((p1.toInt32).toUInt32 >>> ((8 : Int32) &&& 31).toUInt32).toInt32).toInt8.toInt32))))])) _
      refine XS.ifNo X46.here hx rfl (hb hby at_149) rfl ((if0 _ _).trans (feq (own_t0_6 p1 p3)).1) ?_
      show Steps p.tables e below (T46.setTop (mkF m 152 #[.val (.long p1), .second, .val (.int p2), .val (.int p3), .val (.ref b1), .val (.int (0 : Int32)), .val (.ref rr17)] [])) _
      refine XS.aload X46.here hx rfl (hb hby at_152) rfl rfl ?_
      show Steps p.tables e below (T46.setTop (mkF m 154 #[.val (.long p1), .second, .val (.int p2), .val (.int p3), .val (.ref b1), .val (.int (0 : Int32)), .val (.ref rr17)] [(.ref rr17)])) _
      refine XS.bipush X46.here hx rfl (hb hby at_154) ?_
      show Steps p.tables e below (T46.setTop (mkF m 156 #[.val (.long p1), .second, .val (.int p2), .val (.int p3), .val (.ref b1), .val (.int (0 : Int32)), .val (.ref rr17)] [(.int (7 : Int32)), (.ref rr17)])) _
      refine XS.iload X46.here hx rfl (hb hby at_156) rfl ?_
      show Steps p.tables e below (T46.setTop (mkF m 158 #[.val (.long p1), .second, .val (.int p2), .val (.int p3), .val (.ref b1), .val (.int (0 : Int32)), .val (.ref rr17)] [(.int (0 : Int32)), (.int (7 : Int32)), (.ref rr17)])) _
      refine XS.iloadN X46.here hx rfl (hb hby at_158) rfl ?_
      show Steps p.tables e below (T46.setTop (mkF m 159 #[.val (.long p1), .second, .val (.int p2), .val (.int p3), .val (.ref b1), .val (.int (0 : Int32)), .val (.ref rr17)] [(.int p3), (.int (0 : Int32)), (.int (7 : Int32)), (.ref rr17)])) _
      refine XS.lloadN X46.here hx rfl (hb hby at_159) rfl ?_
      exact k
    obtain ⟨_, _, ⟨T49, L49, k49c, n49⟩, -, X49, ⟨Lc49, hQ49, l49, y49, z49⟩, st49⟩ := Jvm.LawKit.callS X46 hx (y := (⟨"com/example/reckoner/reckoner/BytesSetU2PinLaw", "at", "([BIIIJ)Z"⟩ : MethodName)) hown (mvT hZ (hw _ (List.mem_of_getElem? (i := 56) rfl))) (mvT hZ (hw _ (List.mem_of_getElem? (i := 57) rfl))) (mvT hZ (hw _ (List.mem_of_getElem? (i := 58) rfl))) (mvT hZ (hw _ (List.mem_of_getElem? (i := 59) rfl))) (by decide) (backOf (W := 0) (own_rmat7 l Z a0 hw [] rr17 (0 : Int32) p3 p1 rc17 (nar .byte (((p3.toUInt32 >>> ((8 : Int32) &&& 31).toUInt32).toInt32).toInt8.toInt32)) (nar .byte (p3.toInt8.toInt32)) (nar .byte ((((((p1.toUInt64 >>> ((32 : Int32) &&& 0x3f).toInt64.toUInt64).toInt64).toInt32).toUInt32 >>> ((8 : Int32) &&& 31).toUInt32).toInt32).toInt8.toInt32)) (nar .byte ((((((p1.toUInt64 >>> ((32 : Int32) &&& 0x3f).toInt64.toUInt64).toInt64).toInt32).toUInt32 >>> ((0 : Int32) &&& 31).toUInt32).toInt32).toInt8.toInt32)) (nar .byte ((((p1.toInt32).toUInt32 >>> ((24 : Int32) &&& 31).toUInt32).toInt32).toInt8.toInt32)) (nar .byte ((((p1.toInt32).toUInt32 >>> ((16 : Int32) &&& 31).toUInt32).toInt32).toInt8.toInt32)) (nar .byte ((((p1.toInt32).toUInt32 >>> ((8 : Int32) &&& 31).toUInt32).toInt32).toInt8.toInt32)) (nar .byte ((((p1.toInt32).toUInt32 >>> ((0 : Int32) &&& 31).toUInt32).toInt32).toInt8.toInt32)) T17.heap n0 Z17 Vr17) hZ (hw _ (List.mem_of_getElem? (i := 59) rfl)) (hw _ (List.mem_of_getElem? (i := 58) rfl)) (by decide) (by decide)) (g := (mkF m 160 #[.val (.long p1), .second, .val (.int p2), .val (.int p3), .val (.ref b1), .val (.int (0 : Int32)), .val (.ref rr17)] [(.long p1), (.int p3), (.int (0 : Int32)), (.int (7 : Int32)), (.ref rr17)])) rfl (by rw [hml]; rfl) (argsL := [(.ref rr17), (.int (7 : Int32)), (.int (0 : Int32)), (.int p3), (.long p1)]) (rest := []) (lenOf own_pd9 rfl) rfl (by show 2 * 0 + _ ≤ _; exact Nat.le_of_eq rfl) (hb hby at_160) (fun _ _ => ⟨rfl, e46, (by decide : 3 + 0 ≤ _), (by decide : 74 + 0 ≤ _)⟩)
    dsimp only [Pt.U, Pt.locs, Pt.cells, Pt.slots] at X49 l49 y49 z49 st49 hQ49
    subst l49 y49 z49
    obtain ⟨rfl, N49q, e49⟩ := hQ49
    have N49 := Fr.app N46 N49q
    have k50 : ∀ t, Steps p.tables e below (T49.setTop (mkF m 163 #[.val (.long p1), .second, .val (.int p2), .val (.int p3), .val (.ref b1), .val (.int (0 : Int32)), .val (.ref rr17)] [(.int (own_vat7 (0 : Int32) p3 p1 (nar .byte ((((p1.toInt32).toUInt32 >>> ((0 : Int32) &&& 31).toUInt32).toInt32).toInt8.toInt32))))])) t → Steps p.tables e below (s₁.setTop (entryFrame m #[(.long p1), (.int p2), (.int p3)] maxLocals)) t := fun t k => k48 t (st49 t k)
    have k51 : ∀ t, Steps p.tables e below (T49.setTop (mkF m 171 #[.val (.long p1), .second, .val (.int p2), .val (.int p3), .val (.ref b1), .val (.int (0 : Int32)), .val (.ref rr17)] [(.int (1 : Int32))])) t → Steps p.tables e below (s₁.setTop (entryFrame m #[(.long p1), (.int p2), (.int p3)] maxLocals)) t := by
      intro t k
      refine k50 t ?_
      show Steps p.tables e below (T49.setTop (mkF m 163 #[.val (.long p1), .second, .val (.int p2), .val (.int p3), .val (.ref b1), .val (.int (0 : Int32)), .val (.ref rr17)] [(.int (own_vat7 (0 : Int32) p3 p1 (nar .byte ((((p1.toInt32).toUInt32 >>> ((0 : Int32) &&& 31).toUInt32).toInt32).toInt8.toInt32))))])) _
      refine XS.ifNo X49.here hx rfl (hb hby at_163) rfl ((if0 _ _).trans (feq (own_t0_7 p1 p3)).1) ?_
      show Steps p.tables e below (T49.setTop (mkF m 166 #[.val (.long p1), .second, .val (.int p2), .val (.int p3), .val (.ref b1), .val (.int (0 : Int32)), .val (.ref rr17)] [])) _
      refine XS.iconst X49.here hx rfl (hb hby at_166) ?_
      show Steps p.tables e below (T49.setTop (mkF m 167 #[.val (.long p1), .second, .val (.int p2), .val (.int p3), .val (.ref b1), .val (.int (0 : Int32)), .val (.ref rr17)] [(.int (1 : Int32))])) _
      refine XS.goto X49.here hx rfl (pc0 := 167) (pc' := 171) rfl (hb hby at_167) (by decide) (by decide) ?_
      exact k
    obtain ⟨fs, hr, hrun, hended, hW, hsame⟩ := X49.leave (v := (some (.int (1 : Int32)))) (fun h => by rw [Bd.returns] at h; cases h)
    refine ⟨_, _, k51 _ ?_, hrun, hended, _, _, rfl, ?_, ⟨_, rfl⟩, hW, hsame.mono (by decide) (by decide)⟩
    · exact retN X49 hx (t := .boolean) Bd.returns (by simp) (hb hby at_171) hr
    · exact ⟨rfl, N49⟩
  · have k52 : ∀ t, Steps p.tables e below (T9.setTop (mkF m 25 #[.val (.long p1), .second, .val (.int p2), .val (.int p3), .val (.ref b1), .val (.int (1 : Int32)), .unset] [])) t → Steps p.tables e below (s₁.setTop (entryFrame m #[(.long p1), (.int p2), (.int p3)] maxLocals)) t := by have z := k11; rw [he] at z; exact z
    have k53 : ∀ t, Steps p.tables e below (T9.setTop (mkF m 30 #[.val (.long p1), .second, .val (.int p2), .val (.int p3), .val (.ref b1), .val (.int (1 : Int32)), .unset] [(.int p3), (.int (1 : Int32)), (.ref b1)])) t → Steps p.tables e below (s₁.setTop (entryFrame m #[(.long p1), (.int p2), (.int p3)] maxLocals)) t := by
      intro t k
      refine k52 t ?_
      show Steps p.tables e below (T9.setTop (mkF m 25 #[.val (.long p1), .second, .val (.int p2), .val (.int p3), .val (.ref b1), .val (.int (1 : Int32)), .unset] [])) _
      refine XS.aload X9.here hx rfl (hb hby at_25) rfl rfl ?_
      show Steps p.tables e below (T9.setTop (mkF m 27 #[.val (.long p1), .second, .val (.int p2), .val (.int p3), .val (.ref b1), .val (.int (1 : Int32)), .unset] [(.ref b1)])) _
      refine XS.iload X9.here hx rfl (hb hby at_27) rfl ?_
      show Steps p.tables e below (T9.setTop (mkF m 29 #[.val (.long p1), .second, .val (.int p2), .val (.int p3), .val (.ref b1), .val (.int (1 : Int32)), .unset] [(.int (1 : Int32)), (.ref b1)])) _
      refine XS.iloadN X9.here hx rfl (hb hby at_29) rfl ?_
      exact k
    obtain ⟨cq54, kq54, q54a, q54b, q54c⟩ := isOf hZ rfl Eq9
    obtain ⟨_, _, ⟨T54, L54, k54c, n54⟩, -, X54, ⟨Lc54, hQ54, l54, y54, z54⟩, st54⟩ := X9.virtualBack hx (y := (⟨"com/example/reckoner/reckoner/Bytes", "setU2", "(II)V"⟩ : MethodName)) (z := (⟨"com/example/reckoner/reckoner/Bytes", "setU2", "(II)V"⟩ : MethodName)) hown (mvT hZ (hw _ (List.mem_of_getElem? (i := 29) rfl))) (mvT hZ (hw _ (List.mem_of_getElem? (i := 30) rfl))) (notFace_of_selects (args := #[]) (mvT hZ (hw _ (List.mem_of_getElem? (i := 32) rfl)))) (mvT hZ (hw _ (List.mem_of_getElem? (i := 32) rfl))) (mvT hZ (hw _ (List.mem_of_getElem? (i := 31) rfl))) (by decide) (backOf (W := 0) (own_rmsu1 l Z a0 hw [] b1 p3 (8 : Int32) ar6 cc6 (nar .byte ((((((p1.toUInt64 >>> ((32 : Int32) &&& 0x3f).toInt64.toUInt64).toInt64).toInt32).toUInt32 >>> ((24 : Int32) &&& 31).toUInt32).toInt32).toInt8.toInt32)) (nar .byte ((((((p1.toUInt64 >>> ((32 : Int32) &&& 0x3f).toInt64.toUInt64).toInt64).toInt32).toUInt32 >>> ((16 : Int32) &&& 31).toUInt32).toInt32).toInt8.toInt32)) (nar .byte ((((((p1.toUInt64 >>> ((32 : Int32) &&& 0x3f).toInt64.toUInt64).toInt64).toInt32).toUInt32 >>> ((8 : Int32) &&& 31).toUInt32).toInt32).toInt8.toInt32)) (nar .byte ((((((p1.toUInt64 >>> ((32 : Int32) &&& 0x3f).toInt64.toUInt64).toInt64).toInt32).toUInt32 >>> ((0 : Int32) &&& 31).toUInt32).toInt32).toInt8.toInt32)) (nar .byte ((((p1.toInt32).toUInt32 >>> ((24 : Int32) &&& 31).toUInt32).toInt32).toInt8.toInt32)) (nar .byte ((((p1.toInt32).toUInt32 >>> ((16 : Int32) &&& 31).toUInt32).toInt32).toInt8.toInt32)) (nar .byte ((((p1.toInt32).toUInt32 >>> ((8 : Int32) &&& 31).toUInt32).toInt32).toInt8.toInt32)) (nar .byte ((((p1.toInt32).toUInt32 >>> ((0 : Int32) &&& 31).toUInt32).toInt32).toInt8.toInt32)) T9.heap n0 Z9 Eq9 Fa9 Fb9 Vq9 ge1 ge6 ne6x) hZ (hw _ (List.mem_of_getElem? (i := 33) rfl)) (hw _ (List.mem_of_getElem? (i := 2) rfl)) (by decide) (by decide)) q54a q54c (g := (mkF m 30 #[.val (.long p1), .second, .val (.int p2), .val (.int p3), .val (.ref b1), .val (.int (1 : Int32)), .unset] [(.int p3), (.int (1 : Int32)), (.ref b1)])) rfl (by rw [hml]; rfl) (Steps.refl _) (argsL := [(.int (1 : Int32)), (.int p3)]) (rest := []) (lenOf own_pd6 rfl) rfl (by show 2 * 0 + _ ≤ _; exact Nat.le_of_eq rfl) (hb hby at_30) (fun _ _ => ⟨rfl, rfl, (by decide : 2 + 0 ≤ _), (by decide : 66 + 0 ≤ _)⟩)
    dsimp only [Pt.U, Pt.locs, Pt.cells, Pt.slots] at X54 l54 y54 z54 st54 hQ54
    subst l54 y54 z54
    obtain ⟨rfl, N54q, Kq54, Eq54, Fa54, Fb54, Vq54⟩ := hQ54
    have N54 := Fr.app N9 N54q
    have Z54 : n0 ≤ T54.heap.size := Nat.le_trans Z9 Kq54.1
    have k55 : ∀ t, Steps p.tables e below (T54.setTop (mkF m 33 #[.val (.long p1), .second, .val (.int p2), .val (.int p3), .val (.ref b1), .val (.int (1 : Int32)), .unset] [])) t → Steps p.tables e below (s₁.setTop (entryFrame m #[(.long p1), (.int p2), (.int p3)] maxLocals)) t := fun t k => k53 t (st54.trans k)
    have k56 : ∀ t, Steps p.tables e below (T54.setTop (mkF m 35 #[.val (.long p1), .second, .val (.int p2), .val (.int p3), .val (.ref b1), .val (.int (1 : Int32)), .unset] [(.ref b1)])) t → Steps p.tables e below (s₁.setTop (entryFrame m #[(.long p1), (.int p2), (.int p3)] maxLocals)) t := by
      intro t k
      refine k55 t ?_
      show Steps p.tables e below (T54.setTop (mkF m 33 #[.val (.long p1), .second, .val (.int p2), .val (.int p3), .val (.ref b1), .val (.int (1 : Int32)), .unset] [])) _
      refine XS.aload X54.here hx rfl (hb hby at_33) rfl rfl ?_
      exact k
    obtain ⟨cq57, kq57, q57a, q57b, q57c⟩ := isOf hZ rfl Eq54
    obtain ⟨_, _, ⟨T57, L57, k57c, n57⟩, -, X57, ⟨Lc57, hQ57, l57, y57, z57⟩, st57⟩ := X54.virtualBack hx (y := (⟨"com/example/reckoner/reckoner/Bytes", "toArray", "()[B"⟩ : MethodName)) (z := (⟨"com/example/reckoner/reckoner/Bytes", "toArray", "()[B"⟩ : MethodName)) hown (mvT hZ (hw _ (List.mem_of_getElem? (i := 34) rfl))) (mvT hZ (hw _ (List.mem_of_getElem? (i := 35) rfl))) (notFace_of_selects (args := #[]) (mvT hZ (hw _ (List.mem_of_getElem? (i := 37) rfl)))) (mvT hZ (hw _ (List.mem_of_getElem? (i := 37) rfl))) (mvT hZ (hw _ (List.mem_of_getElem? (i := 36) rfl))) (by decide) (backOf (W := 0) (own_rmta l Z a0 hw [] b1 ar6 cc6 (nar .byte ((((((p1.toUInt64 >>> ((32 : Int32) &&& 0x3f).toInt64.toUInt64).toInt64).toInt32).toUInt32 >>> ((24 : Int32) &&& 31).toUInt32).toInt32).toInt8.toInt32)) (nar .byte (((p3.toUInt32 >>> ((8 : Int32) &&& 31).toUInt32).toInt32).toInt8.toInt32)) (nar .byte (p3.toInt8.toInt32)) (nar .byte ((((((p1.toUInt64 >>> ((32 : Int32) &&& 0x3f).toInt64.toUInt64).toInt64).toInt32).toUInt32 >>> ((0 : Int32) &&& 31).toUInt32).toInt32).toInt8.toInt32)) (nar .byte ((((p1.toInt32).toUInt32 >>> ((24 : Int32) &&& 31).toUInt32).toInt32).toInt8.toInt32)) (nar .byte ((((p1.toInt32).toUInt32 >>> ((16 : Int32) &&& 31).toUInt32).toInt32).toInt8.toInt32)) (nar .byte ((((p1.toInt32).toUInt32 >>> ((8 : Int32) &&& 31).toUInt32).toInt32).toInt8.toInt32)) (nar .byte ((((p1.toInt32).toUInt32 >>> ((0 : Int32) &&& 31).toUInt32).toInt32).toInt8.toInt32)) T54.heap n0 Z54 Fa54 Fb54 Vq54) hZ (hw _ (List.mem_of_getElem? (i := 38) rfl)) (hw _ (List.mem_of_getElem? (i := 2) rfl)) (by decide) (by decide)) q57a q57c (g := (mkF m 35 #[.val (.long p1), .second, .val (.int p2), .val (.int p3), .val (.ref b1), .val (.int (1 : Int32)), .unset] [(.ref b1)])) rfl (by rw [hml]; rfl) (Steps.refl _) (argsL := []) (rest := []) (lenOf own_pd7 rfl) rfl (by show 2 * 0 + _ ≤ _; exact Nat.le_of_eq rfl) (hb hby at_35) (fun _ _ => ⟨rfl, rfl, (by decide : 2 + 1 ≤ _), (by decide : 66 + 8 ≤ _)⟩)
    dsimp only [Pt.U, Pt.locs, Pt.cells, Pt.slots] at X57 l57 y57 z57 st57 hQ57
    subst l57 y57 z57
    obtain ⟨rr57, rc57, rfl, N57q, Kq57, Vr57⟩ := hQ57
    have N57 := Fr.app N54 N57q
    have f58 := Eq54.keep Kq57
    have f59 := Fa54.keep Kq57 List.not_mem_nil
    have f60 := Fb54.keep Kq57 List.not_mem_nil
    have f61 := Vq54.keep Kq57 List.not_mem_nil
    have Z57 : n0 ≤ T57.heap.size := Nat.le_trans Z54 Kq57.1
    have k62 : ∀ t, Steps p.tables e below (T57.setTop (mkF m 38 #[.val (.long p1), .second, .val (.int p2), .val (.int p3), .val (.ref b1), .val (.int (1 : Int32)), .unset] [(.ref rr57)])) t → Steps p.tables e below (s₁.setTop (entryFrame m #[(.long p1), (.int p2), (.int p3)] maxLocals)) t := fun t k => k56 t (st57.trans k)
    have k63 : ∀ t, Steps p.tables e below (T57.setTop (mkF m 42 #[.val (.long p1), .second, .val (.int p2), .val (.int p3), .val (.ref b1), .val (.int (1 : Int32)), .val (.ref rr57)] [(.ref b1)])) t → Steps p.tables e below (s₁.setTop (entryFrame m #[(.long p1), (.int p2), (.int p3)] maxLocals)) t := by
      intro t k
      refine k62 t ?_
      show Steps p.tables e below (T57.setTop (mkF m 38 #[.val (.long p1), .second, .val (.int p2), .val (.int p3), .val (.ref b1), .val (.int (1 : Int32)), .unset] [(.ref rr57)])) _
      refine XS.astore X57.here hx rfl (hb hby at_38) rfl rfl (l' := #[.val (.long p1), .second, .val (.int p2), .val (.int p3), .val (.ref b1), .val (.int (1 : Int32)), .val (.ref rr57)]) rfl ?_
      show Steps p.tables e below (T57.setTop (mkF m 40 #[.val (.long p1), .second, .val (.int p2), .val (.int p3), .val (.ref b1), .val (.int (1 : Int32)), .val (.ref rr57)] [])) _
      refine XS.aload X57.here hx rfl (hb hby at_40) rfl rfl ?_
      exact k
    obtain ⟨cq64, kq64, q64a, q64b, q64c⟩ := isOf hZ rfl f58
    obtain ⟨_, _, ⟨T64, L64, k64c, n64⟩, -, X64, ⟨Lc64, hQ64, l64, y64, z64⟩, st64⟩ := X57.virtualBack hx (y := (⟨"com/example/reckoner/reckoner/Bytes", "length", "()I"⟩ : MethodName)) (z := (⟨"com/example/reckoner/reckoner/Bytes", "length", "()I"⟩ : MethodName)) hown (mvT hZ (hw _ (List.mem_of_getElem? (i := 51) rfl))) (mvT hZ (hw _ (List.mem_of_getElem? (i := 52) rfl))) (notFace_of_selects (args := #[]) (mvT hZ (hw _ (List.mem_of_getElem? (i := 54) rfl)))) (mvT hZ (hw _ (List.mem_of_getElem? (i := 54) rfl))) (mvT hZ (hw _ (List.mem_of_getElem? (i := 53) rfl))) (by decide) (backOf (W := 0) (own_rmln l Z a0 hw [] b1 (8 : Int32) T57.heap n0 Z57 f60) hZ (hw _ (List.mem_of_getElem? (i := 55) rfl)) (hw _ (List.mem_of_getElem? (i := 2) rfl)) (by decide) (by decide)) q64a q64c (g := (mkF m 42 #[.val (.long p1), .second, .val (.int p2), .val (.int p3), .val (.ref b1), .val (.int (1 : Int32)), .val (.ref rr57)] [(.ref b1)])) rfl (by rw [hml]; rfl) (Steps.refl _) (argsL := []) (rest := []) (lenOf own_pd8 rfl) rfl (by show 2 * 0 + _ ≤ _; exact Nat.le_of_eq rfl) (hb hby at_42) (fun _ _ => ⟨rfl, rfl, (by decide : 3 + 0 ≤ _), (by decide : 74 + 0 ≤ _)⟩)
    dsimp only [Pt.U, Pt.locs, Pt.cells, Pt.slots] at X64 l64 y64 z64 st64 hQ64
    subst l64 y64 z64
    obtain ⟨hr64, N64q, e64⟩ := hQ64
    rw [show (own_vln (8 : Int32)) = (8 : Int32) from rfl] at hr64
    subst hr64
    have N64 := Fr.app N57 N64q
    have k65 : ∀ t, Steps p.tables e below (T64.setTop (mkF m 45 #[.val (.long p1), .second, .val (.int p2), .val (.int p3), .val (.ref b1), .val (.int (1 : Int32)), .val (.ref rr57)] [(.int (8 : Int32))])) t → Steps p.tables e below (s₁.setTop (entryFrame m #[(.long p1), (.int p2), (.int p3)] maxLocals)) t := fun t k => k63 t (st64.trans k)
    obtain ⟨cl66, Ar66, qa66, Sa66, Na66, Ha66, Ga66⟩ := id Vr57
    have k67 : ∀ t, Steps p.tables e below (T64.setTop (mkF m 67 #[.val (.long p1), .second, .val (.int p2), .val (.int p3), .val (.ref b1), .val (.int (1 : Int32)), .val (.ref rr57)] [(.long p1), (.int p3), (.int (1 : Int32)), (.int (0 : Int32)), (.ref rr57)])) t → Steps p.tables e below (s₁.setTop (entryFrame m #[(.long p1), (.int p2), (.int p3)] maxLocals)) t := by
      intro t k
      refine k65 t ?_
      show Steps p.tables e below (T64.setTop (mkF m 45 #[.val (.long p1), .second, .val (.int p2), .val (.int p3), .val (.ref b1), .val (.int (1 : Int32)), .val (.ref rr57)] [(.int (8 : Int32))])) _
      refine XS.bipush X64.here hx rfl (hb hby at_45) ?_
      show Steps p.tables e below (T64.setTop (mkF m 47 #[.val (.long p1), .second, .val (.int p2), .val (.int p3), .val (.ref b1), .val (.int (1 : Int32)), .val (.ref rr57)] [(.int (8 : Int32)), (.int (8 : Int32))])) _
      refine XS.icmpNo X64.here hx rfl (hb hby at_47) rfl (teq (rfl : (8 : Int32) = (8 : Int32))).2 ?_
      show Steps p.tables e below (T64.setTop (mkF m 50 #[.val (.long p1), .second, .val (.int p2), .val (.int p3), .val (.ref b1), .val (.int (1 : Int32)), .val (.ref rr57)] [])) _
      refine XS.aload X64.here hx rfl (hb hby at_50) rfl rfl ?_
      show Steps p.tables e below (T64.setTop (mkF m 52 #[.val (.long p1), .second, .val (.int p2), .val (.int p3), .val (.ref b1), .val (.int (1 : Int32)), .val (.ref rr57)] [(.ref rr57)])) _
      refine X64.arraylength hx (by rw [e64]; exact Ar66.1) (State.isArrayOf_alike hZ.alike Ar66.2.1) (g := (mkF m 52 #[.val (.long p1), .second, .val (.int p2), .val (.int p3), .val (.ref b1), .val (.int (1 : Int32)), .val (.ref rr57)] [(.ref rr57)])) rfl rfl (hb hby at_52) _ ?_
      rw [len_of Sa66 Na66]
      show Steps p.tables e below (T64.setTop (mkF m 53 #[.val (.long p1), .second, .val (.int p2), .val (.int p3), .val (.ref b1), .val (.int (1 : Int32)), .val (.ref rr57)] [(.int (8 : Int32))])) _
      refine XS.bipush X64.here hx rfl (hb hby at_53) ?_
      show Steps p.tables e below (T64.setTop (mkF m 55 #[.val (.long p1), .second, .val (.int p2), .val (.int p3), .val (.ref b1), .val (.int (1 : Int32)), .val (.ref rr57)] [(.int (8 : Int32)), (.int (8 : Int32))])) _
      refine XS.icmpYes X64.here hx rfl (pc0 := 55) (pc' := 60) rfl (hb hby at_55) rfl (teq (rfl : (8 : Int32) = (8 : Int32))).1 (by decide) (by decide) ?_
      show Steps p.tables e below (T64.setTop (mkF m 60 #[.val (.long p1), .second, .val (.int p2), .val (.int p3), .val (.ref b1), .val (.int (1 : Int32)), .val (.ref rr57)] [])) _
      refine XS.aload X64.here hx rfl (hb hby at_60) rfl rfl ?_
      show Steps p.tables e below (T64.setTop (mkF m 62 #[.val (.long p1), .second, .val (.int p2), .val (.int p3), .val (.ref b1), .val (.int (1 : Int32)), .val (.ref rr57)] [(.ref rr57)])) _
      refine XS.iconst X64.here hx rfl (hb hby at_62) ?_
      show Steps p.tables e below (T64.setTop (mkF m 63 #[.val (.long p1), .second, .val (.int p2), .val (.int p3), .val (.ref b1), .val (.int (1 : Int32)), .val (.ref rr57)] [(.int (0 : Int32)), (.ref rr57)])) _
      refine XS.iload X64.here hx rfl (hb hby at_63) rfl ?_
      show Steps p.tables e below (T64.setTop (mkF m 65 #[.val (.long p1), .second, .val (.int p2), .val (.int p3), .val (.ref b1), .val (.int (1 : Int32)), .val (.ref rr57)] [(.int (1 : Int32)), (.int (0 : Int32)), (.ref rr57)])) _
      refine XS.iloadN X64.here hx rfl (hb hby at_65) rfl ?_
      show Steps p.tables e below (T64.setTop (mkF m 66 #[.val (.long p1), .second, .val (.int p2), .val (.int p3), .val (.ref b1), .val (.int (1 : Int32)), .val (.ref rr57)] [(.int p3), (.int (1 : Int32)), (.int (0 : Int32)), (.ref rr57)])) _
      refine XS.lloadN X64.here hx rfl (hb hby at_66) rfl ?_
      exact k
    obtain ⟨_, _, ⟨T68, L68, k68c, n68⟩, -, X68, ⟨Lc68, hQ68, l68, y68, z68⟩, st68⟩ := Jvm.LawKit.callS X64 hx (y := (⟨"com/example/reckoner/reckoner/BytesSetU2PinLaw", "at", "([BIIIJ)Z"⟩ : MethodName)) hown (mvT hZ (hw _ (List.mem_of_getElem? (i := 56) rfl))) (mvT hZ (hw _ (List.mem_of_getElem? (i := 57) rfl))) (mvT hZ (hw _ (List.mem_of_getElem? (i := 58) rfl))) (mvT hZ (hw _ (List.mem_of_getElem? (i := 59) rfl))) (by decide) (backOf (W := 0) (own_rmat0 l Z a0 hw [] rr57 (1 : Int32) p3 p1 rc57 (nar .byte ((((((p1.toUInt64 >>> ((32 : Int32) &&& 0x3f).toInt64.toUInt64).toInt64).toInt32).toUInt32 >>> ((24 : Int32) &&& 31).toUInt32).toInt32).toInt8.toInt32)) (nar .byte (((p3.toUInt32 >>> ((8 : Int32) &&& 31).toUInt32).toInt32).toInt8.toInt32)) (nar .byte (p3.toInt8.toInt32)) (nar .byte ((((((p1.toUInt64 >>> ((32 : Int32) &&& 0x3f).toInt64.toUInt64).toInt64).toInt32).toUInt32 >>> ((0 : Int32) &&& 31).toUInt32).toInt32).toInt8.toInt32)) (nar .byte ((((p1.toInt32).toUInt32 >>> ((24 : Int32) &&& 31).toUInt32).toInt32).toInt8.toInt32)) (nar .byte ((((p1.toInt32).toUInt32 >>> ((16 : Int32) &&& 31).toUInt32).toInt32).toInt8.toInt32)) (nar .byte ((((p1.toInt32).toUInt32 >>> ((8 : Int32) &&& 31).toUInt32).toInt32).toInt8.toInt32)) (nar .byte ((((p1.toInt32).toUInt32 >>> ((0 : Int32) &&& 31).toUInt32).toInt32).toInt8.toInt32)) T57.heap n0 Z57 Vr57) hZ (hw _ (List.mem_of_getElem? (i := 59) rfl)) (hw _ (List.mem_of_getElem? (i := 58) rfl)) (by decide) (by decide)) (g := (mkF m 67 #[.val (.long p1), .second, .val (.int p2), .val (.int p3), .val (.ref b1), .val (.int (1 : Int32)), .val (.ref rr57)] [(.long p1), (.int p3), (.int (1 : Int32)), (.int (0 : Int32)), (.ref rr57)])) rfl (by rw [hml]; rfl) (argsL := [(.ref rr57), (.int (0 : Int32)), (.int (1 : Int32)), (.int p3), (.long p1)]) (rest := []) (lenOf own_pd9 rfl) rfl (by show 2 * 0 + _ ≤ _; exact Nat.le_of_eq rfl) (hb hby at_67) (fun _ _ => ⟨rfl, e64, (by decide : 3 + 0 ≤ _), (by decide : 74 + 0 ≤ _)⟩)
    dsimp only [Pt.U, Pt.locs, Pt.cells, Pt.slots] at X68 l68 y68 z68 st68 hQ68
    subst l68 y68 z68
    obtain ⟨rfl, N68q, e68⟩ := hQ68
    have N68 := Fr.app N64 N68q
    have k69 : ∀ t, Steps p.tables e below (T68.setTop (mkF m 70 #[.val (.long p1), .second, .val (.int p2), .val (.int p3), .val (.ref b1), .val (.int (1 : Int32)), .val (.ref rr57)] [(.int (own_vat0 (1 : Int32) p3 p1 (nar .byte ((((((p1.toUInt64 >>> ((32 : Int32) &&& 0x3f).toInt64.toUInt64).toInt64).toInt32).toUInt32 >>> ((24 : Int32) &&& 31).toUInt32).toInt32).toInt8.toInt32))))])) t → Steps p.tables e below (s₁.setTop (entryFrame m #[(.long p1), (.int p2), (.int p3)] maxLocals)) t := fun t k => k67 t (st68 t k)
    have k70 : ∀ t, Steps p.tables e below (T68.setTop (mkF m 80 #[.val (.long p1), .second, .val (.int p2), .val (.int p3), .val (.ref b1), .val (.int (1 : Int32)), .val (.ref rr57)] [(.long p1), (.int p3), (.int (1 : Int32)), (.int (1 : Int32)), (.ref rr57)])) t → Steps p.tables e below (s₁.setTop (entryFrame m #[(.long p1), (.int p2), (.int p3)] maxLocals)) t := by
      intro t k
      refine k69 t ?_
      show Steps p.tables e below (T68.setTop (mkF m 70 #[.val (.long p1), .second, .val (.int p2), .val (.int p3), .val (.ref b1), .val (.int (1 : Int32)), .val (.ref rr57)] [(.int (own_vat0 (1 : Int32) p3 p1 (nar .byte ((((((p1.toUInt64 >>> ((32 : Int32) &&& 0x3f).toInt64.toUInt64).toInt64).toInt32).toUInt32 >>> ((24 : Int32) &&& 31).toUInt32).toInt32).toInt8.toInt32))))])) _
      refine XS.ifNo X68.here hx rfl (hb hby at_70) rfl ((if0 _ _).trans (feq (own_t1_0 p1 p3)).1) ?_
      show Steps p.tables e below (T68.setTop (mkF m 73 #[.val (.long p1), .second, .val (.int p2), .val (.int p3), .val (.ref b1), .val (.int (1 : Int32)), .val (.ref rr57)] [])) _
      refine XS.aload X68.here hx rfl (hb hby at_73) rfl rfl ?_
      show Steps p.tables e below (T68.setTop (mkF m 75 #[.val (.long p1), .second, .val (.int p2), .val (.int p3), .val (.ref b1), .val (.int (1 : Int32)), .val (.ref rr57)] [(.ref rr57)])) _
      refine XS.iconst X68.here hx rfl (hb hby at_75) ?_
      show Steps p.tables e below (T68.setTop (mkF m 76 #[.val (.long p1), .second, .val (.int p2), .val (.int p3), .val (.ref b1), .val (.int (1 : Int32)), .val (.ref rr57)] [(.int (1 : Int32)), (.ref rr57)])) _
      refine XS.iload X68.here hx rfl (hb hby at_76) rfl ?_
      show Steps p.tables e below (T68.setTop (mkF m 78 #[.val (.long p1), .second, .val (.int p2), .val (.int p3), .val (.ref b1), .val (.int (1 : Int32)), .val (.ref rr57)] [(.int (1 : Int32)), (.int (1 : Int32)), (.ref rr57)])) _
      refine XS.iloadN X68.here hx rfl (hb hby at_78) rfl ?_
      show Steps p.tables e below (T68.setTop (mkF m 79 #[.val (.long p1), .second, .val (.int p2), .val (.int p3), .val (.ref b1), .val (.int (1 : Int32)), .val (.ref rr57)] [(.int p3), (.int (1 : Int32)), (.int (1 : Int32)), (.ref rr57)])) _
      refine XS.lloadN X68.here hx rfl (hb hby at_79) rfl ?_
      exact k
    obtain ⟨_, _, ⟨T71, L71, k71c, n71⟩, -, X71, ⟨Lc71, hQ71, l71, y71, z71⟩, st71⟩ := Jvm.LawKit.callS X68 hx (y := (⟨"com/example/reckoner/reckoner/BytesSetU2PinLaw", "at", "([BIIIJ)Z"⟩ : MethodName)) hown (mvT hZ (hw _ (List.mem_of_getElem? (i := 56) rfl))) (mvT hZ (hw _ (List.mem_of_getElem? (i := 57) rfl))) (mvT hZ (hw _ (List.mem_of_getElem? (i := 58) rfl))) (mvT hZ (hw _ (List.mem_of_getElem? (i := 59) rfl))) (by decide) (backOf (W := 0) (own_rmat1 l Z a0 hw [] rr57 (1 : Int32) p3 p1 rc57 (nar .byte ((((((p1.toUInt64 >>> ((32 : Int32) &&& 0x3f).toInt64.toUInt64).toInt64).toInt32).toUInt32 >>> ((24 : Int32) &&& 31).toUInt32).toInt32).toInt8.toInt32)) (nar .byte (((p3.toUInt32 >>> ((8 : Int32) &&& 31).toUInt32).toInt32).toInt8.toInt32)) (nar .byte (p3.toInt8.toInt32)) (nar .byte ((((((p1.toUInt64 >>> ((32 : Int32) &&& 0x3f).toInt64.toUInt64).toInt64).toInt32).toUInt32 >>> ((0 : Int32) &&& 31).toUInt32).toInt32).toInt8.toInt32)) (nar .byte ((((p1.toInt32).toUInt32 >>> ((24 : Int32) &&& 31).toUInt32).toInt32).toInt8.toInt32)) (nar .byte ((((p1.toInt32).toUInt32 >>> ((16 : Int32) &&& 31).toUInt32).toInt32).toInt8.toInt32)) (nar .byte ((((p1.toInt32).toUInt32 >>> ((8 : Int32) &&& 31).toUInt32).toInt32).toInt8.toInt32)) (nar .byte ((((p1.toInt32).toUInt32 >>> ((0 : Int32) &&& 31).toUInt32).toInt32).toInt8.toInt32)) T57.heap n0 Z57 Vr57) hZ (hw _ (List.mem_of_getElem? (i := 59) rfl)) (hw _ (List.mem_of_getElem? (i := 58) rfl)) (by decide) (by decide)) (g := (mkF m 80 #[.val (.long p1), .second, .val (.int p2), .val (.int p3), .val (.ref b1), .val (.int (1 : Int32)), .val (.ref rr57)] [(.long p1), (.int p3), (.int (1 : Int32)), (.int (1 : Int32)), (.ref rr57)])) rfl (by rw [hml]; rfl) (argsL := [(.ref rr57), (.int (1 : Int32)), (.int (1 : Int32)), (.int p3), (.long p1)]) (rest := []) (lenOf own_pd9 rfl) rfl (by show 2 * 0 + _ ≤ _; exact Nat.le_of_eq rfl) (hb hby at_80) (fun _ _ => ⟨rfl, e68, (by decide : 3 + 0 ≤ _), (by decide : 74 + 0 ≤ _)⟩)
    dsimp only [Pt.U, Pt.locs, Pt.cells, Pt.slots] at X71 l71 y71 z71 st71 hQ71
    subst l71 y71 z71
    obtain ⟨rfl, N71q, e71⟩ := hQ71
    have N71 := Fr.app N68 N71q
    have k72 : ∀ t, Steps p.tables e below (T71.setTop (mkF m 83 #[.val (.long p1), .second, .val (.int p2), .val (.int p3), .val (.ref b1), .val (.int (1 : Int32)), .val (.ref rr57)] [(.int (own_vat1 (1 : Int32) p3 p1 (nar .byte (((p3.toUInt32 >>> ((8 : Int32) &&& 31).toUInt32).toInt32).toInt8.toInt32))))])) t → Steps p.tables e below (s₁.setTop (entryFrame m #[(.long p1), (.int p2), (.int p3)] maxLocals)) t := fun t k => k70 t (st71 t k)
    have k73 : ∀ t, Steps p.tables e below (T71.setTop (mkF m 93 #[.val (.long p1), .second, .val (.int p2), .val (.int p3), .val (.ref b1), .val (.int (1 : Int32)), .val (.ref rr57)] [(.long p1), (.int p3), (.int (1 : Int32)), (.int (2 : Int32)), (.ref rr57)])) t → Steps p.tables e below (s₁.setTop (entryFrame m #[(.long p1), (.int p2), (.int p3)] maxLocals)) t := by
      intro t k
      refine k72 t ?_
      show Steps p.tables e below (T71.setTop (mkF m 83 #[.val (.long p1), .second, .val (.int p2), .val (.int p3), .val (.ref b1), .val (.int (1 : Int32)), .val (.ref rr57)] [(.int (own_vat1 (1 : Int32) p3 p1 (nar .byte (((p3.toUInt32 >>> ((8 : Int32) &&& 31).toUInt32).toInt32).toInt8.toInt32))))])) _
      refine XS.ifNo X71.here hx rfl (hb hby at_83) rfl ((if0 _ _).trans (feq (own_t1_1 p1 p3)).1) ?_
      show Steps p.tables e below (T71.setTop (mkF m 86 #[.val (.long p1), .second, .val (.int p2), .val (.int p3), .val (.ref b1), .val (.int (1 : Int32)), .val (.ref rr57)] [])) _
      refine XS.aload X71.here hx rfl (hb hby at_86) rfl rfl ?_
      show Steps p.tables e below (T71.setTop (mkF m 88 #[.val (.long p1), .second, .val (.int p2), .val (.int p3), .val (.ref b1), .val (.int (1 : Int32)), .val (.ref rr57)] [(.ref rr57)])) _
      refine XS.iconst X71.here hx rfl (hb hby at_88) ?_
      show Steps p.tables e below (T71.setTop (mkF m 89 #[.val (.long p1), .second, .val (.int p2), .val (.int p3), .val (.ref b1), .val (.int (1 : Int32)), .val (.ref rr57)] [(.int (2 : Int32)), (.ref rr57)])) _
      refine XS.iload X71.here hx rfl (hb hby at_89) rfl ?_
      show Steps p.tables e below (T71.setTop (mkF m 91 #[.val (.long p1), .second, .val (.int p2), .val (.int p3), .val (.ref b1), .val (.int (1 : Int32)), .val (.ref rr57)] [(.int (1 : Int32)), (.int (2 : Int32)), (.ref rr57)])) _
      refine XS.iloadN X71.here hx rfl (hb hby at_91) rfl ?_
      show Steps p.tables e below (T71.setTop (mkF m 92 #[.val (.long p1), .second, .val (.int p2), .val (.int p3), .val (.ref b1), .val (.int (1 : Int32)), .val (.ref rr57)] [(.int p3), (.int (1 : Int32)), (.int (2 : Int32)), (.ref rr57)])) _
      refine XS.lloadN X71.here hx rfl (hb hby at_92) rfl ?_
      exact k
    obtain ⟨_, _, ⟨T74, L74, k74c, n74⟩, -, X74, ⟨Lc74, hQ74, l74, y74, z74⟩, st74⟩ := Jvm.LawKit.callS X71 hx (y := (⟨"com/example/reckoner/reckoner/BytesSetU2PinLaw", "at", "([BIIIJ)Z"⟩ : MethodName)) hown (mvT hZ (hw _ (List.mem_of_getElem? (i := 56) rfl))) (mvT hZ (hw _ (List.mem_of_getElem? (i := 57) rfl))) (mvT hZ (hw _ (List.mem_of_getElem? (i := 58) rfl))) (mvT hZ (hw _ (List.mem_of_getElem? (i := 59) rfl))) (by decide) (backOf (W := 0) (own_rmat2 l Z a0 hw [] rr57 (1 : Int32) p3 p1 rc57 (nar .byte ((((((p1.toUInt64 >>> ((32 : Int32) &&& 0x3f).toInt64.toUInt64).toInt64).toInt32).toUInt32 >>> ((24 : Int32) &&& 31).toUInt32).toInt32).toInt8.toInt32)) (nar .byte (((p3.toUInt32 >>> ((8 : Int32) &&& 31).toUInt32).toInt32).toInt8.toInt32)) (nar .byte (p3.toInt8.toInt32)) (nar .byte ((((((p1.toUInt64 >>> ((32 : Int32) &&& 0x3f).toInt64.toUInt64).toInt64).toInt32).toUInt32 >>> ((0 : Int32) &&& 31).toUInt32).toInt32).toInt8.toInt32)) (nar .byte ((((p1.toInt32).toUInt32 >>> ((24 : Int32) &&& 31).toUInt32).toInt32).toInt8.toInt32)) (nar .byte ((((p1.toInt32).toUInt32 >>> ((16 : Int32) &&& 31).toUInt32).toInt32).toInt8.toInt32)) (nar .byte ((((p1.toInt32).toUInt32 >>> ((8 : Int32) &&& 31).toUInt32).toInt32).toInt8.toInt32)) (nar .byte ((((p1.toInt32).toUInt32 >>> ((0 : Int32) &&& 31).toUInt32).toInt32).toInt8.toInt32)) T57.heap n0 Z57 Vr57) hZ (hw _ (List.mem_of_getElem? (i := 59) rfl)) (hw _ (List.mem_of_getElem? (i := 58) rfl)) (by decide) (by decide)) (g := (mkF m 93 #[.val (.long p1), .second, .val (.int p2), .val (.int p3), .val (.ref b1), .val (.int (1 : Int32)), .val (.ref rr57)] [(.long p1), (.int p3), (.int (1 : Int32)), (.int (2 : Int32)), (.ref rr57)])) rfl (by rw [hml]; rfl) (argsL := [(.ref rr57), (.int (2 : Int32)), (.int (1 : Int32)), (.int p3), (.long p1)]) (rest := []) (lenOf own_pd9 rfl) rfl (by show 2 * 0 + _ ≤ _; exact Nat.le_of_eq rfl) (hb hby at_93) (fun _ _ => ⟨rfl, e71, (by decide : 3 + 0 ≤ _), (by decide : 74 + 0 ≤ _)⟩)
    dsimp only [Pt.U, Pt.locs, Pt.cells, Pt.slots] at X74 l74 y74 z74 st74 hQ74
    subst l74 y74 z74
    obtain ⟨rfl, N74q, e74⟩ := hQ74
    have N74 := Fr.app N71 N74q
    have k75 : ∀ t, Steps p.tables e below (T74.setTop (mkF m 96 #[.val (.long p1), .second, .val (.int p2), .val (.int p3), .val (.ref b1), .val (.int (1 : Int32)), .val (.ref rr57)] [(.int (own_vat2 (1 : Int32) p3 p1 (nar .byte (p3.toInt8.toInt32))))])) t → Steps p.tables e below (s₁.setTop (entryFrame m #[(.long p1), (.int p2), (.int p3)] maxLocals)) t := fun t k => k73 t (st74 t k)
    have k76 : ∀ t, Steps p.tables e below (T74.setTop (mkF m 106 #[.val (.long p1), .second, .val (.int p2), .val (.int p3), .val (.ref b1), .val (.int (1 : Int32)), .val (.ref rr57)] [(.long p1), (.int p3), (.int (1 : Int32)), (.int (3 : Int32)), (.ref rr57)])) t → Steps p.tables e below (s₁.setTop (entryFrame m #[(.long p1), (.int p2), (.int p3)] maxLocals)) t := by
      intro t k
      refine k75 t ?_
      show Steps p.tables e below (T74.setTop (mkF m 96 #[.val (.long p1), .second, .val (.int p2), .val (.int p3), .val (.ref b1), .val (.int (1 : Int32)), .val (.ref rr57)] [(.int (own_vat2 (1 : Int32) p3 p1 (nar .byte (p3.toInt8.toInt32))))])) _
      refine XS.ifNo X74.here hx rfl (hb hby at_96) rfl ((if0 _ _).trans (feq (own_t1_2 p1 p3)).1) ?_
      show Steps p.tables e below (T74.setTop (mkF m 99 #[.val (.long p1), .second, .val (.int p2), .val (.int p3), .val (.ref b1), .val (.int (1 : Int32)), .val (.ref rr57)] [])) _
      refine XS.aload X74.here hx rfl (hb hby at_99) rfl rfl ?_
      show Steps p.tables e below (T74.setTop (mkF m 101 #[.val (.long p1), .second, .val (.int p2), .val (.int p3), .val (.ref b1), .val (.int (1 : Int32)), .val (.ref rr57)] [(.ref rr57)])) _
      refine XS.iconst X74.here hx rfl (hb hby at_101) ?_
      show Steps p.tables e below (T74.setTop (mkF m 102 #[.val (.long p1), .second, .val (.int p2), .val (.int p3), .val (.ref b1), .val (.int (1 : Int32)), .val (.ref rr57)] [(.int (3 : Int32)), (.ref rr57)])) _
      refine XS.iload X74.here hx rfl (hb hby at_102) rfl ?_
      show Steps p.tables e below (T74.setTop (mkF m 104 #[.val (.long p1), .second, .val (.int p2), .val (.int p3), .val (.ref b1), .val (.int (1 : Int32)), .val (.ref rr57)] [(.int (1 : Int32)), (.int (3 : Int32)), (.ref rr57)])) _
      refine XS.iloadN X74.here hx rfl (hb hby at_104) rfl ?_
      show Steps p.tables e below (T74.setTop (mkF m 105 #[.val (.long p1), .second, .val (.int p2), .val (.int p3), .val (.ref b1), .val (.int (1 : Int32)), .val (.ref rr57)] [(.int p3), (.int (1 : Int32)), (.int (3 : Int32)), (.ref rr57)])) _
      refine XS.lloadN X74.here hx rfl (hb hby at_105) rfl ?_
      exact k
    obtain ⟨_, _, ⟨T77, L77, k77c, n77⟩, -, X77, ⟨Lc77, hQ77, l77, y77, z77⟩, st77⟩ := Jvm.LawKit.callS X74 hx (y := (⟨"com/example/reckoner/reckoner/BytesSetU2PinLaw", "at", "([BIIIJ)Z"⟩ : MethodName)) hown (mvT hZ (hw _ (List.mem_of_getElem? (i := 56) rfl))) (mvT hZ (hw _ (List.mem_of_getElem? (i := 57) rfl))) (mvT hZ (hw _ (List.mem_of_getElem? (i := 58) rfl))) (mvT hZ (hw _ (List.mem_of_getElem? (i := 59) rfl))) (by decide) (backOf (W := 0) (own_rmat3 l Z a0 hw [] rr57 (1 : Int32) p3 p1 rc57 (nar .byte ((((((p1.toUInt64 >>> ((32 : Int32) &&& 0x3f).toInt64.toUInt64).toInt64).toInt32).toUInt32 >>> ((24 : Int32) &&& 31).toUInt32).toInt32).toInt8.toInt32)) (nar .byte (((p3.toUInt32 >>> ((8 : Int32) &&& 31).toUInt32).toInt32).toInt8.toInt32)) (nar .byte (p3.toInt8.toInt32)) (nar .byte ((((((p1.toUInt64 >>> ((32 : Int32) &&& 0x3f).toInt64.toUInt64).toInt64).toInt32).toUInt32 >>> ((0 : Int32) &&& 31).toUInt32).toInt32).toInt8.toInt32)) (nar .byte ((((p1.toInt32).toUInt32 >>> ((24 : Int32) &&& 31).toUInt32).toInt32).toInt8.toInt32)) (nar .byte ((((p1.toInt32).toUInt32 >>> ((16 : Int32) &&& 31).toUInt32).toInt32).toInt8.toInt32)) (nar .byte ((((p1.toInt32).toUInt32 >>> ((8 : Int32) &&& 31).toUInt32).toInt32).toInt8.toInt32)) (nar .byte ((((p1.toInt32).toUInt32 >>> ((0 : Int32) &&& 31).toUInt32).toInt32).toInt8.toInt32)) T57.heap n0 Z57 Vr57) hZ (hw _ (List.mem_of_getElem? (i := 59) rfl)) (hw _ (List.mem_of_getElem? (i := 58) rfl)) (by decide) (by decide)) (g := (mkF m 106 #[.val (.long p1), .second, .val (.int p2), .val (.int p3), .val (.ref b1), .val (.int (1 : Int32)), .val (.ref rr57)] [(.long p1), (.int p3), (.int (1 : Int32)), (.int (3 : Int32)), (.ref rr57)])) rfl (by rw [hml]; rfl) (argsL := [(.ref rr57), (.int (3 : Int32)), (.int (1 : Int32)), (.int p3), (.long p1)]) (rest := []) (lenOf own_pd9 rfl) rfl (by show 2 * 0 + _ ≤ _; exact Nat.le_of_eq rfl) (hb hby at_106) (fun _ _ => ⟨rfl, e74, (by decide : 3 + 0 ≤ _), (by decide : 74 + 0 ≤ _)⟩)
    dsimp only [Pt.U, Pt.locs, Pt.cells, Pt.slots] at X77 l77 y77 z77 st77 hQ77
    subst l77 y77 z77
    obtain ⟨rfl, N77q, e77⟩ := hQ77
    have N77 := Fr.app N74 N77q
    have k78 : ∀ t, Steps p.tables e below (T77.setTop (mkF m 109 #[.val (.long p1), .second, .val (.int p2), .val (.int p3), .val (.ref b1), .val (.int (1 : Int32)), .val (.ref rr57)] [(.int (own_vat3 (1 : Int32) p3 p1 (nar .byte ((((((p1.toUInt64 >>> ((32 : Int32) &&& 0x3f).toInt64.toUInt64).toInt64).toInt32).toUInt32 >>> ((0 : Int32) &&& 31).toUInt32).toInt32).toInt8.toInt32))))])) t → Steps p.tables e below (s₁.setTop (entryFrame m #[(.long p1), (.int p2), (.int p3)] maxLocals)) t := fun t k => k76 t (st77 t k)
    have k79 : ∀ t, Steps p.tables e below (T77.setTop (mkF m 119 #[.val (.long p1), .second, .val (.int p2), .val (.int p3), .val (.ref b1), .val (.int (1 : Int32)), .val (.ref rr57)] [(.long p1), (.int p3), (.int (1 : Int32)), (.int (4 : Int32)), (.ref rr57)])) t → Steps p.tables e below (s₁.setTop (entryFrame m #[(.long p1), (.int p2), (.int p3)] maxLocals)) t := by
      intro t k
      refine k78 t ?_
      show Steps p.tables e below (T77.setTop (mkF m 109 #[.val (.long p1), .second, .val (.int p2), .val (.int p3), .val (.ref b1), .val (.int (1 : Int32)), .val (.ref rr57)] [(.int (own_vat3 (1 : Int32) p3 p1 (nar .byte ((((((p1.toUInt64 >>> ((32 : Int32) &&& 0x3f).toInt64.toUInt64).toInt64).toInt32).toUInt32 >>> ((0 : Int32) &&& 31).toUInt32).toInt32).toInt8.toInt32))))])) _
      refine XS.ifNo X77.here hx rfl (hb hby at_109) rfl ((if0 _ _).trans (feq (own_t1_3 p1 p3)).1) ?_
      show Steps p.tables e below (T77.setTop (mkF m 112 #[.val (.long p1), .second, .val (.int p2), .val (.int p3), .val (.ref b1), .val (.int (1 : Int32)), .val (.ref rr57)] [])) _
      refine XS.aload X77.here hx rfl (hb hby at_112) rfl rfl ?_
      show Steps p.tables e below (T77.setTop (mkF m 114 #[.val (.long p1), .second, .val (.int p2), .val (.int p3), .val (.ref b1), .val (.int (1 : Int32)), .val (.ref rr57)] [(.ref rr57)])) _
      refine XS.iconst X77.here hx rfl (hb hby at_114) ?_
      show Steps p.tables e below (T77.setTop (mkF m 115 #[.val (.long p1), .second, .val (.int p2), .val (.int p3), .val (.ref b1), .val (.int (1 : Int32)), .val (.ref rr57)] [(.int (4 : Int32)), (.ref rr57)])) _
      refine XS.iload X77.here hx rfl (hb hby at_115) rfl ?_
      show Steps p.tables e below (T77.setTop (mkF m 117 #[.val (.long p1), .second, .val (.int p2), .val (.int p3), .val (.ref b1), .val (.int (1 : Int32)), .val (.ref rr57)] [(.int (1 : Int32)), (.int (4 : Int32)), (.ref rr57)])) _
      refine XS.iloadN X77.here hx rfl (hb hby at_117) rfl ?_
      show Steps p.tables e below (T77.setTop (mkF m 118 #[.val (.long p1), .second, .val (.int p2), .val (.int p3), .val (.ref b1), .val (.int (1 : Int32)), .val (.ref rr57)] [(.int p3), (.int (1 : Int32)), (.int (4 : Int32)), (.ref rr57)])) _
      refine XS.lloadN X77.here hx rfl (hb hby at_118) rfl ?_
      exact k
    obtain ⟨_, _, ⟨T80, L80, k80c, n80⟩, -, X80, ⟨Lc80, hQ80, l80, y80, z80⟩, st80⟩ := Jvm.LawKit.callS X77 hx (y := (⟨"com/example/reckoner/reckoner/BytesSetU2PinLaw", "at", "([BIIIJ)Z"⟩ : MethodName)) hown (mvT hZ (hw _ (List.mem_of_getElem? (i := 56) rfl))) (mvT hZ (hw _ (List.mem_of_getElem? (i := 57) rfl))) (mvT hZ (hw _ (List.mem_of_getElem? (i := 58) rfl))) (mvT hZ (hw _ (List.mem_of_getElem? (i := 59) rfl))) (by decide) (backOf (W := 0) (own_rmat4 l Z a0 hw [] rr57 (1 : Int32) p3 p1 rc57 (nar .byte ((((((p1.toUInt64 >>> ((32 : Int32) &&& 0x3f).toInt64.toUInt64).toInt64).toInt32).toUInt32 >>> ((24 : Int32) &&& 31).toUInt32).toInt32).toInt8.toInt32)) (nar .byte (((p3.toUInt32 >>> ((8 : Int32) &&& 31).toUInt32).toInt32).toInt8.toInt32)) (nar .byte (p3.toInt8.toInt32)) (nar .byte ((((((p1.toUInt64 >>> ((32 : Int32) &&& 0x3f).toInt64.toUInt64).toInt64).toInt32).toUInt32 >>> ((0 : Int32) &&& 31).toUInt32).toInt32).toInt8.toInt32)) (nar .byte ((((p1.toInt32).toUInt32 >>> ((24 : Int32) &&& 31).toUInt32).toInt32).toInt8.toInt32)) (nar .byte ((((p1.toInt32).toUInt32 >>> ((16 : Int32) &&& 31).toUInt32).toInt32).toInt8.toInt32)) (nar .byte ((((p1.toInt32).toUInt32 >>> ((8 : Int32) &&& 31).toUInt32).toInt32).toInt8.toInt32)) (nar .byte ((((p1.toInt32).toUInt32 >>> ((0 : Int32) &&& 31).toUInt32).toInt32).toInt8.toInt32)) T57.heap n0 Z57 Vr57) hZ (hw _ (List.mem_of_getElem? (i := 59) rfl)) (hw _ (List.mem_of_getElem? (i := 58) rfl)) (by decide) (by decide)) (g := (mkF m 119 #[.val (.long p1), .second, .val (.int p2), .val (.int p3), .val (.ref b1), .val (.int (1 : Int32)), .val (.ref rr57)] [(.long p1), (.int p3), (.int (1 : Int32)), (.int (4 : Int32)), (.ref rr57)])) rfl (by rw [hml]; rfl) (argsL := [(.ref rr57), (.int (4 : Int32)), (.int (1 : Int32)), (.int p3), (.long p1)]) (rest := []) (lenOf own_pd9 rfl) rfl (by show 2 * 0 + _ ≤ _; exact Nat.le_of_eq rfl) (hb hby at_119) (fun _ _ => ⟨rfl, e77, (by decide : 3 + 0 ≤ _), (by decide : 74 + 0 ≤ _)⟩)
    dsimp only [Pt.U, Pt.locs, Pt.cells, Pt.slots] at X80 l80 y80 z80 st80 hQ80
    subst l80 y80 z80
    obtain ⟨rfl, N80q, e80⟩ := hQ80
    have N80 := Fr.app N77 N80q
    have k81 : ∀ t, Steps p.tables e below (T80.setTop (mkF m 122 #[.val (.long p1), .second, .val (.int p2), .val (.int p3), .val (.ref b1), .val (.int (1 : Int32)), .val (.ref rr57)] [(.int (own_vat4 (1 : Int32) p3 p1 (nar .byte ((((p1.toInt32).toUInt32 >>> ((24 : Int32) &&& 31).toUInt32).toInt32).toInt8.toInt32))))])) t → Steps p.tables e below (s₁.setTop (entryFrame m #[(.long p1), (.int p2), (.int p3)] maxLocals)) t := fun t k => k79 t (st80 t k)
    have k82 : ∀ t, Steps p.tables e below (T80.setTop (mkF m 132 #[.val (.long p1), .second, .val (.int p2), .val (.int p3), .val (.ref b1), .val (.int (1 : Int32)), .val (.ref rr57)] [(.long p1), (.int p3), (.int (1 : Int32)), (.int (5 : Int32)), (.ref rr57)])) t → Steps p.tables e below (s₁.setTop (entryFrame m #[(.long p1), (.int p2), (.int p3)] maxLocals)) t := by
      intro t k
      refine k81 t ?_
      show Steps p.tables e below (T80.setTop (mkF m 122 #[.val (.long p1), .second, .val (.int p2), .val (.int p3), .val (.ref b1), .val (.int (1 : Int32)), .val (.ref rr57)] [(.int (own_vat4 (1 : Int32) p3 p1 (nar .byte ((((p1.toInt32).toUInt32 >>> ((24 : Int32) &&& 31).toUInt32).toInt32).toInt8.toInt32))))])) _
      refine XS.ifNo X80.here hx rfl (hb hby at_122) rfl ((if0 _ _).trans (feq (own_t1_4 p1 p3)).1) ?_
      show Steps p.tables e below (T80.setTop (mkF m 125 #[.val (.long p1), .second, .val (.int p2), .val (.int p3), .val (.ref b1), .val (.int (1 : Int32)), .val (.ref rr57)] [])) _
      refine XS.aload X80.here hx rfl (hb hby at_125) rfl rfl ?_
      show Steps p.tables e below (T80.setTop (mkF m 127 #[.val (.long p1), .second, .val (.int p2), .val (.int p3), .val (.ref b1), .val (.int (1 : Int32)), .val (.ref rr57)] [(.ref rr57)])) _
      refine XS.iconst X80.here hx rfl (hb hby at_127) ?_
      show Steps p.tables e below (T80.setTop (mkF m 128 #[.val (.long p1), .second, .val (.int p2), .val (.int p3), .val (.ref b1), .val (.int (1 : Int32)), .val (.ref rr57)] [(.int (5 : Int32)), (.ref rr57)])) _
      refine XS.iload X80.here hx rfl (hb hby at_128) rfl ?_
      show Steps p.tables e below (T80.setTop (mkF m 130 #[.val (.long p1), .second, .val (.int p2), .val (.int p3), .val (.ref b1), .val (.int (1 : Int32)), .val (.ref rr57)] [(.int (1 : Int32)), (.int (5 : Int32)), (.ref rr57)])) _
      refine XS.iloadN X80.here hx rfl (hb hby at_130) rfl ?_
      show Steps p.tables e below (T80.setTop (mkF m 131 #[.val (.long p1), .second, .val (.int p2), .val (.int p3), .val (.ref b1), .val (.int (1 : Int32)), .val (.ref rr57)] [(.int p3), (.int (1 : Int32)), (.int (5 : Int32)), (.ref rr57)])) _
      refine XS.lloadN X80.here hx rfl (hb hby at_131) rfl ?_
      exact k
    obtain ⟨_, _, ⟨T83, L83, k83c, n83⟩, -, X83, ⟨Lc83, hQ83, l83, y83, z83⟩, st83⟩ := Jvm.LawKit.callS X80 hx (y := (⟨"com/example/reckoner/reckoner/BytesSetU2PinLaw", "at", "([BIIIJ)Z"⟩ : MethodName)) hown (mvT hZ (hw _ (List.mem_of_getElem? (i := 56) rfl))) (mvT hZ (hw _ (List.mem_of_getElem? (i := 57) rfl))) (mvT hZ (hw _ (List.mem_of_getElem? (i := 58) rfl))) (mvT hZ (hw _ (List.mem_of_getElem? (i := 59) rfl))) (by decide) (backOf (W := 0) (own_rmat5 l Z a0 hw [] rr57 (1 : Int32) p3 p1 rc57 (nar .byte ((((((p1.toUInt64 >>> ((32 : Int32) &&& 0x3f).toInt64.toUInt64).toInt64).toInt32).toUInt32 >>> ((24 : Int32) &&& 31).toUInt32).toInt32).toInt8.toInt32)) (nar .byte (((p3.toUInt32 >>> ((8 : Int32) &&& 31).toUInt32).toInt32).toInt8.toInt32)) (nar .byte (p3.toInt8.toInt32)) (nar .byte ((((((p1.toUInt64 >>> ((32 : Int32) &&& 0x3f).toInt64.toUInt64).toInt64).toInt32).toUInt32 >>> ((0 : Int32) &&& 31).toUInt32).toInt32).toInt8.toInt32)) (nar .byte ((((p1.toInt32).toUInt32 >>> ((24 : Int32) &&& 31).toUInt32).toInt32).toInt8.toInt32)) (nar .byte ((((p1.toInt32).toUInt32 >>> ((16 : Int32) &&& 31).toUInt32).toInt32).toInt8.toInt32)) (nar .byte ((((p1.toInt32).toUInt32 >>> ((8 : Int32) &&& 31).toUInt32).toInt32).toInt8.toInt32)) (nar .byte ((((p1.toInt32).toUInt32 >>> ((0 : Int32) &&& 31).toUInt32).toInt32).toInt8.toInt32)) T57.heap n0 Z57 Vr57) hZ (hw _ (List.mem_of_getElem? (i := 59) rfl)) (hw _ (List.mem_of_getElem? (i := 58) rfl)) (by decide) (by decide)) (g := (mkF m 132 #[.val (.long p1), .second, .val (.int p2), .val (.int p3), .val (.ref b1), .val (.int (1 : Int32)), .val (.ref rr57)] [(.long p1), (.int p3), (.int (1 : Int32)), (.int (5 : Int32)), (.ref rr57)])) rfl (by rw [hml]; rfl) (argsL := [(.ref rr57), (.int (5 : Int32)), (.int (1 : Int32)), (.int p3), (.long p1)]) (rest := []) (lenOf own_pd9 rfl) rfl (by show 2 * 0 + _ ≤ _; exact Nat.le_of_eq rfl) (hb hby at_132) (fun _ _ => ⟨rfl, e80, (by decide : 3 + 0 ≤ _), (by decide : 74 + 0 ≤ _)⟩)
    dsimp only [Pt.U, Pt.locs, Pt.cells, Pt.slots] at X83 l83 y83 z83 st83 hQ83
    subst l83 y83 z83
    obtain ⟨rfl, N83q, e83⟩ := hQ83
    have N83 := Fr.app N80 N83q
    have k84 : ∀ t, Steps p.tables e below (T83.setTop (mkF m 135 #[.val (.long p1), .second, .val (.int p2), .val (.int p3), .val (.ref b1), .val (.int (1 : Int32)), .val (.ref rr57)] [(.int (own_vat5 (1 : Int32) p3 p1 (nar .byte ((((p1.toInt32).toUInt32 >>> ((16 : Int32) &&& 31).toUInt32).toInt32).toInt8.toInt32))))])) t → Steps p.tables e below (s₁.setTop (entryFrame m #[(.long p1), (.int p2), (.int p3)] maxLocals)) t := fun t k => k82 t (st83 t k)
    have k85 : ∀ t, Steps p.tables e below (T83.setTop (mkF m 146 #[.val (.long p1), .second, .val (.int p2), .val (.int p3), .val (.ref b1), .val (.int (1 : Int32)), .val (.ref rr57)] [(.long p1), (.int p3), (.int (1 : Int32)), (.int (6 : Int32)), (.ref rr57)])) t → Steps p.tables e below (s₁.setTop (entryFrame m #[(.long p1), (.int p2), (.int p3)] maxLocals)) t := by
      intro t k
      refine k84 t ?_
      show Steps p.tables e below (T83.setTop (mkF m 135 #[.val (.long p1), .second, .val (.int p2), .val (.int p3), .val (.ref b1), .val (.int (1 : Int32)), .val (.ref rr57)] [(.int (own_vat5 (1 : Int32) p3 p1 (nar .byte ((((p1.toInt32).toUInt32 >>> ((16 : Int32) &&& 31).toUInt32).toInt32).toInt8.toInt32))))])) _
      refine XS.ifNo X83.here hx rfl (hb hby at_135) rfl ((if0 _ _).trans (feq (own_t1_5 p1 p3)).1) ?_
      show Steps p.tables e below (T83.setTop (mkF m 138 #[.val (.long p1), .second, .val (.int p2), .val (.int p3), .val (.ref b1), .val (.int (1 : Int32)), .val (.ref rr57)] [])) _
      refine XS.aload X83.here hx rfl (hb hby at_138) rfl rfl ?_
      show Steps p.tables e below (T83.setTop (mkF m 140 #[.val (.long p1), .second, .val (.int p2), .val (.int p3), .val (.ref b1), .val (.int (1 : Int32)), .val (.ref rr57)] [(.ref rr57)])) _
      refine XS.bipush X83.here hx rfl (hb hby at_140) ?_
      show Steps p.tables e below (T83.setTop (mkF m 142 #[.val (.long p1), .second, .val (.int p2), .val (.int p3), .val (.ref b1), .val (.int (1 : Int32)), .val (.ref rr57)] [(.int (6 : Int32)), (.ref rr57)])) _
      refine XS.iload X83.here hx rfl (hb hby at_142) rfl ?_
      show Steps p.tables e below (T83.setTop (mkF m 144 #[.val (.long p1), .second, .val (.int p2), .val (.int p3), .val (.ref b1), .val (.int (1 : Int32)), .val (.ref rr57)] [(.int (1 : Int32)), (.int (6 : Int32)), (.ref rr57)])) _
      refine XS.iloadN X83.here hx rfl (hb hby at_144) rfl ?_
      show Steps p.tables e below (T83.setTop (mkF m 145 #[.val (.long p1), .second, .val (.int p2), .val (.int p3), .val (.ref b1), .val (.int (1 : Int32)), .val (.ref rr57)] [(.int p3), (.int (1 : Int32)), (.int (6 : Int32)), (.ref rr57)])) _
      refine XS.lloadN X83.here hx rfl (hb hby at_145) rfl ?_
      exact k
    obtain ⟨_, _, ⟨T86, L86, k86c, n86⟩, -, X86, ⟨Lc86, hQ86, l86, y86, z86⟩, st86⟩ := Jvm.LawKit.callS X83 hx (y := (⟨"com/example/reckoner/reckoner/BytesSetU2PinLaw", "at", "([BIIIJ)Z"⟩ : MethodName)) hown (mvT hZ (hw _ (List.mem_of_getElem? (i := 56) rfl))) (mvT hZ (hw _ (List.mem_of_getElem? (i := 57) rfl))) (mvT hZ (hw _ (List.mem_of_getElem? (i := 58) rfl))) (mvT hZ (hw _ (List.mem_of_getElem? (i := 59) rfl))) (by decide) (backOf (W := 0) (own_rmat6 l Z a0 hw [] rr57 (1 : Int32) p3 p1 rc57 (nar .byte ((((((p1.toUInt64 >>> ((32 : Int32) &&& 0x3f).toInt64.toUInt64).toInt64).toInt32).toUInt32 >>> ((24 : Int32) &&& 31).toUInt32).toInt32).toInt8.toInt32)) (nar .byte (((p3.toUInt32 >>> ((8 : Int32) &&& 31).toUInt32).toInt32).toInt8.toInt32)) (nar .byte (p3.toInt8.toInt32)) (nar .byte ((((((p1.toUInt64 >>> ((32 : Int32) &&& 0x3f).toInt64.toUInt64).toInt64).toInt32).toUInt32 >>> ((0 : Int32) &&& 31).toUInt32).toInt32).toInt8.toInt32)) (nar .byte ((((p1.toInt32).toUInt32 >>> ((24 : Int32) &&& 31).toUInt32).toInt32).toInt8.toInt32)) (nar .byte ((((p1.toInt32).toUInt32 >>> ((16 : Int32) &&& 31).toUInt32).toInt32).toInt8.toInt32)) (nar .byte ((((p1.toInt32).toUInt32 >>> ((8 : Int32) &&& 31).toUInt32).toInt32).toInt8.toInt32)) (nar .byte ((((p1.toInt32).toUInt32 >>> ((0 : Int32) &&& 31).toUInt32).toInt32).toInt8.toInt32)) T57.heap n0 Z57 Vr57) hZ (hw _ (List.mem_of_getElem? (i := 59) rfl)) (hw _ (List.mem_of_getElem? (i := 58) rfl)) (by decide) (by decide)) (g := (mkF m 146 #[.val (.long p1), .second, .val (.int p2), .val (.int p3), .val (.ref b1), .val (.int (1 : Int32)), .val (.ref rr57)] [(.long p1), (.int p3), (.int (1 : Int32)), (.int (6 : Int32)), (.ref rr57)])) rfl (by rw [hml]; rfl) (argsL := [(.ref rr57), (.int (6 : Int32)), (.int (1 : Int32)), (.int p3), (.long p1)]) (rest := []) (lenOf own_pd9 rfl) rfl (by show 2 * 0 + _ ≤ _; exact Nat.le_of_eq rfl) (hb hby at_146) (fun _ _ => ⟨rfl, e83, (by decide : 3 + 0 ≤ _), (by decide : 74 + 0 ≤ _)⟩)
    dsimp only [Pt.U, Pt.locs, Pt.cells, Pt.slots] at X86 l86 y86 z86 st86 hQ86
    subst l86 y86 z86
    obtain ⟨rfl, N86q, e86⟩ := hQ86
    have N86 := Fr.app N83 N86q
    have k87 : ∀ t, Steps p.tables e below (T86.setTop (mkF m 149 #[.val (.long p1), .second, .val (.int p2), .val (.int p3), .val (.ref b1), .val (.int (1 : Int32)), .val (.ref rr57)] [(.int (own_vat6 (1 : Int32) p3 p1 (nar .byte ((((p1.toInt32).toUInt32 >>> ((8 : Int32) &&& 31).toUInt32).toInt32).toInt8.toInt32))))])) t → Steps p.tables e below (s₁.setTop (entryFrame m #[(.long p1), (.int p2), (.int p3)] maxLocals)) t := fun t k => k85 t (st86 t k)
    have k88 : ∀ t, Steps p.tables e below (T86.setTop (mkF m 160 #[.val (.long p1), .second, .val (.int p2), .val (.int p3), .val (.ref b1), .val (.int (1 : Int32)), .val (.ref rr57)] [(.long p1), (.int p3), (.int (1 : Int32)), (.int (7 : Int32)), (.ref rr57)])) t → Steps p.tables e below (s₁.setTop (entryFrame m #[(.long p1), (.int p2), (.int p3)] maxLocals)) t := by
      intro t k
      refine k87 t ?_
      show Steps p.tables e below (T86.setTop (mkF m 149 #[.val (.long p1), .second, .val (.int p2), .val (.int p3), .val (.ref b1), .val (.int (1 : Int32)), .val (.ref rr57)] [(.int (own_vat6 (1 : Int32) p3 p1 (nar .byte ((((p1.toInt32).toUInt32 >>> ((8 : Int32) &&& 31).toUInt32).toInt32).toInt8.toInt32))))])) _
      refine XS.ifNo X86.here hx rfl (hb hby at_149) rfl ((if0 _ _).trans (feq (own_t1_6 p1 p3)).1) ?_
      show Steps p.tables e below (T86.setTop (mkF m 152 #[.val (.long p1), .second, .val (.int p2), .val (.int p3), .val (.ref b1), .val (.int (1 : Int32)), .val (.ref rr57)] [])) _
      refine XS.aload X86.here hx rfl (hb hby at_152) rfl rfl ?_
      show Steps p.tables e below (T86.setTop (mkF m 154 #[.val (.long p1), .second, .val (.int p2), .val (.int p3), .val (.ref b1), .val (.int (1 : Int32)), .val (.ref rr57)] [(.ref rr57)])) _
      refine XS.bipush X86.here hx rfl (hb hby at_154) ?_
      show Steps p.tables e below (T86.setTop (mkF m 156 #[.val (.long p1), .second, .val (.int p2), .val (.int p3), .val (.ref b1), .val (.int (1 : Int32)), .val (.ref rr57)] [(.int (7 : Int32)), (.ref rr57)])) _
      refine XS.iload X86.here hx rfl (hb hby at_156) rfl ?_
      show Steps p.tables e below (T86.setTop (mkF m 158 #[.val (.long p1), .second, .val (.int p2), .val (.int p3), .val (.ref b1), .val (.int (1 : Int32)), .val (.ref rr57)] [(.int (1 : Int32)), (.int (7 : Int32)), (.ref rr57)])) _
      refine XS.iloadN X86.here hx rfl (hb hby at_158) rfl ?_
      show Steps p.tables e below (T86.setTop (mkF m 159 #[.val (.long p1), .second, .val (.int p2), .val (.int p3), .val (.ref b1), .val (.int (1 : Int32)), .val (.ref rr57)] [(.int p3), (.int (1 : Int32)), (.int (7 : Int32)), (.ref rr57)])) _
      refine XS.lloadN X86.here hx rfl (hb hby at_159) rfl ?_
      exact k
    obtain ⟨_, _, ⟨T89, L89, k89c, n89⟩, -, X89, ⟨Lc89, hQ89, l89, y89, z89⟩, st89⟩ := Jvm.LawKit.callS X86 hx (y := (⟨"com/example/reckoner/reckoner/BytesSetU2PinLaw", "at", "([BIIIJ)Z"⟩ : MethodName)) hown (mvT hZ (hw _ (List.mem_of_getElem? (i := 56) rfl))) (mvT hZ (hw _ (List.mem_of_getElem? (i := 57) rfl))) (mvT hZ (hw _ (List.mem_of_getElem? (i := 58) rfl))) (mvT hZ (hw _ (List.mem_of_getElem? (i := 59) rfl))) (by decide) (backOf (W := 0) (own_rmat7 l Z a0 hw [] rr57 (1 : Int32) p3 p1 rc57 (nar .byte ((((((p1.toUInt64 >>> ((32 : Int32) &&& 0x3f).toInt64.toUInt64).toInt64).toInt32).toUInt32 >>> ((24 : Int32) &&& 31).toUInt32).toInt32).toInt8.toInt32)) (nar .byte (((p3.toUInt32 >>> ((8 : Int32) &&& 31).toUInt32).toInt32).toInt8.toInt32)) (nar .byte (p3.toInt8.toInt32)) (nar .byte ((((((p1.toUInt64 >>> ((32 : Int32) &&& 0x3f).toInt64.toUInt64).toInt64).toInt32).toUInt32 >>> ((0 : Int32) &&& 31).toUInt32).toInt32).toInt8.toInt32)) (nar .byte ((((p1.toInt32).toUInt32 >>> ((24 : Int32) &&& 31).toUInt32).toInt32).toInt8.toInt32)) (nar .byte ((((p1.toInt32).toUInt32 >>> ((16 : Int32) &&& 31).toUInt32).toInt32).toInt8.toInt32)) (nar .byte ((((p1.toInt32).toUInt32 >>> ((8 : Int32) &&& 31).toUInt32).toInt32).toInt8.toInt32)) (nar .byte ((((p1.toInt32).toUInt32 >>> ((0 : Int32) &&& 31).toUInt32).toInt32).toInt8.toInt32)) T57.heap n0 Z57 Vr57) hZ (hw _ (List.mem_of_getElem? (i := 59) rfl)) (hw _ (List.mem_of_getElem? (i := 58) rfl)) (by decide) (by decide)) (g := (mkF m 160 #[.val (.long p1), .second, .val (.int p2), .val (.int p3), .val (.ref b1), .val (.int (1 : Int32)), .val (.ref rr57)] [(.long p1), (.int p3), (.int (1 : Int32)), (.int (7 : Int32)), (.ref rr57)])) rfl (by rw [hml]; rfl) (argsL := [(.ref rr57), (.int (7 : Int32)), (.int (1 : Int32)), (.int p3), (.long p1)]) (rest := []) (lenOf own_pd9 rfl) rfl (by show 2 * 0 + _ ≤ _; exact Nat.le_of_eq rfl) (hb hby at_160) (fun _ _ => ⟨rfl, e86, (by decide : 3 + 0 ≤ _), (by decide : 74 + 0 ≤ _)⟩)
    dsimp only [Pt.U, Pt.locs, Pt.cells, Pt.slots] at X89 l89 y89 z89 st89 hQ89
    subst l89 y89 z89
    obtain ⟨rfl, N89q, e89⟩ := hQ89
    have N89 := Fr.app N86 N89q
    have k90 : ∀ t, Steps p.tables e below (T89.setTop (mkF m 163 #[.val (.long p1), .second, .val (.int p2), .val (.int p3), .val (.ref b1), .val (.int (1 : Int32)), .val (.ref rr57)] [(.int (own_vat7 (1 : Int32) p3 p1 (nar .byte ((((p1.toInt32).toUInt32 >>> ((0 : Int32) &&& 31).toUInt32).toInt32).toInt8.toInt32))))])) t → Steps p.tables e below (s₁.setTop (entryFrame m #[(.long p1), (.int p2), (.int p3)] maxLocals)) t := fun t k => k88 t (st89 t k)
    have k91 : ∀ t, Steps p.tables e below (T89.setTop (mkF m 171 #[.val (.long p1), .second, .val (.int p2), .val (.int p3), .val (.ref b1), .val (.int (1 : Int32)), .val (.ref rr57)] [(.int (1 : Int32))])) t → Steps p.tables e below (s₁.setTop (entryFrame m #[(.long p1), (.int p2), (.int p3)] maxLocals)) t := by
      intro t k
      refine k90 t ?_
      show Steps p.tables e below (T89.setTop (mkF m 163 #[.val (.long p1), .second, .val (.int p2), .val (.int p3), .val (.ref b1), .val (.int (1 : Int32)), .val (.ref rr57)] [(.int (own_vat7 (1 : Int32) p3 p1 (nar .byte ((((p1.toInt32).toUInt32 >>> ((0 : Int32) &&& 31).toUInt32).toInt32).toInt8.toInt32))))])) _
      refine XS.ifNo X89.here hx rfl (hb hby at_163) rfl ((if0 _ _).trans (feq (own_t1_7 p1 p3)).1) ?_
      show Steps p.tables e below (T89.setTop (mkF m 166 #[.val (.long p1), .second, .val (.int p2), .val (.int p3), .val (.ref b1), .val (.int (1 : Int32)), .val (.ref rr57)] [])) _
      refine XS.iconst X89.here hx rfl (hb hby at_166) ?_
      show Steps p.tables e below (T89.setTop (mkF m 167 #[.val (.long p1), .second, .val (.int p2), .val (.int p3), .val (.ref b1), .val (.int (1 : Int32)), .val (.ref rr57)] [(.int (1 : Int32))])) _
      refine XS.goto X89.here hx rfl (pc0 := 167) (pc' := 171) rfl (hb hby at_167) (by decide) (by decide) ?_
      exact k
    obtain ⟨fs, hr, hrun, hended, hW, hsame⟩ := X89.leave (v := (some (.int (1 : Int32)))) (fun h => by rw [Bd.returns] at h; cases h)
    refine ⟨_, _, k91 _ ?_, hrun, hended, _, _, rfl, ?_, ⟨_, rfl⟩, hW, hsame.mono (by decide) (by decide)⟩
    · exact retN X89 hx (t := .boolean) Bd.returns (by simp) (hb hby at_171) hr
    · exact ⟨rfl, N89⟩
  · have k92 : ∀ t, Steps p.tables e below (T9.setTop (mkF m 25 #[.val (.long p1), .second, .val (.int p2), .val (.int p3), .val (.ref b1), .val (.int (2 : Int32)), .unset] [])) t → Steps p.tables e below (s₁.setTop (entryFrame m #[(.long p1), (.int p2), (.int p3)] maxLocals)) t := by have z := k11; rw [he] at z; exact z
    have k93 : ∀ t, Steps p.tables e below (T9.setTop (mkF m 30 #[.val (.long p1), .second, .val (.int p2), .val (.int p3), .val (.ref b1), .val (.int (2 : Int32)), .unset] [(.int p3), (.int (2 : Int32)), (.ref b1)])) t → Steps p.tables e below (s₁.setTop (entryFrame m #[(.long p1), (.int p2), (.int p3)] maxLocals)) t := by
      intro t k
      refine k92 t ?_
      show Steps p.tables e below (T9.setTop (mkF m 25 #[.val (.long p1), .second, .val (.int p2), .val (.int p3), .val (.ref b1), .val (.int (2 : Int32)), .unset] [])) _
      refine XS.aload X9.here hx rfl (hb hby at_25) rfl rfl ?_
      show Steps p.tables e below (T9.setTop (mkF m 27 #[.val (.long p1), .second, .val (.int p2), .val (.int p3), .val (.ref b1), .val (.int (2 : Int32)), .unset] [(.ref b1)])) _
      refine XS.iload X9.here hx rfl (hb hby at_27) rfl ?_
      show Steps p.tables e below (T9.setTop (mkF m 29 #[.val (.long p1), .second, .val (.int p2), .val (.int p3), .val (.ref b1), .val (.int (2 : Int32)), .unset] [(.int (2 : Int32)), (.ref b1)])) _
      refine XS.iloadN X9.here hx rfl (hb hby at_29) rfl ?_
      exact k
    obtain ⟨cq94, kq94, q94a, q94b, q94c⟩ := isOf hZ rfl Eq9
    obtain ⟨_, _, ⟨T94, L94, k94c, n94⟩, -, X94, ⟨Lc94, hQ94, l94, y94, z94⟩, st94⟩ := X9.virtualBack hx (y := (⟨"com/example/reckoner/reckoner/Bytes", "setU2", "(II)V"⟩ : MethodName)) (z := (⟨"com/example/reckoner/reckoner/Bytes", "setU2", "(II)V"⟩ : MethodName)) hown (mvT hZ (hw _ (List.mem_of_getElem? (i := 29) rfl))) (mvT hZ (hw _ (List.mem_of_getElem? (i := 30) rfl))) (notFace_of_selects (args := #[]) (mvT hZ (hw _ (List.mem_of_getElem? (i := 32) rfl)))) (mvT hZ (hw _ (List.mem_of_getElem? (i := 32) rfl))) (mvT hZ (hw _ (List.mem_of_getElem? (i := 31) rfl))) (by decide) (backOf (W := 0) (own_rmsu2 l Z a0 hw [] b1 p3 (8 : Int32) ar6 cc6 (nar .byte ((((((p1.toUInt64 >>> ((32 : Int32) &&& 0x3f).toInt64.toUInt64).toInt64).toInt32).toUInt32 >>> ((24 : Int32) &&& 31).toUInt32).toInt32).toInt8.toInt32)) (nar .byte ((((((p1.toUInt64 >>> ((32 : Int32) &&& 0x3f).toInt64.toUInt64).toInt64).toInt32).toUInt32 >>> ((16 : Int32) &&& 31).toUInt32).toInt32).toInt8.toInt32)) (nar .byte ((((((p1.toUInt64 >>> ((32 : Int32) &&& 0x3f).toInt64.toUInt64).toInt64).toInt32).toUInt32 >>> ((8 : Int32) &&& 31).toUInt32).toInt32).toInt8.toInt32)) (nar .byte ((((((p1.toUInt64 >>> ((32 : Int32) &&& 0x3f).toInt64.toUInt64).toInt64).toInt32).toUInt32 >>> ((0 : Int32) &&& 31).toUInt32).toInt32).toInt8.toInt32)) (nar .byte ((((p1.toInt32).toUInt32 >>> ((24 : Int32) &&& 31).toUInt32).toInt32).toInt8.toInt32)) (nar .byte ((((p1.toInt32).toUInt32 >>> ((16 : Int32) &&& 31).toUInt32).toInt32).toInt8.toInt32)) (nar .byte ((((p1.toInt32).toUInt32 >>> ((8 : Int32) &&& 31).toUInt32).toInt32).toInt8.toInt32)) (nar .byte ((((p1.toInt32).toUInt32 >>> ((0 : Int32) &&& 31).toUInt32).toInt32).toInt8.toInt32)) T9.heap n0 Z9 Eq9 Fa9 Fb9 Vq9 ge1 ge6 ne6x) hZ (hw _ (List.mem_of_getElem? (i := 33) rfl)) (hw _ (List.mem_of_getElem? (i := 2) rfl)) (by decide) (by decide)) q94a q94c (g := (mkF m 30 #[.val (.long p1), .second, .val (.int p2), .val (.int p3), .val (.ref b1), .val (.int (2 : Int32)), .unset] [(.int p3), (.int (2 : Int32)), (.ref b1)])) rfl (by rw [hml]; rfl) (Steps.refl _) (argsL := [(.int (2 : Int32)), (.int p3)]) (rest := []) (lenOf own_pd6 rfl) rfl (by show 2 * 0 + _ ≤ _; exact Nat.le_of_eq rfl) (hb hby at_30) (fun _ _ => ⟨rfl, rfl, (by decide : 2 + 0 ≤ _), (by decide : 66 + 0 ≤ _)⟩)
    dsimp only [Pt.U, Pt.locs, Pt.cells, Pt.slots] at X94 l94 y94 z94 st94 hQ94
    subst l94 y94 z94
    obtain ⟨rfl, N94q, Kq94, Eq94, Fa94, Fb94, Vq94⟩ := hQ94
    have N94 := Fr.app N9 N94q
    have Z94 : n0 ≤ T94.heap.size := Nat.le_trans Z9 Kq94.1
    have k95 : ∀ t, Steps p.tables e below (T94.setTop (mkF m 33 #[.val (.long p1), .second, .val (.int p2), .val (.int p3), .val (.ref b1), .val (.int (2 : Int32)), .unset] [])) t → Steps p.tables e below (s₁.setTop (entryFrame m #[(.long p1), (.int p2), (.int p3)] maxLocals)) t := fun t k => k93 t (st94.trans k)
    have k96 : ∀ t, Steps p.tables e below (T94.setTop (mkF m 35 #[.val (.long p1), .second, .val (.int p2), .val (.int p3), .val (.ref b1), .val (.int (2 : Int32)), .unset] [(.ref b1)])) t → Steps p.tables e below (s₁.setTop (entryFrame m #[(.long p1), (.int p2), (.int p3)] maxLocals)) t := by
      intro t k
      refine k95 t ?_
      show Steps p.tables e below (T94.setTop (mkF m 33 #[.val (.long p1), .second, .val (.int p2), .val (.int p3), .val (.ref b1), .val (.int (2 : Int32)), .unset] [])) _
      refine XS.aload X94.here hx rfl (hb hby at_33) rfl rfl ?_
      exact k
    obtain ⟨cq97, kq97, q97a, q97b, q97c⟩ := isOf hZ rfl Eq94
    obtain ⟨_, _, ⟨T97, L97, k97c, n97⟩, -, X97, ⟨Lc97, hQ97, l97, y97, z97⟩, st97⟩ := X94.virtualBack hx (y := (⟨"com/example/reckoner/reckoner/Bytes", "toArray", "()[B"⟩ : MethodName)) (z := (⟨"com/example/reckoner/reckoner/Bytes", "toArray", "()[B"⟩ : MethodName)) hown (mvT hZ (hw _ (List.mem_of_getElem? (i := 34) rfl))) (mvT hZ (hw _ (List.mem_of_getElem? (i := 35) rfl))) (notFace_of_selects (args := #[]) (mvT hZ (hw _ (List.mem_of_getElem? (i := 37) rfl)))) (mvT hZ (hw _ (List.mem_of_getElem? (i := 37) rfl))) (mvT hZ (hw _ (List.mem_of_getElem? (i := 36) rfl))) (by decide) (backOf (W := 0) (own_rmta l Z a0 hw [] b1 ar6 cc6 (nar .byte ((((((p1.toUInt64 >>> ((32 : Int32) &&& 0x3f).toInt64.toUInt64).toInt64).toInt32).toUInt32 >>> ((24 : Int32) &&& 31).toUInt32).toInt32).toInt8.toInt32)) (nar .byte ((((((p1.toUInt64 >>> ((32 : Int32) &&& 0x3f).toInt64.toUInt64).toInt64).toInt32).toUInt32 >>> ((16 : Int32) &&& 31).toUInt32).toInt32).toInt8.toInt32)) (nar .byte (((p3.toUInt32 >>> ((8 : Int32) &&& 31).toUInt32).toInt32).toInt8.toInt32)) (nar .byte (p3.toInt8.toInt32)) (nar .byte ((((p1.toInt32).toUInt32 >>> ((24 : Int32) &&& 31).toUInt32).toInt32).toInt8.toInt32)) (nar .byte ((((p1.toInt32).toUInt32 >>> ((16 : Int32) &&& 31).toUInt32).toInt32).toInt8.toInt32)) (nar .byte ((((p1.toInt32).toUInt32 >>> ((8 : Int32) &&& 31).toUInt32).toInt32).toInt8.toInt32)) (nar .byte ((((p1.toInt32).toUInt32 >>> ((0 : Int32) &&& 31).toUInt32).toInt32).toInt8.toInt32)) T94.heap n0 Z94 Fa94 Fb94 Vq94) hZ (hw _ (List.mem_of_getElem? (i := 38) rfl)) (hw _ (List.mem_of_getElem? (i := 2) rfl)) (by decide) (by decide)) q97a q97c (g := (mkF m 35 #[.val (.long p1), .second, .val (.int p2), .val (.int p3), .val (.ref b1), .val (.int (2 : Int32)), .unset] [(.ref b1)])) rfl (by rw [hml]; rfl) (Steps.refl _) (argsL := []) (rest := []) (lenOf own_pd7 rfl) rfl (by show 2 * 0 + _ ≤ _; exact Nat.le_of_eq rfl) (hb hby at_35) (fun _ _ => ⟨rfl, rfl, (by decide : 2 + 1 ≤ _), (by decide : 66 + 8 ≤ _)⟩)
    dsimp only [Pt.U, Pt.locs, Pt.cells, Pt.slots] at X97 l97 y97 z97 st97 hQ97
    subst l97 y97 z97
    obtain ⟨rr97, rc97, rfl, N97q, Kq97, Vr97⟩ := hQ97
    have N97 := Fr.app N94 N97q
    have f98 := Eq94.keep Kq97
    have f99 := Fa94.keep Kq97 List.not_mem_nil
    have f100 := Fb94.keep Kq97 List.not_mem_nil
    have f101 := Vq94.keep Kq97 List.not_mem_nil
    have Z97 : n0 ≤ T97.heap.size := Nat.le_trans Z94 Kq97.1
    have k102 : ∀ t, Steps p.tables e below (T97.setTop (mkF m 38 #[.val (.long p1), .second, .val (.int p2), .val (.int p3), .val (.ref b1), .val (.int (2 : Int32)), .unset] [(.ref rr97)])) t → Steps p.tables e below (s₁.setTop (entryFrame m #[(.long p1), (.int p2), (.int p3)] maxLocals)) t := fun t k => k96 t (st97.trans k)
    have k103 : ∀ t, Steps p.tables e below (T97.setTop (mkF m 42 #[.val (.long p1), .second, .val (.int p2), .val (.int p3), .val (.ref b1), .val (.int (2 : Int32)), .val (.ref rr97)] [(.ref b1)])) t → Steps p.tables e below (s₁.setTop (entryFrame m #[(.long p1), (.int p2), (.int p3)] maxLocals)) t := by
      intro t k
      refine k102 t ?_
      show Steps p.tables e below (T97.setTop (mkF m 38 #[.val (.long p1), .second, .val (.int p2), .val (.int p3), .val (.ref b1), .val (.int (2 : Int32)), .unset] [(.ref rr97)])) _
      refine XS.astore X97.here hx rfl (hb hby at_38) rfl rfl (l' := #[.val (.long p1), .second, .val (.int p2), .val (.int p3), .val (.ref b1), .val (.int (2 : Int32)), .val (.ref rr97)]) rfl ?_
      show Steps p.tables e below (T97.setTop (mkF m 40 #[.val (.long p1), .second, .val (.int p2), .val (.int p3), .val (.ref b1), .val (.int (2 : Int32)), .val (.ref rr97)] [])) _
      refine XS.aload X97.here hx rfl (hb hby at_40) rfl rfl ?_
      exact k
    obtain ⟨cq104, kq104, q104a, q104b, q104c⟩ := isOf hZ rfl f98
    obtain ⟨_, _, ⟨T104, L104, k104c, n104⟩, -, X104, ⟨Lc104, hQ104, l104, y104, z104⟩, st104⟩ := X97.virtualBack hx (y := (⟨"com/example/reckoner/reckoner/Bytes", "length", "()I"⟩ : MethodName)) (z := (⟨"com/example/reckoner/reckoner/Bytes", "length", "()I"⟩ : MethodName)) hown (mvT hZ (hw _ (List.mem_of_getElem? (i := 51) rfl))) (mvT hZ (hw _ (List.mem_of_getElem? (i := 52) rfl))) (notFace_of_selects (args := #[]) (mvT hZ (hw _ (List.mem_of_getElem? (i := 54) rfl)))) (mvT hZ (hw _ (List.mem_of_getElem? (i := 54) rfl))) (mvT hZ (hw _ (List.mem_of_getElem? (i := 53) rfl))) (by decide) (backOf (W := 0) (own_rmln l Z a0 hw [] b1 (8 : Int32) T97.heap n0 Z97 f100) hZ (hw _ (List.mem_of_getElem? (i := 55) rfl)) (hw _ (List.mem_of_getElem? (i := 2) rfl)) (by decide) (by decide)) q104a q104c (g := (mkF m 42 #[.val (.long p1), .second, .val (.int p2), .val (.int p3), .val (.ref b1), .val (.int (2 : Int32)), .val (.ref rr97)] [(.ref b1)])) rfl (by rw [hml]; rfl) (Steps.refl _) (argsL := []) (rest := []) (lenOf own_pd8 rfl) rfl (by show 2 * 0 + _ ≤ _; exact Nat.le_of_eq rfl) (hb hby at_42) (fun _ _ => ⟨rfl, rfl, (by decide : 3 + 0 ≤ _), (by decide : 74 + 0 ≤ _)⟩)
    dsimp only [Pt.U, Pt.locs, Pt.cells, Pt.slots] at X104 l104 y104 z104 st104 hQ104
    subst l104 y104 z104
    obtain ⟨hr104, N104q, e104⟩ := hQ104
    rw [show (own_vln (8 : Int32)) = (8 : Int32) from rfl] at hr104
    subst hr104
    have N104 := Fr.app N97 N104q
    have k105 : ∀ t, Steps p.tables e below (T104.setTop (mkF m 45 #[.val (.long p1), .second, .val (.int p2), .val (.int p3), .val (.ref b1), .val (.int (2 : Int32)), .val (.ref rr97)] [(.int (8 : Int32))])) t → Steps p.tables e below (s₁.setTop (entryFrame m #[(.long p1), (.int p2), (.int p3)] maxLocals)) t := fun t k => k103 t (st104.trans k)
    obtain ⟨cl106, Ar106, qa106, Sa106, Na106, Ha106, Ga106⟩ := id Vr97
    have k107 : ∀ t, Steps p.tables e below (T104.setTop (mkF m 67 #[.val (.long p1), .second, .val (.int p2), .val (.int p3), .val (.ref b1), .val (.int (2 : Int32)), .val (.ref rr97)] [(.long p1), (.int p3), (.int (2 : Int32)), (.int (0 : Int32)), (.ref rr97)])) t → Steps p.tables e below (s₁.setTop (entryFrame m #[(.long p1), (.int p2), (.int p3)] maxLocals)) t := by
      intro t k
      refine k105 t ?_
      show Steps p.tables e below (T104.setTop (mkF m 45 #[.val (.long p1), .second, .val (.int p2), .val (.int p3), .val (.ref b1), .val (.int (2 : Int32)), .val (.ref rr97)] [(.int (8 : Int32))])) _
      refine XS.bipush X104.here hx rfl (hb hby at_45) ?_
      show Steps p.tables e below (T104.setTop (mkF m 47 #[.val (.long p1), .second, .val (.int p2), .val (.int p3), .val (.ref b1), .val (.int (2 : Int32)), .val (.ref rr97)] [(.int (8 : Int32)), (.int (8 : Int32))])) _
      refine XS.icmpNo X104.here hx rfl (hb hby at_47) rfl (teq (rfl : (8 : Int32) = (8 : Int32))).2 ?_
      show Steps p.tables e below (T104.setTop (mkF m 50 #[.val (.long p1), .second, .val (.int p2), .val (.int p3), .val (.ref b1), .val (.int (2 : Int32)), .val (.ref rr97)] [])) _
      refine XS.aload X104.here hx rfl (hb hby at_50) rfl rfl ?_
      show Steps p.tables e below (T104.setTop (mkF m 52 #[.val (.long p1), .second, .val (.int p2), .val (.int p3), .val (.ref b1), .val (.int (2 : Int32)), .val (.ref rr97)] [(.ref rr97)])) _
      refine X104.arraylength hx (by rw [e104]; exact Ar106.1) (State.isArrayOf_alike hZ.alike Ar106.2.1) (g := (mkF m 52 #[.val (.long p1), .second, .val (.int p2), .val (.int p3), .val (.ref b1), .val (.int (2 : Int32)), .val (.ref rr97)] [(.ref rr97)])) rfl rfl (hb hby at_52) _ ?_
      rw [len_of Sa106 Na106]
      show Steps p.tables e below (T104.setTop (mkF m 53 #[.val (.long p1), .second, .val (.int p2), .val (.int p3), .val (.ref b1), .val (.int (2 : Int32)), .val (.ref rr97)] [(.int (8 : Int32))])) _
      refine XS.bipush X104.here hx rfl (hb hby at_53) ?_
      show Steps p.tables e below (T104.setTop (mkF m 55 #[.val (.long p1), .second, .val (.int p2), .val (.int p3), .val (.ref b1), .val (.int (2 : Int32)), .val (.ref rr97)] [(.int (8 : Int32)), (.int (8 : Int32))])) _
      refine XS.icmpYes X104.here hx rfl (pc0 := 55) (pc' := 60) rfl (hb hby at_55) rfl (teq (rfl : (8 : Int32) = (8 : Int32))).1 (by decide) (by decide) ?_
      show Steps p.tables e below (T104.setTop (mkF m 60 #[.val (.long p1), .second, .val (.int p2), .val (.int p3), .val (.ref b1), .val (.int (2 : Int32)), .val (.ref rr97)] [])) _
      refine XS.aload X104.here hx rfl (hb hby at_60) rfl rfl ?_
      show Steps p.tables e below (T104.setTop (mkF m 62 #[.val (.long p1), .second, .val (.int p2), .val (.int p3), .val (.ref b1), .val (.int (2 : Int32)), .val (.ref rr97)] [(.ref rr97)])) _
      refine XS.iconst X104.here hx rfl (hb hby at_62) ?_
      show Steps p.tables e below (T104.setTop (mkF m 63 #[.val (.long p1), .second, .val (.int p2), .val (.int p3), .val (.ref b1), .val (.int (2 : Int32)), .val (.ref rr97)] [(.int (0 : Int32)), (.ref rr97)])) _
      refine XS.iload X104.here hx rfl (hb hby at_63) rfl ?_
      show Steps p.tables e below (T104.setTop (mkF m 65 #[.val (.long p1), .second, .val (.int p2), .val (.int p3), .val (.ref b1), .val (.int (2 : Int32)), .val (.ref rr97)] [(.int (2 : Int32)), (.int (0 : Int32)), (.ref rr97)])) _
      refine XS.iloadN X104.here hx rfl (hb hby at_65) rfl ?_
      show Steps p.tables e below (T104.setTop (mkF m 66 #[.val (.long p1), .second, .val (.int p2), .val (.int p3), .val (.ref b1), .val (.int (2 : Int32)), .val (.ref rr97)] [(.int p3), (.int (2 : Int32)), (.int (0 : Int32)), (.ref rr97)])) _
      refine XS.lloadN X104.here hx rfl (hb hby at_66) rfl ?_
      exact k
    obtain ⟨_, _, ⟨T108, L108, k108c, n108⟩, -, X108, ⟨Lc108, hQ108, l108, y108, z108⟩, st108⟩ := Jvm.LawKit.callS X104 hx (y := (⟨"com/example/reckoner/reckoner/BytesSetU2PinLaw", "at", "([BIIIJ)Z"⟩ : MethodName)) hown (mvT hZ (hw _ (List.mem_of_getElem? (i := 56) rfl))) (mvT hZ (hw _ (List.mem_of_getElem? (i := 57) rfl))) (mvT hZ (hw _ (List.mem_of_getElem? (i := 58) rfl))) (mvT hZ (hw _ (List.mem_of_getElem? (i := 59) rfl))) (by decide) (backOf (W := 0) (own_rmat0 l Z a0 hw [] rr97 (2 : Int32) p3 p1 rc97 (nar .byte ((((((p1.toUInt64 >>> ((32 : Int32) &&& 0x3f).toInt64.toUInt64).toInt64).toInt32).toUInt32 >>> ((24 : Int32) &&& 31).toUInt32).toInt32).toInt8.toInt32)) (nar .byte ((((((p1.toUInt64 >>> ((32 : Int32) &&& 0x3f).toInt64.toUInt64).toInt64).toInt32).toUInt32 >>> ((16 : Int32) &&& 31).toUInt32).toInt32).toInt8.toInt32)) (nar .byte (((p3.toUInt32 >>> ((8 : Int32) &&& 31).toUInt32).toInt32).toInt8.toInt32)) (nar .byte (p3.toInt8.toInt32)) (nar .byte ((((p1.toInt32).toUInt32 >>> ((24 : Int32) &&& 31).toUInt32).toInt32).toInt8.toInt32)) (nar .byte ((((p1.toInt32).toUInt32 >>> ((16 : Int32) &&& 31).toUInt32).toInt32).toInt8.toInt32)) (nar .byte ((((p1.toInt32).toUInt32 >>> ((8 : Int32) &&& 31).toUInt32).toInt32).toInt8.toInt32)) (nar .byte ((((p1.toInt32).toUInt32 >>> ((0 : Int32) &&& 31).toUInt32).toInt32).toInt8.toInt32)) T97.heap n0 Z97 Vr97) hZ (hw _ (List.mem_of_getElem? (i := 59) rfl)) (hw _ (List.mem_of_getElem? (i := 58) rfl)) (by decide) (by decide)) (g := (mkF m 67 #[.val (.long p1), .second, .val (.int p2), .val (.int p3), .val (.ref b1), .val (.int (2 : Int32)), .val (.ref rr97)] [(.long p1), (.int p3), (.int (2 : Int32)), (.int (0 : Int32)), (.ref rr97)])) rfl (by rw [hml]; rfl) (argsL := [(.ref rr97), (.int (0 : Int32)), (.int (2 : Int32)), (.int p3), (.long p1)]) (rest := []) (lenOf own_pd9 rfl) rfl (by show 2 * 0 + _ ≤ _; exact Nat.le_of_eq rfl) (hb hby at_67) (fun _ _ => ⟨rfl, e104, (by decide : 3 + 0 ≤ _), (by decide : 74 + 0 ≤ _)⟩)
    dsimp only [Pt.U, Pt.locs, Pt.cells, Pt.slots] at X108 l108 y108 z108 st108 hQ108
    subst l108 y108 z108
    obtain ⟨rfl, N108q, e108⟩ := hQ108
    have N108 := Fr.app N104 N108q
    have k109 : ∀ t, Steps p.tables e below (T108.setTop (mkF m 70 #[.val (.long p1), .second, .val (.int p2), .val (.int p3), .val (.ref b1), .val (.int (2 : Int32)), .val (.ref rr97)] [(.int (own_vat0 (2 : Int32) p3 p1 (nar .byte ((((((p1.toUInt64 >>> ((32 : Int32) &&& 0x3f).toInt64.toUInt64).toInt64).toInt32).toUInt32 >>> ((24 : Int32) &&& 31).toUInt32).toInt32).toInt8.toInt32))))])) t → Steps p.tables e below (s₁.setTop (entryFrame m #[(.long p1), (.int p2), (.int p3)] maxLocals)) t := fun t k => k107 t (st108 t k)
    have k110 : ∀ t, Steps p.tables e below (T108.setTop (mkF m 80 #[.val (.long p1), .second, .val (.int p2), .val (.int p3), .val (.ref b1), .val (.int (2 : Int32)), .val (.ref rr97)] [(.long p1), (.int p3), (.int (2 : Int32)), (.int (1 : Int32)), (.ref rr97)])) t → Steps p.tables e below (s₁.setTop (entryFrame m #[(.long p1), (.int p2), (.int p3)] maxLocals)) t := by
      intro t k
      refine k109 t ?_
      show Steps p.tables e below (T108.setTop (mkF m 70 #[.val (.long p1), .second, .val (.int p2), .val (.int p3), .val (.ref b1), .val (.int (2 : Int32)), .val (.ref rr97)] [(.int (own_vat0 (2 : Int32) p3 p1 (nar .byte ((((((p1.toUInt64 >>> ((32 : Int32) &&& 0x3f).toInt64.toUInt64).toInt64).toInt32).toUInt32 >>> ((24 : Int32) &&& 31).toUInt32).toInt32).toInt8.toInt32))))])) _
      refine XS.ifNo X108.here hx rfl (hb hby at_70) rfl ((if0 _ _).trans (feq (own_t2_0 p1 p3)).1) ?_
      show Steps p.tables e below (T108.setTop (mkF m 73 #[.val (.long p1), .second, .val (.int p2), .val (.int p3), .val (.ref b1), .val (.int (2 : Int32)), .val (.ref rr97)] [])) _
      refine XS.aload X108.here hx rfl (hb hby at_73) rfl rfl ?_
      show Steps p.tables e below (T108.setTop (mkF m 75 #[.val (.long p1), .second, .val (.int p2), .val (.int p3), .val (.ref b1), .val (.int (2 : Int32)), .val (.ref rr97)] [(.ref rr97)])) _
      refine XS.iconst X108.here hx rfl (hb hby at_75) ?_
      show Steps p.tables e below (T108.setTop (mkF m 76 #[.val (.long p1), .second, .val (.int p2), .val (.int p3), .val (.ref b1), .val (.int (2 : Int32)), .val (.ref rr97)] [(.int (1 : Int32)), (.ref rr97)])) _
      refine XS.iload X108.here hx rfl (hb hby at_76) rfl ?_
      show Steps p.tables e below (T108.setTop (mkF m 78 #[.val (.long p1), .second, .val (.int p2), .val (.int p3), .val (.ref b1), .val (.int (2 : Int32)), .val (.ref rr97)] [(.int (2 : Int32)), (.int (1 : Int32)), (.ref rr97)])) _
      refine XS.iloadN X108.here hx rfl (hb hby at_78) rfl ?_
      show Steps p.tables e below (T108.setTop (mkF m 79 #[.val (.long p1), .second, .val (.int p2), .val (.int p3), .val (.ref b1), .val (.int (2 : Int32)), .val (.ref rr97)] [(.int p3), (.int (2 : Int32)), (.int (1 : Int32)), (.ref rr97)])) _
      refine XS.lloadN X108.here hx rfl (hb hby at_79) rfl ?_
      exact k
    obtain ⟨_, _, ⟨T111, L111, k111c, n111⟩, -, X111, ⟨Lc111, hQ111, l111, y111, z111⟩, st111⟩ := Jvm.LawKit.callS X108 hx (y := (⟨"com/example/reckoner/reckoner/BytesSetU2PinLaw", "at", "([BIIIJ)Z"⟩ : MethodName)) hown (mvT hZ (hw _ (List.mem_of_getElem? (i := 56) rfl))) (mvT hZ (hw _ (List.mem_of_getElem? (i := 57) rfl))) (mvT hZ (hw _ (List.mem_of_getElem? (i := 58) rfl))) (mvT hZ (hw _ (List.mem_of_getElem? (i := 59) rfl))) (by decide) (backOf (W := 0) (own_rmat1 l Z a0 hw [] rr97 (2 : Int32) p3 p1 rc97 (nar .byte ((((((p1.toUInt64 >>> ((32 : Int32) &&& 0x3f).toInt64.toUInt64).toInt64).toInt32).toUInt32 >>> ((24 : Int32) &&& 31).toUInt32).toInt32).toInt8.toInt32)) (nar .byte ((((((p1.toUInt64 >>> ((32 : Int32) &&& 0x3f).toInt64.toUInt64).toInt64).toInt32).toUInt32 >>> ((16 : Int32) &&& 31).toUInt32).toInt32).toInt8.toInt32)) (nar .byte (((p3.toUInt32 >>> ((8 : Int32) &&& 31).toUInt32).toInt32).toInt8.toInt32)) (nar .byte (p3.toInt8.toInt32)) (nar .byte ((((p1.toInt32).toUInt32 >>> ((24 : Int32) &&& 31).toUInt32).toInt32).toInt8.toInt32)) (nar .byte ((((p1.toInt32).toUInt32 >>> ((16 : Int32) &&& 31).toUInt32).toInt32).toInt8.toInt32)) (nar .byte ((((p1.toInt32).toUInt32 >>> ((8 : Int32) &&& 31).toUInt32).toInt32).toInt8.toInt32)) (nar .byte ((((p1.toInt32).toUInt32 >>> ((0 : Int32) &&& 31).toUInt32).toInt32).toInt8.toInt32)) T97.heap n0 Z97 Vr97) hZ (hw _ (List.mem_of_getElem? (i := 59) rfl)) (hw _ (List.mem_of_getElem? (i := 58) rfl)) (by decide) (by decide)) (g := (mkF m 80 #[.val (.long p1), .second, .val (.int p2), .val (.int p3), .val (.ref b1), .val (.int (2 : Int32)), .val (.ref rr97)] [(.long p1), (.int p3), (.int (2 : Int32)), (.int (1 : Int32)), (.ref rr97)])) rfl (by rw [hml]; rfl) (argsL := [(.ref rr97), (.int (1 : Int32)), (.int (2 : Int32)), (.int p3), (.long p1)]) (rest := []) (lenOf own_pd9 rfl) rfl (by show 2 * 0 + _ ≤ _; exact Nat.le_of_eq rfl) (hb hby at_80) (fun _ _ => ⟨rfl, e108, (by decide : 3 + 0 ≤ _), (by decide : 74 + 0 ≤ _)⟩)
    dsimp only [Pt.U, Pt.locs, Pt.cells, Pt.slots] at X111 l111 y111 z111 st111 hQ111
    subst l111 y111 z111
    obtain ⟨rfl, N111q, e111⟩ := hQ111
    have N111 := Fr.app N108 N111q
    have k112 : ∀ t, Steps p.tables e below (T111.setTop (mkF m 83 #[.val (.long p1), .second, .val (.int p2), .val (.int p3), .val (.ref b1), .val (.int (2 : Int32)), .val (.ref rr97)] [(.int (own_vat1 (2 : Int32) p3 p1 (nar .byte ((((((p1.toUInt64 >>> ((32 : Int32) &&& 0x3f).toInt64.toUInt64).toInt64).toInt32).toUInt32 >>> ((16 : Int32) &&& 31).toUInt32).toInt32).toInt8.toInt32))))])) t → Steps p.tables e below (s₁.setTop (entryFrame m #[(.long p1), (.int p2), (.int p3)] maxLocals)) t := fun t k => k110 t (st111 t k)
    have k113 : ∀ t, Steps p.tables e below (T111.setTop (mkF m 93 #[.val (.long p1), .second, .val (.int p2), .val (.int p3), .val (.ref b1), .val (.int (2 : Int32)), .val (.ref rr97)] [(.long p1), (.int p3), (.int (2 : Int32)), (.int (2 : Int32)), (.ref rr97)])) t → Steps p.tables e below (s₁.setTop (entryFrame m #[(.long p1), (.int p2), (.int p3)] maxLocals)) t := by
      intro t k
      refine k112 t ?_
      show Steps p.tables e below (T111.setTop (mkF m 83 #[.val (.long p1), .second, .val (.int p2), .val (.int p3), .val (.ref b1), .val (.int (2 : Int32)), .val (.ref rr97)] [(.int (own_vat1 (2 : Int32) p3 p1 (nar .byte ((((((p1.toUInt64 >>> ((32 : Int32) &&& 0x3f).toInt64.toUInt64).toInt64).toInt32).toUInt32 >>> ((16 : Int32) &&& 31).toUInt32).toInt32).toInt8.toInt32))))])) _
      refine XS.ifNo X111.here hx rfl (hb hby at_83) rfl ((if0 _ _).trans (feq (own_t2_1 p1 p3)).1) ?_
      show Steps p.tables e below (T111.setTop (mkF m 86 #[.val (.long p1), .second, .val (.int p2), .val (.int p3), .val (.ref b1), .val (.int (2 : Int32)), .val (.ref rr97)] [])) _
      refine XS.aload X111.here hx rfl (hb hby at_86) rfl rfl ?_
      show Steps p.tables e below (T111.setTop (mkF m 88 #[.val (.long p1), .second, .val (.int p2), .val (.int p3), .val (.ref b1), .val (.int (2 : Int32)), .val (.ref rr97)] [(.ref rr97)])) _
      refine XS.iconst X111.here hx rfl (hb hby at_88) ?_
      show Steps p.tables e below (T111.setTop (mkF m 89 #[.val (.long p1), .second, .val (.int p2), .val (.int p3), .val (.ref b1), .val (.int (2 : Int32)), .val (.ref rr97)] [(.int (2 : Int32)), (.ref rr97)])) _
      refine XS.iload X111.here hx rfl (hb hby at_89) rfl ?_
      show Steps p.tables e below (T111.setTop (mkF m 91 #[.val (.long p1), .second, .val (.int p2), .val (.int p3), .val (.ref b1), .val (.int (2 : Int32)), .val (.ref rr97)] [(.int (2 : Int32)), (.int (2 : Int32)), (.ref rr97)])) _
      refine XS.iloadN X111.here hx rfl (hb hby at_91) rfl ?_
      show Steps p.tables e below (T111.setTop (mkF m 92 #[.val (.long p1), .second, .val (.int p2), .val (.int p3), .val (.ref b1), .val (.int (2 : Int32)), .val (.ref rr97)] [(.int p3), (.int (2 : Int32)), (.int (2 : Int32)), (.ref rr97)])) _
      refine XS.lloadN X111.here hx rfl (hb hby at_92) rfl ?_
      exact k
    obtain ⟨_, _, ⟨T114, L114, k114c, n114⟩, -, X114, ⟨Lc114, hQ114, l114, y114, z114⟩, st114⟩ := Jvm.LawKit.callS X111 hx (y := (⟨"com/example/reckoner/reckoner/BytesSetU2PinLaw", "at", "([BIIIJ)Z"⟩ : MethodName)) hown (mvT hZ (hw _ (List.mem_of_getElem? (i := 56) rfl))) (mvT hZ (hw _ (List.mem_of_getElem? (i := 57) rfl))) (mvT hZ (hw _ (List.mem_of_getElem? (i := 58) rfl))) (mvT hZ (hw _ (List.mem_of_getElem? (i := 59) rfl))) (by decide) (backOf (W := 0) (own_rmat2 l Z a0 hw [] rr97 (2 : Int32) p3 p1 rc97 (nar .byte ((((((p1.toUInt64 >>> ((32 : Int32) &&& 0x3f).toInt64.toUInt64).toInt64).toInt32).toUInt32 >>> ((24 : Int32) &&& 31).toUInt32).toInt32).toInt8.toInt32)) (nar .byte ((((((p1.toUInt64 >>> ((32 : Int32) &&& 0x3f).toInt64.toUInt64).toInt64).toInt32).toUInt32 >>> ((16 : Int32) &&& 31).toUInt32).toInt32).toInt8.toInt32)) (nar .byte (((p3.toUInt32 >>> ((8 : Int32) &&& 31).toUInt32).toInt32).toInt8.toInt32)) (nar .byte (p3.toInt8.toInt32)) (nar .byte ((((p1.toInt32).toUInt32 >>> ((24 : Int32) &&& 31).toUInt32).toInt32).toInt8.toInt32)) (nar .byte ((((p1.toInt32).toUInt32 >>> ((16 : Int32) &&& 31).toUInt32).toInt32).toInt8.toInt32)) (nar .byte ((((p1.toInt32).toUInt32 >>> ((8 : Int32) &&& 31).toUInt32).toInt32).toInt8.toInt32)) (nar .byte ((((p1.toInt32).toUInt32 >>> ((0 : Int32) &&& 31).toUInt32).toInt32).toInt8.toInt32)) T97.heap n0 Z97 Vr97) hZ (hw _ (List.mem_of_getElem? (i := 59) rfl)) (hw _ (List.mem_of_getElem? (i := 58) rfl)) (by decide) (by decide)) (g := (mkF m 93 #[.val (.long p1), .second, .val (.int p2), .val (.int p3), .val (.ref b1), .val (.int (2 : Int32)), .val (.ref rr97)] [(.long p1), (.int p3), (.int (2 : Int32)), (.int (2 : Int32)), (.ref rr97)])) rfl (by rw [hml]; rfl) (argsL := [(.ref rr97), (.int (2 : Int32)), (.int (2 : Int32)), (.int p3), (.long p1)]) (rest := []) (lenOf own_pd9 rfl) rfl (by show 2 * 0 + _ ≤ _; exact Nat.le_of_eq rfl) (hb hby at_93) (fun _ _ => ⟨rfl, e111, (by decide : 3 + 0 ≤ _), (by decide : 74 + 0 ≤ _)⟩)
    dsimp only [Pt.U, Pt.locs, Pt.cells, Pt.slots] at X114 l114 y114 z114 st114 hQ114
    subst l114 y114 z114
    obtain ⟨rfl, N114q, e114⟩ := hQ114
    have N114 := Fr.app N111 N114q
    have k115 : ∀ t, Steps p.tables e below (T114.setTop (mkF m 96 #[.val (.long p1), .second, .val (.int p2), .val (.int p3), .val (.ref b1), .val (.int (2 : Int32)), .val (.ref rr97)] [(.int (own_vat2 (2 : Int32) p3 p1 (nar .byte (((p3.toUInt32 >>> ((8 : Int32) &&& 31).toUInt32).toInt32).toInt8.toInt32))))])) t → Steps p.tables e below (s₁.setTop (entryFrame m #[(.long p1), (.int p2), (.int p3)] maxLocals)) t := fun t k => k113 t (st114 t k)
    have k116 : ∀ t, Steps p.tables e below (T114.setTop (mkF m 106 #[.val (.long p1), .second, .val (.int p2), .val (.int p3), .val (.ref b1), .val (.int (2 : Int32)), .val (.ref rr97)] [(.long p1), (.int p3), (.int (2 : Int32)), (.int (3 : Int32)), (.ref rr97)])) t → Steps p.tables e below (s₁.setTop (entryFrame m #[(.long p1), (.int p2), (.int p3)] maxLocals)) t := by
      intro t k
      refine k115 t ?_
      show Steps p.tables e below (T114.setTop (mkF m 96 #[.val (.long p1), .second, .val (.int p2), .val (.int p3), .val (.ref b1), .val (.int (2 : Int32)), .val (.ref rr97)] [(.int (own_vat2 (2 : Int32) p3 p1 (nar .byte (((p3.toUInt32 >>> ((8 : Int32) &&& 31).toUInt32).toInt32).toInt8.toInt32))))])) _
      refine XS.ifNo X114.here hx rfl (hb hby at_96) rfl ((if0 _ _).trans (feq (own_t2_2 p1 p3)).1) ?_
      show Steps p.tables e below (T114.setTop (mkF m 99 #[.val (.long p1), .second, .val (.int p2), .val (.int p3), .val (.ref b1), .val (.int (2 : Int32)), .val (.ref rr97)] [])) _
      refine XS.aload X114.here hx rfl (hb hby at_99) rfl rfl ?_
      show Steps p.tables e below (T114.setTop (mkF m 101 #[.val (.long p1), .second, .val (.int p2), .val (.int p3), .val (.ref b1), .val (.int (2 : Int32)), .val (.ref rr97)] [(.ref rr97)])) _
      refine XS.iconst X114.here hx rfl (hb hby at_101) ?_
      show Steps p.tables e below (T114.setTop (mkF m 102 #[.val (.long p1), .second, .val (.int p2), .val (.int p3), .val (.ref b1), .val (.int (2 : Int32)), .val (.ref rr97)] [(.int (3 : Int32)), (.ref rr97)])) _
      refine XS.iload X114.here hx rfl (hb hby at_102) rfl ?_
      show Steps p.tables e below (T114.setTop (mkF m 104 #[.val (.long p1), .second, .val (.int p2), .val (.int p3), .val (.ref b1), .val (.int (2 : Int32)), .val (.ref rr97)] [(.int (2 : Int32)), (.int (3 : Int32)), (.ref rr97)])) _
      refine XS.iloadN X114.here hx rfl (hb hby at_104) rfl ?_
      show Steps p.tables e below (T114.setTop (mkF m 105 #[.val (.long p1), .second, .val (.int p2), .val (.int p3), .val (.ref b1), .val (.int (2 : Int32)), .val (.ref rr97)] [(.int p3), (.int (2 : Int32)), (.int (3 : Int32)), (.ref rr97)])) _
      refine XS.lloadN X114.here hx rfl (hb hby at_105) rfl ?_
      exact k
    obtain ⟨_, _, ⟨T117, L117, k117c, n117⟩, -, X117, ⟨Lc117, hQ117, l117, y117, z117⟩, st117⟩ := Jvm.LawKit.callS X114 hx (y := (⟨"com/example/reckoner/reckoner/BytesSetU2PinLaw", "at", "([BIIIJ)Z"⟩ : MethodName)) hown (mvT hZ (hw _ (List.mem_of_getElem? (i := 56) rfl))) (mvT hZ (hw _ (List.mem_of_getElem? (i := 57) rfl))) (mvT hZ (hw _ (List.mem_of_getElem? (i := 58) rfl))) (mvT hZ (hw _ (List.mem_of_getElem? (i := 59) rfl))) (by decide) (backOf (W := 0) (own_rmat3 l Z a0 hw [] rr97 (2 : Int32) p3 p1 rc97 (nar .byte ((((((p1.toUInt64 >>> ((32 : Int32) &&& 0x3f).toInt64.toUInt64).toInt64).toInt32).toUInt32 >>> ((24 : Int32) &&& 31).toUInt32).toInt32).toInt8.toInt32)) (nar .byte ((((((p1.toUInt64 >>> ((32 : Int32) &&& 0x3f).toInt64.toUInt64).toInt64).toInt32).toUInt32 >>> ((16 : Int32) &&& 31).toUInt32).toInt32).toInt8.toInt32)) (nar .byte (((p3.toUInt32 >>> ((8 : Int32) &&& 31).toUInt32).toInt32).toInt8.toInt32)) (nar .byte (p3.toInt8.toInt32)) (nar .byte ((((p1.toInt32).toUInt32 >>> ((24 : Int32) &&& 31).toUInt32).toInt32).toInt8.toInt32)) (nar .byte ((((p1.toInt32).toUInt32 >>> ((16 : Int32) &&& 31).toUInt32).toInt32).toInt8.toInt32)) (nar .byte ((((p1.toInt32).toUInt32 >>> ((8 : Int32) &&& 31).toUInt32).toInt32).toInt8.toInt32)) (nar .byte ((((p1.toInt32).toUInt32 >>> ((0 : Int32) &&& 31).toUInt32).toInt32).toInt8.toInt32)) T97.heap n0 Z97 Vr97) hZ (hw _ (List.mem_of_getElem? (i := 59) rfl)) (hw _ (List.mem_of_getElem? (i := 58) rfl)) (by decide) (by decide)) (g := (mkF m 106 #[.val (.long p1), .second, .val (.int p2), .val (.int p3), .val (.ref b1), .val (.int (2 : Int32)), .val (.ref rr97)] [(.long p1), (.int p3), (.int (2 : Int32)), (.int (3 : Int32)), (.ref rr97)])) rfl (by rw [hml]; rfl) (argsL := [(.ref rr97), (.int (3 : Int32)), (.int (2 : Int32)), (.int p3), (.long p1)]) (rest := []) (lenOf own_pd9 rfl) rfl (by show 2 * 0 + _ ≤ _; exact Nat.le_of_eq rfl) (hb hby at_106) (fun _ _ => ⟨rfl, e114, (by decide : 3 + 0 ≤ _), (by decide : 74 + 0 ≤ _)⟩)
    dsimp only [Pt.U, Pt.locs, Pt.cells, Pt.slots] at X117 l117 y117 z117 st117 hQ117
    subst l117 y117 z117
    obtain ⟨rfl, N117q, e117⟩ := hQ117
    have N117 := Fr.app N114 N117q
    have k118 : ∀ t, Steps p.tables e below (T117.setTop (mkF m 109 #[.val (.long p1), .second, .val (.int p2), .val (.int p3), .val (.ref b1), .val (.int (2 : Int32)), .val (.ref rr97)] [(.int (own_vat3 (2 : Int32) p3 p1 (nar .byte (p3.toInt8.toInt32))))])) t → Steps p.tables e below (s₁.setTop (entryFrame m #[(.long p1), (.int p2), (.int p3)] maxLocals)) t := fun t k => k116 t (st117 t k)
    have k119 : ∀ t, Steps p.tables e below (T117.setTop (mkF m 119 #[.val (.long p1), .second, .val (.int p2), .val (.int p3), .val (.ref b1), .val (.int (2 : Int32)), .val (.ref rr97)] [(.long p1), (.int p3), (.int (2 : Int32)), (.int (4 : Int32)), (.ref rr97)])) t → Steps p.tables e below (s₁.setTop (entryFrame m #[(.long p1), (.int p2), (.int p3)] maxLocals)) t := by
      intro t k
      refine k118 t ?_
      show Steps p.tables e below (T117.setTop (mkF m 109 #[.val (.long p1), .second, .val (.int p2), .val (.int p3), .val (.ref b1), .val (.int (2 : Int32)), .val (.ref rr97)] [(.int (own_vat3 (2 : Int32) p3 p1 (nar .byte (p3.toInt8.toInt32))))])) _
      refine XS.ifNo X117.here hx rfl (hb hby at_109) rfl ((if0 _ _).trans (feq (own_t2_3 p1 p3)).1) ?_
      show Steps p.tables e below (T117.setTop (mkF m 112 #[.val (.long p1), .second, .val (.int p2), .val (.int p3), .val (.ref b1), .val (.int (2 : Int32)), .val (.ref rr97)] [])) _
      refine XS.aload X117.here hx rfl (hb hby at_112) rfl rfl ?_
      show Steps p.tables e below (T117.setTop (mkF m 114 #[.val (.long p1), .second, .val (.int p2), .val (.int p3), .val (.ref b1), .val (.int (2 : Int32)), .val (.ref rr97)] [(.ref rr97)])) _
      refine XS.iconst X117.here hx rfl (hb hby at_114) ?_
      show Steps p.tables e below (T117.setTop (mkF m 115 #[.val (.long p1), .second, .val (.int p2), .val (.int p3), .val (.ref b1), .val (.int (2 : Int32)), .val (.ref rr97)] [(.int (4 : Int32)), (.ref rr97)])) _
      refine XS.iload X117.here hx rfl (hb hby at_115) rfl ?_
      show Steps p.tables e below (T117.setTop (mkF m 117 #[.val (.long p1), .second, .val (.int p2), .val (.int p3), .val (.ref b1), .val (.int (2 : Int32)), .val (.ref rr97)] [(.int (2 : Int32)), (.int (4 : Int32)), (.ref rr97)])) _
      refine XS.iloadN X117.here hx rfl (hb hby at_117) rfl ?_
      show Steps p.tables e below (T117.setTop (mkF m 118 #[.val (.long p1), .second, .val (.int p2), .val (.int p3), .val (.ref b1), .val (.int (2 : Int32)), .val (.ref rr97)] [(.int p3), (.int (2 : Int32)), (.int (4 : Int32)), (.ref rr97)])) _
      refine XS.lloadN X117.here hx rfl (hb hby at_118) rfl ?_
      exact k
    obtain ⟨_, _, ⟨T120, L120, k120c, n120⟩, -, X120, ⟨Lc120, hQ120, l120, y120, z120⟩, st120⟩ := Jvm.LawKit.callS X117 hx (y := (⟨"com/example/reckoner/reckoner/BytesSetU2PinLaw", "at", "([BIIIJ)Z"⟩ : MethodName)) hown (mvT hZ (hw _ (List.mem_of_getElem? (i := 56) rfl))) (mvT hZ (hw _ (List.mem_of_getElem? (i := 57) rfl))) (mvT hZ (hw _ (List.mem_of_getElem? (i := 58) rfl))) (mvT hZ (hw _ (List.mem_of_getElem? (i := 59) rfl))) (by decide) (backOf (W := 0) (own_rmat4 l Z a0 hw [] rr97 (2 : Int32) p3 p1 rc97 (nar .byte ((((((p1.toUInt64 >>> ((32 : Int32) &&& 0x3f).toInt64.toUInt64).toInt64).toInt32).toUInt32 >>> ((24 : Int32) &&& 31).toUInt32).toInt32).toInt8.toInt32)) (nar .byte ((((((p1.toUInt64 >>> ((32 : Int32) &&& 0x3f).toInt64.toUInt64).toInt64).toInt32).toUInt32 >>> ((16 : Int32) &&& 31).toUInt32).toInt32).toInt8.toInt32)) (nar .byte (((p3.toUInt32 >>> ((8 : Int32) &&& 31).toUInt32).toInt32).toInt8.toInt32)) (nar .byte (p3.toInt8.toInt32)) (nar .byte ((((p1.toInt32).toUInt32 >>> ((24 : Int32) &&& 31).toUInt32).toInt32).toInt8.toInt32)) (nar .byte ((((p1.toInt32).toUInt32 >>> ((16 : Int32) &&& 31).toUInt32).toInt32).toInt8.toInt32)) (nar .byte ((((p1.toInt32).toUInt32 >>> ((8 : Int32) &&& 31).toUInt32).toInt32).toInt8.toInt32)) (nar .byte ((((p1.toInt32).toUInt32 >>> ((0 : Int32) &&& 31).toUInt32).toInt32).toInt8.toInt32)) T97.heap n0 Z97 Vr97) hZ (hw _ (List.mem_of_getElem? (i := 59) rfl)) (hw _ (List.mem_of_getElem? (i := 58) rfl)) (by decide) (by decide)) (g := (mkF m 119 #[.val (.long p1), .second, .val (.int p2), .val (.int p3), .val (.ref b1), .val (.int (2 : Int32)), .val (.ref rr97)] [(.long p1), (.int p3), (.int (2 : Int32)), (.int (4 : Int32)), (.ref rr97)])) rfl (by rw [hml]; rfl) (argsL := [(.ref rr97), (.int (4 : Int32)), (.int (2 : Int32)), (.int p3), (.long p1)]) (rest := []) (lenOf own_pd9 rfl) rfl (by show 2 * 0 + _ ≤ _; exact Nat.le_of_eq rfl) (hb hby at_119) (fun _ _ => ⟨rfl, e117, (by decide : 3 + 0 ≤ _), (by decide : 74 + 0 ≤ _)⟩)
    dsimp only [Pt.U, Pt.locs, Pt.cells, Pt.slots] at X120 l120 y120 z120 st120 hQ120
    subst l120 y120 z120
    obtain ⟨rfl, N120q, e120⟩ := hQ120
    have N120 := Fr.app N117 N120q
    have k121 : ∀ t, Steps p.tables e below (T120.setTop (mkF m 122 #[.val (.long p1), .second, .val (.int p2), .val (.int p3), .val (.ref b1), .val (.int (2 : Int32)), .val (.ref rr97)] [(.int (own_vat4 (2 : Int32) p3 p1 (nar .byte ((((p1.toInt32).toUInt32 >>> ((24 : Int32) &&& 31).toUInt32).toInt32).toInt8.toInt32))))])) t → Steps p.tables e below (s₁.setTop (entryFrame m #[(.long p1), (.int p2), (.int p3)] maxLocals)) t := fun t k => k119 t (st120 t k)
    have k122 : ∀ t, Steps p.tables e below (T120.setTop (mkF m 132 #[.val (.long p1), .second, .val (.int p2), .val (.int p3), .val (.ref b1), .val (.int (2 : Int32)), .val (.ref rr97)] [(.long p1), (.int p3), (.int (2 : Int32)), (.int (5 : Int32)), (.ref rr97)])) t → Steps p.tables e below (s₁.setTop (entryFrame m #[(.long p1), (.int p2), (.int p3)] maxLocals)) t := by
      intro t k
      refine k121 t ?_
      show Steps p.tables e below (T120.setTop (mkF m 122 #[.val (.long p1), .second, .val (.int p2), .val (.int p3), .val (.ref b1), .val (.int (2 : Int32)), .val (.ref rr97)] [(.int (own_vat4 (2 : Int32) p3 p1 (nar .byte ((((p1.toInt32).toUInt32 >>> ((24 : Int32) &&& 31).toUInt32).toInt32).toInt8.toInt32))))])) _
      refine XS.ifNo X120.here hx rfl (hb hby at_122) rfl ((if0 _ _).trans (feq (own_t2_4 p1 p3)).1) ?_
      show Steps p.tables e below (T120.setTop (mkF m 125 #[.val (.long p1), .second, .val (.int p2), .val (.int p3), .val (.ref b1), .val (.int (2 : Int32)), .val (.ref rr97)] [])) _
      refine XS.aload X120.here hx rfl (hb hby at_125) rfl rfl ?_
      show Steps p.tables e below (T120.setTop (mkF m 127 #[.val (.long p1), .second, .val (.int p2), .val (.int p3), .val (.ref b1), .val (.int (2 : Int32)), .val (.ref rr97)] [(.ref rr97)])) _
      refine XS.iconst X120.here hx rfl (hb hby at_127) ?_
      show Steps p.tables e below (T120.setTop (mkF m 128 #[.val (.long p1), .second, .val (.int p2), .val (.int p3), .val (.ref b1), .val (.int (2 : Int32)), .val (.ref rr97)] [(.int (5 : Int32)), (.ref rr97)])) _
      refine XS.iload X120.here hx rfl (hb hby at_128) rfl ?_
      show Steps p.tables e below (T120.setTop (mkF m 130 #[.val (.long p1), .second, .val (.int p2), .val (.int p3), .val (.ref b1), .val (.int (2 : Int32)), .val (.ref rr97)] [(.int (2 : Int32)), (.int (5 : Int32)), (.ref rr97)])) _
      refine XS.iloadN X120.here hx rfl (hb hby at_130) rfl ?_
      show Steps p.tables e below (T120.setTop (mkF m 131 #[.val (.long p1), .second, .val (.int p2), .val (.int p3), .val (.ref b1), .val (.int (2 : Int32)), .val (.ref rr97)] [(.int p3), (.int (2 : Int32)), (.int (5 : Int32)), (.ref rr97)])) _
      refine XS.lloadN X120.here hx rfl (hb hby at_131) rfl ?_
      exact k
    obtain ⟨_, _, ⟨T123, L123, k123c, n123⟩, -, X123, ⟨Lc123, hQ123, l123, y123, z123⟩, st123⟩ := Jvm.LawKit.callS X120 hx (y := (⟨"com/example/reckoner/reckoner/BytesSetU2PinLaw", "at", "([BIIIJ)Z"⟩ : MethodName)) hown (mvT hZ (hw _ (List.mem_of_getElem? (i := 56) rfl))) (mvT hZ (hw _ (List.mem_of_getElem? (i := 57) rfl))) (mvT hZ (hw _ (List.mem_of_getElem? (i := 58) rfl))) (mvT hZ (hw _ (List.mem_of_getElem? (i := 59) rfl))) (by decide) (backOf (W := 0) (own_rmat5 l Z a0 hw [] rr97 (2 : Int32) p3 p1 rc97 (nar .byte ((((((p1.toUInt64 >>> ((32 : Int32) &&& 0x3f).toInt64.toUInt64).toInt64).toInt32).toUInt32 >>> ((24 : Int32) &&& 31).toUInt32).toInt32).toInt8.toInt32)) (nar .byte ((((((p1.toUInt64 >>> ((32 : Int32) &&& 0x3f).toInt64.toUInt64).toInt64).toInt32).toUInt32 >>> ((16 : Int32) &&& 31).toUInt32).toInt32).toInt8.toInt32)) (nar .byte (((p3.toUInt32 >>> ((8 : Int32) &&& 31).toUInt32).toInt32).toInt8.toInt32)) (nar .byte (p3.toInt8.toInt32)) (nar .byte ((((p1.toInt32).toUInt32 >>> ((24 : Int32) &&& 31).toUInt32).toInt32).toInt8.toInt32)) (nar .byte ((((p1.toInt32).toUInt32 >>> ((16 : Int32) &&& 31).toUInt32).toInt32).toInt8.toInt32)) (nar .byte ((((p1.toInt32).toUInt32 >>> ((8 : Int32) &&& 31).toUInt32).toInt32).toInt8.toInt32)) (nar .byte ((((p1.toInt32).toUInt32 >>> ((0 : Int32) &&& 31).toUInt32).toInt32).toInt8.toInt32)) T97.heap n0 Z97 Vr97) hZ (hw _ (List.mem_of_getElem? (i := 59) rfl)) (hw _ (List.mem_of_getElem? (i := 58) rfl)) (by decide) (by decide)) (g := (mkF m 132 #[.val (.long p1), .second, .val (.int p2), .val (.int p3), .val (.ref b1), .val (.int (2 : Int32)), .val (.ref rr97)] [(.long p1), (.int p3), (.int (2 : Int32)), (.int (5 : Int32)), (.ref rr97)])) rfl (by rw [hml]; rfl) (argsL := [(.ref rr97), (.int (5 : Int32)), (.int (2 : Int32)), (.int p3), (.long p1)]) (rest := []) (lenOf own_pd9 rfl) rfl (by show 2 * 0 + _ ≤ _; exact Nat.le_of_eq rfl) (hb hby at_132) (fun _ _ => ⟨rfl, e120, (by decide : 3 + 0 ≤ _), (by decide : 74 + 0 ≤ _)⟩)
    dsimp only [Pt.U, Pt.locs, Pt.cells, Pt.slots] at X123 l123 y123 z123 st123 hQ123
    subst l123 y123 z123
    obtain ⟨rfl, N123q, e123⟩ := hQ123
    have N123 := Fr.app N120 N123q
    have k124 : ∀ t, Steps p.tables e below (T123.setTop (mkF m 135 #[.val (.long p1), .second, .val (.int p2), .val (.int p3), .val (.ref b1), .val (.int (2 : Int32)), .val (.ref rr97)] [(.int (own_vat5 (2 : Int32) p3 p1 (nar .byte ((((p1.toInt32).toUInt32 >>> ((16 : Int32) &&& 31).toUInt32).toInt32).toInt8.toInt32))))])) t → Steps p.tables e below (s₁.setTop (entryFrame m #[(.long p1), (.int p2), (.int p3)] maxLocals)) t := fun t k => k122 t (st123 t k)
    have k125 : ∀ t, Steps p.tables e below (T123.setTop (mkF m 146 #[.val (.long p1), .second, .val (.int p2), .val (.int p3), .val (.ref b1), .val (.int (2 : Int32)), .val (.ref rr97)] [(.long p1), (.int p3), (.int (2 : Int32)), (.int (6 : Int32)), (.ref rr97)])) t → Steps p.tables e below (s₁.setTop (entryFrame m #[(.long p1), (.int p2), (.int p3)] maxLocals)) t := by
      intro t k
      refine k124 t ?_
      show Steps p.tables e below (T123.setTop (mkF m 135 #[.val (.long p1), .second, .val (.int p2), .val (.int p3), .val (.ref b1), .val (.int (2 : Int32)), .val (.ref rr97)] [(.int (own_vat5 (2 : Int32) p3 p1 (nar .byte ((((p1.toInt32).toUInt32 >>> ((16 : Int32) &&& 31).toUInt32).toInt32).toInt8.toInt32))))])) _
      refine XS.ifNo X123.here hx rfl (hb hby at_135) rfl ((if0 _ _).trans (feq (own_t2_5 p1 p3)).1) ?_
      show Steps p.tables e below (T123.setTop (mkF m 138 #[.val (.long p1), .second, .val (.int p2), .val (.int p3), .val (.ref b1), .val (.int (2 : Int32)), .val (.ref rr97)] [])) _
      refine XS.aload X123.here hx rfl (hb hby at_138) rfl rfl ?_
      show Steps p.tables e below (T123.setTop (mkF m 140 #[.val (.long p1), .second, .val (.int p2), .val (.int p3), .val (.ref b1), .val (.int (2 : Int32)), .val (.ref rr97)] [(.ref rr97)])) _
      refine XS.bipush X123.here hx rfl (hb hby at_140) ?_
      show Steps p.tables e below (T123.setTop (mkF m 142 #[.val (.long p1), .second, .val (.int p2), .val (.int p3), .val (.ref b1), .val (.int (2 : Int32)), .val (.ref rr97)] [(.int (6 : Int32)), (.ref rr97)])) _
      refine XS.iload X123.here hx rfl (hb hby at_142) rfl ?_
      show Steps p.tables e below (T123.setTop (mkF m 144 #[.val (.long p1), .second, .val (.int p2), .val (.int p3), .val (.ref b1), .val (.int (2 : Int32)), .val (.ref rr97)] [(.int (2 : Int32)), (.int (6 : Int32)), (.ref rr97)])) _
      refine XS.iloadN X123.here hx rfl (hb hby at_144) rfl ?_
      show Steps p.tables e below (T123.setTop (mkF m 145 #[.val (.long p1), .second, .val (.int p2), .val (.int p3), .val (.ref b1), .val (.int (2 : Int32)), .val (.ref rr97)] [(.int p3), (.int (2 : Int32)), (.int (6 : Int32)), (.ref rr97)])) _
      refine XS.lloadN X123.here hx rfl (hb hby at_145) rfl ?_
      exact k
    obtain ⟨_, _, ⟨T126, L126, k126c, n126⟩, -, X126, ⟨Lc126, hQ126, l126, y126, z126⟩, st126⟩ := Jvm.LawKit.callS X123 hx (y := (⟨"com/example/reckoner/reckoner/BytesSetU2PinLaw", "at", "([BIIIJ)Z"⟩ : MethodName)) hown (mvT hZ (hw _ (List.mem_of_getElem? (i := 56) rfl))) (mvT hZ (hw _ (List.mem_of_getElem? (i := 57) rfl))) (mvT hZ (hw _ (List.mem_of_getElem? (i := 58) rfl))) (mvT hZ (hw _ (List.mem_of_getElem? (i := 59) rfl))) (by decide) (backOf (W := 0) (own_rmat6 l Z a0 hw [] rr97 (2 : Int32) p3 p1 rc97 (nar .byte ((((((p1.toUInt64 >>> ((32 : Int32) &&& 0x3f).toInt64.toUInt64).toInt64).toInt32).toUInt32 >>> ((24 : Int32) &&& 31).toUInt32).toInt32).toInt8.toInt32)) (nar .byte ((((((p1.toUInt64 >>> ((32 : Int32) &&& 0x3f).toInt64.toUInt64).toInt64).toInt32).toUInt32 >>> ((16 : Int32) &&& 31).toUInt32).toInt32).toInt8.toInt32)) (nar .byte (((p3.toUInt32 >>> ((8 : Int32) &&& 31).toUInt32).toInt32).toInt8.toInt32)) (nar .byte (p3.toInt8.toInt32)) (nar .byte ((((p1.toInt32).toUInt32 >>> ((24 : Int32) &&& 31).toUInt32).toInt32).toInt8.toInt32)) (nar .byte ((((p1.toInt32).toUInt32 >>> ((16 : Int32) &&& 31).toUInt32).toInt32).toInt8.toInt32)) (nar .byte ((((p1.toInt32).toUInt32 >>> ((8 : Int32) &&& 31).toUInt32).toInt32).toInt8.toInt32)) (nar .byte ((((p1.toInt32).toUInt32 >>> ((0 : Int32) &&& 31).toUInt32).toInt32).toInt8.toInt32)) T97.heap n0 Z97 Vr97) hZ (hw _ (List.mem_of_getElem? (i := 59) rfl)) (hw _ (List.mem_of_getElem? (i := 58) rfl)) (by decide) (by decide)) (g := (mkF m 146 #[.val (.long p1), .second, .val (.int p2), .val (.int p3), .val (.ref b1), .val (.int (2 : Int32)), .val (.ref rr97)] [(.long p1), (.int p3), (.int (2 : Int32)), (.int (6 : Int32)), (.ref rr97)])) rfl (by rw [hml]; rfl) (argsL := [(.ref rr97), (.int (6 : Int32)), (.int (2 : Int32)), (.int p3), (.long p1)]) (rest := []) (lenOf own_pd9 rfl) rfl (by show 2 * 0 + _ ≤ _; exact Nat.le_of_eq rfl) (hb hby at_146) (fun _ _ => ⟨rfl, e123, (by decide : 3 + 0 ≤ _), (by decide : 74 + 0 ≤ _)⟩)
    dsimp only [Pt.U, Pt.locs, Pt.cells, Pt.slots] at X126 l126 y126 z126 st126 hQ126
    subst l126 y126 z126
    obtain ⟨rfl, N126q, e126⟩ := hQ126
    have N126 := Fr.app N123 N126q
    have k127 : ∀ t, Steps p.tables e below (T126.setTop (mkF m 149 #[.val (.long p1), .second, .val (.int p2), .val (.int p3), .val (.ref b1), .val (.int (2 : Int32)), .val (.ref rr97)] [(.int (own_vat6 (2 : Int32) p3 p1 (nar .byte ((((p1.toInt32).toUInt32 >>> ((8 : Int32) &&& 31).toUInt32).toInt32).toInt8.toInt32))))])) t → Steps p.tables e below (s₁.setTop (entryFrame m #[(.long p1), (.int p2), (.int p3)] maxLocals)) t := fun t k => k125 t (st126 t k)
    have k128 : ∀ t, Steps p.tables e below (T126.setTop (mkF m 160 #[.val (.long p1), .second, .val (.int p2), .val (.int p3), .val (.ref b1), .val (.int (2 : Int32)), .val (.ref rr97)] [(.long p1), (.int p3), (.int (2 : Int32)), (.int (7 : Int32)), (.ref rr97)])) t → Steps p.tables e below (s₁.setTop (entryFrame m #[(.long p1), (.int p2), (.int p3)] maxLocals)) t := by
      intro t k
      refine k127 t ?_
      show Steps p.tables e below (T126.setTop (mkF m 149 #[.val (.long p1), .second, .val (.int p2), .val (.int p3), .val (.ref b1), .val (.int (2 : Int32)), .val (.ref rr97)] [(.int (own_vat6 (2 : Int32) p3 p1 (nar .byte ((((p1.toInt32).toUInt32 >>> ((8 : Int32) &&& 31).toUInt32).toInt32).toInt8.toInt32))))])) _
      refine XS.ifNo X126.here hx rfl (hb hby at_149) rfl ((if0 _ _).trans (feq (own_t2_6 p1 p3)).1) ?_
      show Steps p.tables e below (T126.setTop (mkF m 152 #[.val (.long p1), .second, .val (.int p2), .val (.int p3), .val (.ref b1), .val (.int (2 : Int32)), .val (.ref rr97)] [])) _
      refine XS.aload X126.here hx rfl (hb hby at_152) rfl rfl ?_
      show Steps p.tables e below (T126.setTop (mkF m 154 #[.val (.long p1), .second, .val (.int p2), .val (.int p3), .val (.ref b1), .val (.int (2 : Int32)), .val (.ref rr97)] [(.ref rr97)])) _
      refine XS.bipush X126.here hx rfl (hb hby at_154) ?_
      show Steps p.tables e below (T126.setTop (mkF m 156 #[.val (.long p1), .second, .val (.int p2), .val (.int p3), .val (.ref b1), .val (.int (2 : Int32)), .val (.ref rr97)] [(.int (7 : Int32)), (.ref rr97)])) _
      refine XS.iload X126.here hx rfl (hb hby at_156) rfl ?_
      show Steps p.tables e below (T126.setTop (mkF m 158 #[.val (.long p1), .second, .val (.int p2), .val (.int p3), .val (.ref b1), .val (.int (2 : Int32)), .val (.ref rr97)] [(.int (2 : Int32)), (.int (7 : Int32)), (.ref rr97)])) _
      refine XS.iloadN X126.here hx rfl (hb hby at_158) rfl ?_
      show Steps p.tables e below (T126.setTop (mkF m 159 #[.val (.long p1), .second, .val (.int p2), .val (.int p3), .val (.ref b1), .val (.int (2 : Int32)), .val (.ref rr97)] [(.int p3), (.int (2 : Int32)), (.int (7 : Int32)), (.ref rr97)])) _
      refine XS.lloadN X126.here hx rfl (hb hby at_159) rfl ?_
      exact k
    obtain ⟨_, _, ⟨T129, L129, k129c, n129⟩, -, X129, ⟨Lc129, hQ129, l129, y129, z129⟩, st129⟩ := Jvm.LawKit.callS X126 hx (y := (⟨"com/example/reckoner/reckoner/BytesSetU2PinLaw", "at", "([BIIIJ)Z"⟩ : MethodName)) hown (mvT hZ (hw _ (List.mem_of_getElem? (i := 56) rfl))) (mvT hZ (hw _ (List.mem_of_getElem? (i := 57) rfl))) (mvT hZ (hw _ (List.mem_of_getElem? (i := 58) rfl))) (mvT hZ (hw _ (List.mem_of_getElem? (i := 59) rfl))) (by decide) (backOf (W := 0) (own_rmat7 l Z a0 hw [] rr97 (2 : Int32) p3 p1 rc97 (nar .byte ((((((p1.toUInt64 >>> ((32 : Int32) &&& 0x3f).toInt64.toUInt64).toInt64).toInt32).toUInt32 >>> ((24 : Int32) &&& 31).toUInt32).toInt32).toInt8.toInt32)) (nar .byte ((((((p1.toUInt64 >>> ((32 : Int32) &&& 0x3f).toInt64.toUInt64).toInt64).toInt32).toUInt32 >>> ((16 : Int32) &&& 31).toUInt32).toInt32).toInt8.toInt32)) (nar .byte (((p3.toUInt32 >>> ((8 : Int32) &&& 31).toUInt32).toInt32).toInt8.toInt32)) (nar .byte (p3.toInt8.toInt32)) (nar .byte ((((p1.toInt32).toUInt32 >>> ((24 : Int32) &&& 31).toUInt32).toInt32).toInt8.toInt32)) (nar .byte ((((p1.toInt32).toUInt32 >>> ((16 : Int32) &&& 31).toUInt32).toInt32).toInt8.toInt32)) (nar .byte ((((p1.toInt32).toUInt32 >>> ((8 : Int32) &&& 31).toUInt32).toInt32).toInt8.toInt32)) (nar .byte ((((p1.toInt32).toUInt32 >>> ((0 : Int32) &&& 31).toUInt32).toInt32).toInt8.toInt32)) T97.heap n0 Z97 Vr97) hZ (hw _ (List.mem_of_getElem? (i := 59) rfl)) (hw _ (List.mem_of_getElem? (i := 58) rfl)) (by decide) (by decide)) (g := (mkF m 160 #[.val (.long p1), .second, .val (.int p2), .val (.int p3), .val (.ref b1), .val (.int (2 : Int32)), .val (.ref rr97)] [(.long p1), (.int p3), (.int (2 : Int32)), (.int (7 : Int32)), (.ref rr97)])) rfl (by rw [hml]; rfl) (argsL := [(.ref rr97), (.int (7 : Int32)), (.int (2 : Int32)), (.int p3), (.long p1)]) (rest := []) (lenOf own_pd9 rfl) rfl (by show 2 * 0 + _ ≤ _; exact Nat.le_of_eq rfl) (hb hby at_160) (fun _ _ => ⟨rfl, e126, (by decide : 3 + 0 ≤ _), (by decide : 74 + 0 ≤ _)⟩)
    dsimp only [Pt.U, Pt.locs, Pt.cells, Pt.slots] at X129 l129 y129 z129 st129 hQ129
    subst l129 y129 z129
    obtain ⟨rfl, N129q, e129⟩ := hQ129
    have N129 := Fr.app N126 N129q
    have k130 : ∀ t, Steps p.tables e below (T129.setTop (mkF m 163 #[.val (.long p1), .second, .val (.int p2), .val (.int p3), .val (.ref b1), .val (.int (2 : Int32)), .val (.ref rr97)] [(.int (own_vat7 (2 : Int32) p3 p1 (nar .byte ((((p1.toInt32).toUInt32 >>> ((0 : Int32) &&& 31).toUInt32).toInt32).toInt8.toInt32))))])) t → Steps p.tables e below (s₁.setTop (entryFrame m #[(.long p1), (.int p2), (.int p3)] maxLocals)) t := fun t k => k128 t (st129 t k)
    have k131 : ∀ t, Steps p.tables e below (T129.setTop (mkF m 171 #[.val (.long p1), .second, .val (.int p2), .val (.int p3), .val (.ref b1), .val (.int (2 : Int32)), .val (.ref rr97)] [(.int (1 : Int32))])) t → Steps p.tables e below (s₁.setTop (entryFrame m #[(.long p1), (.int p2), (.int p3)] maxLocals)) t := by
      intro t k
      refine k130 t ?_
      show Steps p.tables e below (T129.setTop (mkF m 163 #[.val (.long p1), .second, .val (.int p2), .val (.int p3), .val (.ref b1), .val (.int (2 : Int32)), .val (.ref rr97)] [(.int (own_vat7 (2 : Int32) p3 p1 (nar .byte ((((p1.toInt32).toUInt32 >>> ((0 : Int32) &&& 31).toUInt32).toInt32).toInt8.toInt32))))])) _
      refine XS.ifNo X129.here hx rfl (hb hby at_163) rfl ((if0 _ _).trans (feq (own_t2_7 p1 p3)).1) ?_
      show Steps p.tables e below (T129.setTop (mkF m 166 #[.val (.long p1), .second, .val (.int p2), .val (.int p3), .val (.ref b1), .val (.int (2 : Int32)), .val (.ref rr97)] [])) _
      refine XS.iconst X129.here hx rfl (hb hby at_166) ?_
      show Steps p.tables e below (T129.setTop (mkF m 167 #[.val (.long p1), .second, .val (.int p2), .val (.int p3), .val (.ref b1), .val (.int (2 : Int32)), .val (.ref rr97)] [(.int (1 : Int32))])) _
      refine XS.goto X129.here hx rfl (pc0 := 167) (pc' := 171) rfl (hb hby at_167) (by decide) (by decide) ?_
      exact k
    obtain ⟨fs, hr, hrun, hended, hW, hsame⟩ := X129.leave (v := (some (.int (1 : Int32)))) (fun h => by rw [Bd.returns] at h; cases h)
    refine ⟨_, _, k131 _ ?_, hrun, hended, _, _, rfl, ?_, ⟨_, rfl⟩, hW, hsame.mono (by decide) (by decide)⟩
    · exact retN X129 hx (t := .boolean) Bd.returns (by simp) (hb hby at_171) hr
    · exact ⟨rfl, N129⟩
  · have k132 : ∀ t, Steps p.tables e below (T9.setTop (mkF m 25 #[.val (.long p1), .second, .val (.int p2), .val (.int p3), .val (.ref b1), .val (.int (3 : Int32)), .unset] [])) t → Steps p.tables e below (s₁.setTop (entryFrame m #[(.long p1), (.int p2), (.int p3)] maxLocals)) t := by have z := k11; rw [he] at z; exact z
    have k133 : ∀ t, Steps p.tables e below (T9.setTop (mkF m 30 #[.val (.long p1), .second, .val (.int p2), .val (.int p3), .val (.ref b1), .val (.int (3 : Int32)), .unset] [(.int p3), (.int (3 : Int32)), (.ref b1)])) t → Steps p.tables e below (s₁.setTop (entryFrame m #[(.long p1), (.int p2), (.int p3)] maxLocals)) t := by
      intro t k
      refine k132 t ?_
      show Steps p.tables e below (T9.setTop (mkF m 25 #[.val (.long p1), .second, .val (.int p2), .val (.int p3), .val (.ref b1), .val (.int (3 : Int32)), .unset] [])) _
      refine XS.aload X9.here hx rfl (hb hby at_25) rfl rfl ?_
      show Steps p.tables e below (T9.setTop (mkF m 27 #[.val (.long p1), .second, .val (.int p2), .val (.int p3), .val (.ref b1), .val (.int (3 : Int32)), .unset] [(.ref b1)])) _
      refine XS.iload X9.here hx rfl (hb hby at_27) rfl ?_
      show Steps p.tables e below (T9.setTop (mkF m 29 #[.val (.long p1), .second, .val (.int p2), .val (.int p3), .val (.ref b1), .val (.int (3 : Int32)), .unset] [(.int (3 : Int32)), (.ref b1)])) _
      refine XS.iloadN X9.here hx rfl (hb hby at_29) rfl ?_
      exact k
    obtain ⟨cq134, kq134, q134a, q134b, q134c⟩ := isOf hZ rfl Eq9
    obtain ⟨_, _, ⟨T134, L134, k134c, n134⟩, -, X134, ⟨Lc134, hQ134, l134, y134, z134⟩, st134⟩ := X9.virtualBack hx (y := (⟨"com/example/reckoner/reckoner/Bytes", "setU2", "(II)V"⟩ : MethodName)) (z := (⟨"com/example/reckoner/reckoner/Bytes", "setU2", "(II)V"⟩ : MethodName)) hown (mvT hZ (hw _ (List.mem_of_getElem? (i := 29) rfl))) (mvT hZ (hw _ (List.mem_of_getElem? (i := 30) rfl))) (notFace_of_selects (args := #[]) (mvT hZ (hw _ (List.mem_of_getElem? (i := 32) rfl)))) (mvT hZ (hw _ (List.mem_of_getElem? (i := 32) rfl))) (mvT hZ (hw _ (List.mem_of_getElem? (i := 31) rfl))) (by decide) (backOf (W := 0) (own_rmsu3 l Z a0 hw [] b1 p3 (8 : Int32) ar6 cc6 (nar .byte ((((((p1.toUInt64 >>> ((32 : Int32) &&& 0x3f).toInt64.toUInt64).toInt64).toInt32).toUInt32 >>> ((24 : Int32) &&& 31).toUInt32).toInt32).toInt8.toInt32)) (nar .byte ((((((p1.toUInt64 >>> ((32 : Int32) &&& 0x3f).toInt64.toUInt64).toInt64).toInt32).toUInt32 >>> ((16 : Int32) &&& 31).toUInt32).toInt32).toInt8.toInt32)) (nar .byte ((((((p1.toUInt64 >>> ((32 : Int32) &&& 0x3f).toInt64.toUInt64).toInt64).toInt32).toUInt32 >>> ((8 : Int32) &&& 31).toUInt32).toInt32).toInt8.toInt32)) (nar .byte ((((((p1.toUInt64 >>> ((32 : Int32) &&& 0x3f).toInt64.toUInt64).toInt64).toInt32).toUInt32 >>> ((0 : Int32) &&& 31).toUInt32).toInt32).toInt8.toInt32)) (nar .byte ((((p1.toInt32).toUInt32 >>> ((24 : Int32) &&& 31).toUInt32).toInt32).toInt8.toInt32)) (nar .byte ((((p1.toInt32).toUInt32 >>> ((16 : Int32) &&& 31).toUInt32).toInt32).toInt8.toInt32)) (nar .byte ((((p1.toInt32).toUInt32 >>> ((8 : Int32) &&& 31).toUInt32).toInt32).toInt8.toInt32)) (nar .byte ((((p1.toInt32).toUInt32 >>> ((0 : Int32) &&& 31).toUInt32).toInt32).toInt8.toInt32)) T9.heap n0 Z9 Eq9 Fa9 Fb9 Vq9 ge1 ge6 ne6x) hZ (hw _ (List.mem_of_getElem? (i := 33) rfl)) (hw _ (List.mem_of_getElem? (i := 2) rfl)) (by decide) (by decide)) q134a q134c (g := (mkF m 30 #[.val (.long p1), .second, .val (.int p2), .val (.int p3), .val (.ref b1), .val (.int (3 : Int32)), .unset] [(.int p3), (.int (3 : Int32)), (.ref b1)])) rfl (by rw [hml]; rfl) (Steps.refl _) (argsL := [(.int (3 : Int32)), (.int p3)]) (rest := []) (lenOf own_pd6 rfl) rfl (by show 2 * 0 + _ ≤ _; exact Nat.le_of_eq rfl) (hb hby at_30) (fun _ _ => ⟨rfl, rfl, (by decide : 2 + 0 ≤ _), (by decide : 66 + 0 ≤ _)⟩)
    dsimp only [Pt.U, Pt.locs, Pt.cells, Pt.slots] at X134 l134 y134 z134 st134 hQ134
    subst l134 y134 z134
    obtain ⟨rfl, N134q, Kq134, Eq134, Fa134, Fb134, Vq134⟩ := hQ134
    have N134 := Fr.app N9 N134q
    have Z134 : n0 ≤ T134.heap.size := Nat.le_trans Z9 Kq134.1
    have k135 : ∀ t, Steps p.tables e below (T134.setTop (mkF m 33 #[.val (.long p1), .second, .val (.int p2), .val (.int p3), .val (.ref b1), .val (.int (3 : Int32)), .unset] [])) t → Steps p.tables e below (s₁.setTop (entryFrame m #[(.long p1), (.int p2), (.int p3)] maxLocals)) t := fun t k => k133 t (st134.trans k)
    have k136 : ∀ t, Steps p.tables e below (T134.setTop (mkF m 35 #[.val (.long p1), .second, .val (.int p2), .val (.int p3), .val (.ref b1), .val (.int (3 : Int32)), .unset] [(.ref b1)])) t → Steps p.tables e below (s₁.setTop (entryFrame m #[(.long p1), (.int p2), (.int p3)] maxLocals)) t := by
      intro t k
      refine k135 t ?_
      show Steps p.tables e below (T134.setTop (mkF m 33 #[.val (.long p1), .second, .val (.int p2), .val (.int p3), .val (.ref b1), .val (.int (3 : Int32)), .unset] [])) _
      refine XS.aload X134.here hx rfl (hb hby at_33) rfl rfl ?_
      exact k
    obtain ⟨cq137, kq137, q137a, q137b, q137c⟩ := isOf hZ rfl Eq134
    obtain ⟨_, _, ⟨T137, L137, k137c, n137⟩, -, X137, ⟨Lc137, hQ137, l137, y137, z137⟩, st137⟩ := X134.virtualBack hx (y := (⟨"com/example/reckoner/reckoner/Bytes", "toArray", "()[B"⟩ : MethodName)) (z := (⟨"com/example/reckoner/reckoner/Bytes", "toArray", "()[B"⟩ : MethodName)) hown (mvT hZ (hw _ (List.mem_of_getElem? (i := 34) rfl))) (mvT hZ (hw _ (List.mem_of_getElem? (i := 35) rfl))) (notFace_of_selects (args := #[]) (mvT hZ (hw _ (List.mem_of_getElem? (i := 37) rfl)))) (mvT hZ (hw _ (List.mem_of_getElem? (i := 37) rfl))) (mvT hZ (hw _ (List.mem_of_getElem? (i := 36) rfl))) (by decide) (backOf (W := 0) (own_rmta l Z a0 hw [] b1 ar6 cc6 (nar .byte ((((((p1.toUInt64 >>> ((32 : Int32) &&& 0x3f).toInt64.toUInt64).toInt64).toInt32).toUInt32 >>> ((24 : Int32) &&& 31).toUInt32).toInt32).toInt8.toInt32)) (nar .byte ((((((p1.toUInt64 >>> ((32 : Int32) &&& 0x3f).toInt64.toUInt64).toInt64).toInt32).toUInt32 >>> ((16 : Int32) &&& 31).toUInt32).toInt32).toInt8.toInt32)) (nar .byte ((((((p1.toUInt64 >>> ((32 : Int32) &&& 0x3f).toInt64.toUInt64).toInt64).toInt32).toUInt32 >>> ((8 : Int32) &&& 31).toUInt32).toInt32).toInt8.toInt32)) (nar .byte (((p3.toUInt32 >>> ((8 : Int32) &&& 31).toUInt32).toInt32).toInt8.toInt32)) (nar .byte (p3.toInt8.toInt32)) (nar .byte ((((p1.toInt32).toUInt32 >>> ((16 : Int32) &&& 31).toUInt32).toInt32).toInt8.toInt32)) (nar .byte ((((p1.toInt32).toUInt32 >>> ((8 : Int32) &&& 31).toUInt32).toInt32).toInt8.toInt32)) (nar .byte ((((p1.toInt32).toUInt32 >>> ((0 : Int32) &&& 31).toUInt32).toInt32).toInt8.toInt32)) T134.heap n0 Z134 Fa134 Fb134 Vq134) hZ (hw _ (List.mem_of_getElem? (i := 38) rfl)) (hw _ (List.mem_of_getElem? (i := 2) rfl)) (by decide) (by decide)) q137a q137c (g := (mkF m 35 #[.val (.long p1), .second, .val (.int p2), .val (.int p3), .val (.ref b1), .val (.int (3 : Int32)), .unset] [(.ref b1)])) rfl (by rw [hml]; rfl) (Steps.refl _) (argsL := []) (rest := []) (lenOf own_pd7 rfl) rfl (by show 2 * 0 + _ ≤ _; exact Nat.le_of_eq rfl) (hb hby at_35) (fun _ _ => ⟨rfl, rfl, (by decide : 2 + 1 ≤ _), (by decide : 66 + 8 ≤ _)⟩)
    dsimp only [Pt.U, Pt.locs, Pt.cells, Pt.slots] at X137 l137 y137 z137 st137 hQ137
    subst l137 y137 z137
    obtain ⟨rr137, rc137, rfl, N137q, Kq137, Vr137⟩ := hQ137
    have N137 := Fr.app N134 N137q
    have f138 := Eq134.keep Kq137
    have f139 := Fa134.keep Kq137 List.not_mem_nil
    have f140 := Fb134.keep Kq137 List.not_mem_nil
    have f141 := Vq134.keep Kq137 List.not_mem_nil
    have Z137 : n0 ≤ T137.heap.size := Nat.le_trans Z134 Kq137.1
    have k142 : ∀ t, Steps p.tables e below (T137.setTop (mkF m 38 #[.val (.long p1), .second, .val (.int p2), .val (.int p3), .val (.ref b1), .val (.int (3 : Int32)), .unset] [(.ref rr137)])) t → Steps p.tables e below (s₁.setTop (entryFrame m #[(.long p1), (.int p2), (.int p3)] maxLocals)) t := fun t k => k136 t (st137.trans k)
    have k143 : ∀ t, Steps p.tables e below (T137.setTop (mkF m 42 #[.val (.long p1), .second, .val (.int p2), .val (.int p3), .val (.ref b1), .val (.int (3 : Int32)), .val (.ref rr137)] [(.ref b1)])) t → Steps p.tables e below (s₁.setTop (entryFrame m #[(.long p1), (.int p2), (.int p3)] maxLocals)) t := by
      intro t k
      refine k142 t ?_
      show Steps p.tables e below (T137.setTop (mkF m 38 #[.val (.long p1), .second, .val (.int p2), .val (.int p3), .val (.ref b1), .val (.int (3 : Int32)), .unset] [(.ref rr137)])) _
      refine XS.astore X137.here hx rfl (hb hby at_38) rfl rfl (l' := #[.val (.long p1), .second, .val (.int p2), .val (.int p3), .val (.ref b1), .val (.int (3 : Int32)), .val (.ref rr137)]) rfl ?_
      show Steps p.tables e below (T137.setTop (mkF m 40 #[.val (.long p1), .second, .val (.int p2), .val (.int p3), .val (.ref b1), .val (.int (3 : Int32)), .val (.ref rr137)] [])) _
      refine XS.aload X137.here hx rfl (hb hby at_40) rfl rfl ?_
      exact k
    obtain ⟨cq144, kq144, q144a, q144b, q144c⟩ := isOf hZ rfl f138
    obtain ⟨_, _, ⟨T144, L144, k144c, n144⟩, -, X144, ⟨Lc144, hQ144, l144, y144, z144⟩, st144⟩ := X137.virtualBack hx (y := (⟨"com/example/reckoner/reckoner/Bytes", "length", "()I"⟩ : MethodName)) (z := (⟨"com/example/reckoner/reckoner/Bytes", "length", "()I"⟩ : MethodName)) hown (mvT hZ (hw _ (List.mem_of_getElem? (i := 51) rfl))) (mvT hZ (hw _ (List.mem_of_getElem? (i := 52) rfl))) (notFace_of_selects (args := #[]) (mvT hZ (hw _ (List.mem_of_getElem? (i := 54) rfl)))) (mvT hZ (hw _ (List.mem_of_getElem? (i := 54) rfl))) (mvT hZ (hw _ (List.mem_of_getElem? (i := 53) rfl))) (by decide) (backOf (W := 0) (own_rmln l Z a0 hw [] b1 (8 : Int32) T137.heap n0 Z137 f140) hZ (hw _ (List.mem_of_getElem? (i := 55) rfl)) (hw _ (List.mem_of_getElem? (i := 2) rfl)) (by decide) (by decide)) q144a q144c (g := (mkF m 42 #[.val (.long p1), .second, .val (.int p2), .val (.int p3), .val (.ref b1), .val (.int (3 : Int32)), .val (.ref rr137)] [(.ref b1)])) rfl (by rw [hml]; rfl) (Steps.refl _) (argsL := []) (rest := []) (lenOf own_pd8 rfl) rfl (by show 2 * 0 + _ ≤ _; exact Nat.le_of_eq rfl) (hb hby at_42) (fun _ _ => ⟨rfl, rfl, (by decide : 3 + 0 ≤ _), (by decide : 74 + 0 ≤ _)⟩)
    dsimp only [Pt.U, Pt.locs, Pt.cells, Pt.slots] at X144 l144 y144 z144 st144 hQ144
    subst l144 y144 z144
    obtain ⟨hr144, N144q, e144⟩ := hQ144
    rw [show (own_vln (8 : Int32)) = (8 : Int32) from rfl] at hr144
    subst hr144
    have N144 := Fr.app N137 N144q
    have k145 : ∀ t, Steps p.tables e below (T144.setTop (mkF m 45 #[.val (.long p1), .second, .val (.int p2), .val (.int p3), .val (.ref b1), .val (.int (3 : Int32)), .val (.ref rr137)] [(.int (8 : Int32))])) t → Steps p.tables e below (s₁.setTop (entryFrame m #[(.long p1), (.int p2), (.int p3)] maxLocals)) t := fun t k => k143 t (st144.trans k)
    obtain ⟨cl146, Ar146, qa146, Sa146, Na146, Ha146, Ga146⟩ := id Vr137
    have k147 : ∀ t, Steps p.tables e below (T144.setTop (mkF m 67 #[.val (.long p1), .second, .val (.int p2), .val (.int p3), .val (.ref b1), .val (.int (3 : Int32)), .val (.ref rr137)] [(.long p1), (.int p3), (.int (3 : Int32)), (.int (0 : Int32)), (.ref rr137)])) t → Steps p.tables e below (s₁.setTop (entryFrame m #[(.long p1), (.int p2), (.int p3)] maxLocals)) t := by
      intro t k
      refine k145 t ?_
      show Steps p.tables e below (T144.setTop (mkF m 45 #[.val (.long p1), .second, .val (.int p2), .val (.int p3), .val (.ref b1), .val (.int (3 : Int32)), .val (.ref rr137)] [(.int (8 : Int32))])) _
      refine XS.bipush X144.here hx rfl (hb hby at_45) ?_
      show Steps p.tables e below (T144.setTop (mkF m 47 #[.val (.long p1), .second, .val (.int p2), .val (.int p3), .val (.ref b1), .val (.int (3 : Int32)), .val (.ref rr137)] [(.int (8 : Int32)), (.int (8 : Int32))])) _
      refine XS.icmpNo X144.here hx rfl (hb hby at_47) rfl (teq (rfl : (8 : Int32) = (8 : Int32))).2 ?_
      show Steps p.tables e below (T144.setTop (mkF m 50 #[.val (.long p1), .second, .val (.int p2), .val (.int p3), .val (.ref b1), .val (.int (3 : Int32)), .val (.ref rr137)] [])) _
      refine XS.aload X144.here hx rfl (hb hby at_50) rfl rfl ?_
      show Steps p.tables e below (T144.setTop (mkF m 52 #[.val (.long p1), .second, .val (.int p2), .val (.int p3), .val (.ref b1), .val (.int (3 : Int32)), .val (.ref rr137)] [(.ref rr137)])) _
      refine X144.arraylength hx (by rw [e144]; exact Ar146.1) (State.isArrayOf_alike hZ.alike Ar146.2.1) (g := (mkF m 52 #[.val (.long p1), .second, .val (.int p2), .val (.int p3), .val (.ref b1), .val (.int (3 : Int32)), .val (.ref rr137)] [(.ref rr137)])) rfl rfl (hb hby at_52) _ ?_
      rw [len_of Sa146 Na146]
      show Steps p.tables e below (T144.setTop (mkF m 53 #[.val (.long p1), .second, .val (.int p2), .val (.int p3), .val (.ref b1), .val (.int (3 : Int32)), .val (.ref rr137)] [(.int (8 : Int32))])) _
      refine XS.bipush X144.here hx rfl (hb hby at_53) ?_
      show Steps p.tables e below (T144.setTop (mkF m 55 #[.val (.long p1), .second, .val (.int p2), .val (.int p3), .val (.ref b1), .val (.int (3 : Int32)), .val (.ref rr137)] [(.int (8 : Int32)), (.int (8 : Int32))])) _
      refine XS.icmpYes X144.here hx rfl (pc0 := 55) (pc' := 60) rfl (hb hby at_55) rfl (teq (rfl : (8 : Int32) = (8 : Int32))).1 (by decide) (by decide) ?_
      show Steps p.tables e below (T144.setTop (mkF m 60 #[.val (.long p1), .second, .val (.int p2), .val (.int p3), .val (.ref b1), .val (.int (3 : Int32)), .val (.ref rr137)] [])) _
      refine XS.aload X144.here hx rfl (hb hby at_60) rfl rfl ?_
      show Steps p.tables e below (T144.setTop (mkF m 62 #[.val (.long p1), .second, .val (.int p2), .val (.int p3), .val (.ref b1), .val (.int (3 : Int32)), .val (.ref rr137)] [(.ref rr137)])) _
      refine XS.iconst X144.here hx rfl (hb hby at_62) ?_
      show Steps p.tables e below (T144.setTop (mkF m 63 #[.val (.long p1), .second, .val (.int p2), .val (.int p3), .val (.ref b1), .val (.int (3 : Int32)), .val (.ref rr137)] [(.int (0 : Int32)), (.ref rr137)])) _
      refine XS.iload X144.here hx rfl (hb hby at_63) rfl ?_
      show Steps p.tables e below (T144.setTop (mkF m 65 #[.val (.long p1), .second, .val (.int p2), .val (.int p3), .val (.ref b1), .val (.int (3 : Int32)), .val (.ref rr137)] [(.int (3 : Int32)), (.int (0 : Int32)), (.ref rr137)])) _
      refine XS.iloadN X144.here hx rfl (hb hby at_65) rfl ?_
      show Steps p.tables e below (T144.setTop (mkF m 66 #[.val (.long p1), .second, .val (.int p2), .val (.int p3), .val (.ref b1), .val (.int (3 : Int32)), .val (.ref rr137)] [(.int p3), (.int (3 : Int32)), (.int (0 : Int32)), (.ref rr137)])) _
      refine XS.lloadN X144.here hx rfl (hb hby at_66) rfl ?_
      exact k
    obtain ⟨_, _, ⟨T148, L148, k148c, n148⟩, -, X148, ⟨Lc148, hQ148, l148, y148, z148⟩, st148⟩ := Jvm.LawKit.callS X144 hx (y := (⟨"com/example/reckoner/reckoner/BytesSetU2PinLaw", "at", "([BIIIJ)Z"⟩ : MethodName)) hown (mvT hZ (hw _ (List.mem_of_getElem? (i := 56) rfl))) (mvT hZ (hw _ (List.mem_of_getElem? (i := 57) rfl))) (mvT hZ (hw _ (List.mem_of_getElem? (i := 58) rfl))) (mvT hZ (hw _ (List.mem_of_getElem? (i := 59) rfl))) (by decide) (backOf (W := 0) (own_rmat0 l Z a0 hw [] rr137 (3 : Int32) p3 p1 rc137 (nar .byte ((((((p1.toUInt64 >>> ((32 : Int32) &&& 0x3f).toInt64.toUInt64).toInt64).toInt32).toUInt32 >>> ((24 : Int32) &&& 31).toUInt32).toInt32).toInt8.toInt32)) (nar .byte ((((((p1.toUInt64 >>> ((32 : Int32) &&& 0x3f).toInt64.toUInt64).toInt64).toInt32).toUInt32 >>> ((16 : Int32) &&& 31).toUInt32).toInt32).toInt8.toInt32)) (nar .byte ((((((p1.toUInt64 >>> ((32 : Int32) &&& 0x3f).toInt64.toUInt64).toInt64).toInt32).toUInt32 >>> ((8 : Int32) &&& 31).toUInt32).toInt32).toInt8.toInt32)) (nar .byte (((p3.toUInt32 >>> ((8 : Int32) &&& 31).toUInt32).toInt32).toInt8.toInt32)) (nar .byte (p3.toInt8.toInt32)) (nar .byte ((((p1.toInt32).toUInt32 >>> ((16 : Int32) &&& 31).toUInt32).toInt32).toInt8.toInt32)) (nar .byte ((((p1.toInt32).toUInt32 >>> ((8 : Int32) &&& 31).toUInt32).toInt32).toInt8.toInt32)) (nar .byte ((((p1.toInt32).toUInt32 >>> ((0 : Int32) &&& 31).toUInt32).toInt32).toInt8.toInt32)) T137.heap n0 Z137 Vr137) hZ (hw _ (List.mem_of_getElem? (i := 59) rfl)) (hw _ (List.mem_of_getElem? (i := 58) rfl)) (by decide) (by decide)) (g := (mkF m 67 #[.val (.long p1), .second, .val (.int p2), .val (.int p3), .val (.ref b1), .val (.int (3 : Int32)), .val (.ref rr137)] [(.long p1), (.int p3), (.int (3 : Int32)), (.int (0 : Int32)), (.ref rr137)])) rfl (by rw [hml]; rfl) (argsL := [(.ref rr137), (.int (0 : Int32)), (.int (3 : Int32)), (.int p3), (.long p1)]) (rest := []) (lenOf own_pd9 rfl) rfl (by show 2 * 0 + _ ≤ _; exact Nat.le_of_eq rfl) (hb hby at_67) (fun _ _ => ⟨rfl, e144, (by decide : 3 + 0 ≤ _), (by decide : 74 + 0 ≤ _)⟩)
    dsimp only [Pt.U, Pt.locs, Pt.cells, Pt.slots] at X148 l148 y148 z148 st148 hQ148
    subst l148 y148 z148
    obtain ⟨rfl, N148q, e148⟩ := hQ148
    have N148 := Fr.app N144 N148q
    have k149 : ∀ t, Steps p.tables e below (T148.setTop (mkF m 70 #[.val (.long p1), .second, .val (.int p2), .val (.int p3), .val (.ref b1), .val (.int (3 : Int32)), .val (.ref rr137)] [(.int (own_vat0 (3 : Int32) p3 p1 (nar .byte ((((((p1.toUInt64 >>> ((32 : Int32) &&& 0x3f).toInt64.toUInt64).toInt64).toInt32).toUInt32 >>> ((24 : Int32) &&& 31).toUInt32).toInt32).toInt8.toInt32))))])) t → Steps p.tables e below (s₁.setTop (entryFrame m #[(.long p1), (.int p2), (.int p3)] maxLocals)) t := fun t k => k147 t (st148 t k)
    have k150 : ∀ t, Steps p.tables e below (T148.setTop (mkF m 80 #[.val (.long p1), .second, .val (.int p2), .val (.int p3), .val (.ref b1), .val (.int (3 : Int32)), .val (.ref rr137)] [(.long p1), (.int p3), (.int (3 : Int32)), (.int (1 : Int32)), (.ref rr137)])) t → Steps p.tables e below (s₁.setTop (entryFrame m #[(.long p1), (.int p2), (.int p3)] maxLocals)) t := by
      intro t k
      refine k149 t ?_
      show Steps p.tables e below (T148.setTop (mkF m 70 #[.val (.long p1), .second, .val (.int p2), .val (.int p3), .val (.ref b1), .val (.int (3 : Int32)), .val (.ref rr137)] [(.int (own_vat0 (3 : Int32) p3 p1 (nar .byte ((((((p1.toUInt64 >>> ((32 : Int32) &&& 0x3f).toInt64.toUInt64).toInt64).toInt32).toUInt32 >>> ((24 : Int32) &&& 31).toUInt32).toInt32).toInt8.toInt32))))])) _
      refine XS.ifNo X148.here hx rfl (hb hby at_70) rfl ((if0 _ _).trans (feq (own_t3_0 p1 p3)).1) ?_
      show Steps p.tables e below (T148.setTop (mkF m 73 #[.val (.long p1), .second, .val (.int p2), .val (.int p3), .val (.ref b1), .val (.int (3 : Int32)), .val (.ref rr137)] [])) _
      refine XS.aload X148.here hx rfl (hb hby at_73) rfl rfl ?_
      show Steps p.tables e below (T148.setTop (mkF m 75 #[.val (.long p1), .second, .val (.int p2), .val (.int p3), .val (.ref b1), .val (.int (3 : Int32)), .val (.ref rr137)] [(.ref rr137)])) _
      refine XS.iconst X148.here hx rfl (hb hby at_75) ?_
      show Steps p.tables e below (T148.setTop (mkF m 76 #[.val (.long p1), .second, .val (.int p2), .val (.int p3), .val (.ref b1), .val (.int (3 : Int32)), .val (.ref rr137)] [(.int (1 : Int32)), (.ref rr137)])) _
      refine XS.iload X148.here hx rfl (hb hby at_76) rfl ?_
      show Steps p.tables e below (T148.setTop (mkF m 78 #[.val (.long p1), .second, .val (.int p2), .val (.int p3), .val (.ref b1), .val (.int (3 : Int32)), .val (.ref rr137)] [(.int (3 : Int32)), (.int (1 : Int32)), (.ref rr137)])) _
      refine XS.iloadN X148.here hx rfl (hb hby at_78) rfl ?_
      show Steps p.tables e below (T148.setTop (mkF m 79 #[.val (.long p1), .second, .val (.int p2), .val (.int p3), .val (.ref b1), .val (.int (3 : Int32)), .val (.ref rr137)] [(.int p3), (.int (3 : Int32)), (.int (1 : Int32)), (.ref rr137)])) _
      refine XS.lloadN X148.here hx rfl (hb hby at_79) rfl ?_
      exact k
    obtain ⟨_, _, ⟨T151, L151, k151c, n151⟩, -, X151, ⟨Lc151, hQ151, l151, y151, z151⟩, st151⟩ := Jvm.LawKit.callS X148 hx (y := (⟨"com/example/reckoner/reckoner/BytesSetU2PinLaw", "at", "([BIIIJ)Z"⟩ : MethodName)) hown (mvT hZ (hw _ (List.mem_of_getElem? (i := 56) rfl))) (mvT hZ (hw _ (List.mem_of_getElem? (i := 57) rfl))) (mvT hZ (hw _ (List.mem_of_getElem? (i := 58) rfl))) (mvT hZ (hw _ (List.mem_of_getElem? (i := 59) rfl))) (by decide) (backOf (W := 0) (own_rmat1 l Z a0 hw [] rr137 (3 : Int32) p3 p1 rc137 (nar .byte ((((((p1.toUInt64 >>> ((32 : Int32) &&& 0x3f).toInt64.toUInt64).toInt64).toInt32).toUInt32 >>> ((24 : Int32) &&& 31).toUInt32).toInt32).toInt8.toInt32)) (nar .byte ((((((p1.toUInt64 >>> ((32 : Int32) &&& 0x3f).toInt64.toUInt64).toInt64).toInt32).toUInt32 >>> ((16 : Int32) &&& 31).toUInt32).toInt32).toInt8.toInt32)) (nar .byte ((((((p1.toUInt64 >>> ((32 : Int32) &&& 0x3f).toInt64.toUInt64).toInt64).toInt32).toUInt32 >>> ((8 : Int32) &&& 31).toUInt32).toInt32).toInt8.toInt32)) (nar .byte (((p3.toUInt32 >>> ((8 : Int32) &&& 31).toUInt32).toInt32).toInt8.toInt32)) (nar .byte (p3.toInt8.toInt32)) (nar .byte ((((p1.toInt32).toUInt32 >>> ((16 : Int32) &&& 31).toUInt32).toInt32).toInt8.toInt32)) (nar .byte ((((p1.toInt32).toUInt32 >>> ((8 : Int32) &&& 31).toUInt32).toInt32).toInt8.toInt32)) (nar .byte ((((p1.toInt32).toUInt32 >>> ((0 : Int32) &&& 31).toUInt32).toInt32).toInt8.toInt32)) T137.heap n0 Z137 Vr137) hZ (hw _ (List.mem_of_getElem? (i := 59) rfl)) (hw _ (List.mem_of_getElem? (i := 58) rfl)) (by decide) (by decide)) (g := (mkF m 80 #[.val (.long p1), .second, .val (.int p2), .val (.int p3), .val (.ref b1), .val (.int (3 : Int32)), .val (.ref rr137)] [(.long p1), (.int p3), (.int (3 : Int32)), (.int (1 : Int32)), (.ref rr137)])) rfl (by rw [hml]; rfl) (argsL := [(.ref rr137), (.int (1 : Int32)), (.int (3 : Int32)), (.int p3), (.long p1)]) (rest := []) (lenOf own_pd9 rfl) rfl (by show 2 * 0 + _ ≤ _; exact Nat.le_of_eq rfl) (hb hby at_80) (fun _ _ => ⟨rfl, e148, (by decide : 3 + 0 ≤ _), (by decide : 74 + 0 ≤ _)⟩)
    dsimp only [Pt.U, Pt.locs, Pt.cells, Pt.slots] at X151 l151 y151 z151 st151 hQ151
    subst l151 y151 z151
    obtain ⟨rfl, N151q, e151⟩ := hQ151
    have N151 := Fr.app N148 N151q
    have k152 : ∀ t, Steps p.tables e below (T151.setTop (mkF m 83 #[.val (.long p1), .second, .val (.int p2), .val (.int p3), .val (.ref b1), .val (.int (3 : Int32)), .val (.ref rr137)] [(.int (own_vat1 (3 : Int32) p3 p1 (nar .byte ((((((p1.toUInt64 >>> ((32 : Int32) &&& 0x3f).toInt64.toUInt64).toInt64).toInt32).toUInt32 >>> ((16 : Int32) &&& 31).toUInt32).toInt32).toInt8.toInt32))))])) t → Steps p.tables e below (s₁.setTop (entryFrame m #[(.long p1), (.int p2), (.int p3)] maxLocals)) t := fun t k => k150 t (st151 t k)
    have k153 : ∀ t, Steps p.tables e below (T151.setTop (mkF m 93 #[.val (.long p1), .second, .val (.int p2), .val (.int p3), .val (.ref b1), .val (.int (3 : Int32)), .val (.ref rr137)] [(.long p1), (.int p3), (.int (3 : Int32)), (.int (2 : Int32)), (.ref rr137)])) t → Steps p.tables e below (s₁.setTop (entryFrame m #[(.long p1), (.int p2), (.int p3)] maxLocals)) t := by
      intro t k
      refine k152 t ?_
      show Steps p.tables e below (T151.setTop (mkF m 83 #[.val (.long p1), .second, .val (.int p2), .val (.int p3), .val (.ref b1), .val (.int (3 : Int32)), .val (.ref rr137)] [(.int (own_vat1 (3 : Int32) p3 p1 (nar .byte ((((((p1.toUInt64 >>> ((32 : Int32) &&& 0x3f).toInt64.toUInt64).toInt64).toInt32).toUInt32 >>> ((16 : Int32) &&& 31).toUInt32).toInt32).toInt8.toInt32))))])) _
      refine XS.ifNo X151.here hx rfl (hb hby at_83) rfl ((if0 _ _).trans (feq (own_t3_1 p1 p3)).1) ?_
      show Steps p.tables e below (T151.setTop (mkF m 86 #[.val (.long p1), .second, .val (.int p2), .val (.int p3), .val (.ref b1), .val (.int (3 : Int32)), .val (.ref rr137)] [])) _
      refine XS.aload X151.here hx rfl (hb hby at_86) rfl rfl ?_
      show Steps p.tables e below (T151.setTop (mkF m 88 #[.val (.long p1), .second, .val (.int p2), .val (.int p3), .val (.ref b1), .val (.int (3 : Int32)), .val (.ref rr137)] [(.ref rr137)])) _
      refine XS.iconst X151.here hx rfl (hb hby at_88) ?_
      show Steps p.tables e below (T151.setTop (mkF m 89 #[.val (.long p1), .second, .val (.int p2), .val (.int p3), .val (.ref b1), .val (.int (3 : Int32)), .val (.ref rr137)] [(.int (2 : Int32)), (.ref rr137)])) _
      refine XS.iload X151.here hx rfl (hb hby at_89) rfl ?_
      show Steps p.tables e below (T151.setTop (mkF m 91 #[.val (.long p1), .second, .val (.int p2), .val (.int p3), .val (.ref b1), .val (.int (3 : Int32)), .val (.ref rr137)] [(.int (3 : Int32)), (.int (2 : Int32)), (.ref rr137)])) _
      refine XS.iloadN X151.here hx rfl (hb hby at_91) rfl ?_
      show Steps p.tables e below (T151.setTop (mkF m 92 #[.val (.long p1), .second, .val (.int p2), .val (.int p3), .val (.ref b1), .val (.int (3 : Int32)), .val (.ref rr137)] [(.int p3), (.int (3 : Int32)), (.int (2 : Int32)), (.ref rr137)])) _
      refine XS.lloadN X151.here hx rfl (hb hby at_92) rfl ?_
      exact k
    obtain ⟨_, _, ⟨T154, L154, k154c, n154⟩, -, X154, ⟨Lc154, hQ154, l154, y154, z154⟩, st154⟩ := Jvm.LawKit.callS X151 hx (y := (⟨"com/example/reckoner/reckoner/BytesSetU2PinLaw", "at", "([BIIIJ)Z"⟩ : MethodName)) hown (mvT hZ (hw _ (List.mem_of_getElem? (i := 56) rfl))) (mvT hZ (hw _ (List.mem_of_getElem? (i := 57) rfl))) (mvT hZ (hw _ (List.mem_of_getElem? (i := 58) rfl))) (mvT hZ (hw _ (List.mem_of_getElem? (i := 59) rfl))) (by decide) (backOf (W := 0) (own_rmat2 l Z a0 hw [] rr137 (3 : Int32) p3 p1 rc137 (nar .byte ((((((p1.toUInt64 >>> ((32 : Int32) &&& 0x3f).toInt64.toUInt64).toInt64).toInt32).toUInt32 >>> ((24 : Int32) &&& 31).toUInt32).toInt32).toInt8.toInt32)) (nar .byte ((((((p1.toUInt64 >>> ((32 : Int32) &&& 0x3f).toInt64.toUInt64).toInt64).toInt32).toUInt32 >>> ((16 : Int32) &&& 31).toUInt32).toInt32).toInt8.toInt32)) (nar .byte ((((((p1.toUInt64 >>> ((32 : Int32) &&& 0x3f).toInt64.toUInt64).toInt64).toInt32).toUInt32 >>> ((8 : Int32) &&& 31).toUInt32).toInt32).toInt8.toInt32)) (nar .byte (((p3.toUInt32 >>> ((8 : Int32) &&& 31).toUInt32).toInt32).toInt8.toInt32)) (nar .byte (p3.toInt8.toInt32)) (nar .byte ((((p1.toInt32).toUInt32 >>> ((16 : Int32) &&& 31).toUInt32).toInt32).toInt8.toInt32)) (nar .byte ((((p1.toInt32).toUInt32 >>> ((8 : Int32) &&& 31).toUInt32).toInt32).toInt8.toInt32)) (nar .byte ((((p1.toInt32).toUInt32 >>> ((0 : Int32) &&& 31).toUInt32).toInt32).toInt8.toInt32)) T137.heap n0 Z137 Vr137) hZ (hw _ (List.mem_of_getElem? (i := 59) rfl)) (hw _ (List.mem_of_getElem? (i := 58) rfl)) (by decide) (by decide)) (g := (mkF m 93 #[.val (.long p1), .second, .val (.int p2), .val (.int p3), .val (.ref b1), .val (.int (3 : Int32)), .val (.ref rr137)] [(.long p1), (.int p3), (.int (3 : Int32)), (.int (2 : Int32)), (.ref rr137)])) rfl (by rw [hml]; rfl) (argsL := [(.ref rr137), (.int (2 : Int32)), (.int (3 : Int32)), (.int p3), (.long p1)]) (rest := []) (lenOf own_pd9 rfl) rfl (by show 2 * 0 + _ ≤ _; exact Nat.le_of_eq rfl) (hb hby at_93) (fun _ _ => ⟨rfl, e151, (by decide : 3 + 0 ≤ _), (by decide : 74 + 0 ≤ _)⟩)
    dsimp only [Pt.U, Pt.locs, Pt.cells, Pt.slots] at X154 l154 y154 z154 st154 hQ154
    subst l154 y154 z154
    obtain ⟨rfl, N154q, e154⟩ := hQ154
    have N154 := Fr.app N151 N154q
    have k155 : ∀ t, Steps p.tables e below (T154.setTop (mkF m 96 #[.val (.long p1), .second, .val (.int p2), .val (.int p3), .val (.ref b1), .val (.int (3 : Int32)), .val (.ref rr137)] [(.int (own_vat2 (3 : Int32) p3 p1 (nar .byte ((((((p1.toUInt64 >>> ((32 : Int32) &&& 0x3f).toInt64.toUInt64).toInt64).toInt32).toUInt32 >>> ((8 : Int32) &&& 31).toUInt32).toInt32).toInt8.toInt32))))])) t → Steps p.tables e below (s₁.setTop (entryFrame m #[(.long p1), (.int p2), (.int p3)] maxLocals)) t := fun t k => k153 t (st154 t k)
    have k156 : ∀ t, Steps p.tables e below (T154.setTop (mkF m 106 #[.val (.long p1), .second, .val (.int p2), .val (.int p3), .val (.ref b1), .val (.int (3 : Int32)), .val (.ref rr137)] [(.long p1), (.int p3), (.int (3 : Int32)), (.int (3 : Int32)), (.ref rr137)])) t → Steps p.tables e below (s₁.setTop (entryFrame m #[(.long p1), (.int p2), (.int p3)] maxLocals)) t := by
      intro t k
      refine k155 t ?_
      show Steps p.tables e below (T154.setTop (mkF m 96 #[.val (.long p1), .second, .val (.int p2), .val (.int p3), .val (.ref b1), .val (.int (3 : Int32)), .val (.ref rr137)] [(.int (own_vat2 (3 : Int32) p3 p1 (nar .byte ((((((p1.toUInt64 >>> ((32 : Int32) &&& 0x3f).toInt64.toUInt64).toInt64).toInt32).toUInt32 >>> ((8 : Int32) &&& 31).toUInt32).toInt32).toInt8.toInt32))))])) _
      refine XS.ifNo X154.here hx rfl (hb hby at_96) rfl ((if0 _ _).trans (feq (own_t3_2 p1 p3)).1) ?_
      show Steps p.tables e below (T154.setTop (mkF m 99 #[.val (.long p1), .second, .val (.int p2), .val (.int p3), .val (.ref b1), .val (.int (3 : Int32)), .val (.ref rr137)] [])) _
      refine XS.aload X154.here hx rfl (hb hby at_99) rfl rfl ?_
      show Steps p.tables e below (T154.setTop (mkF m 101 #[.val (.long p1), .second, .val (.int p2), .val (.int p3), .val (.ref b1), .val (.int (3 : Int32)), .val (.ref rr137)] [(.ref rr137)])) _
      refine XS.iconst X154.here hx rfl (hb hby at_101) ?_
      show Steps p.tables e below (T154.setTop (mkF m 102 #[.val (.long p1), .second, .val (.int p2), .val (.int p3), .val (.ref b1), .val (.int (3 : Int32)), .val (.ref rr137)] [(.int (3 : Int32)), (.ref rr137)])) _
      refine XS.iload X154.here hx rfl (hb hby at_102) rfl ?_
      show Steps p.tables e below (T154.setTop (mkF m 104 #[.val (.long p1), .second, .val (.int p2), .val (.int p3), .val (.ref b1), .val (.int (3 : Int32)), .val (.ref rr137)] [(.int (3 : Int32)), (.int (3 : Int32)), (.ref rr137)])) _
      refine XS.iloadN X154.here hx rfl (hb hby at_104) rfl ?_
      show Steps p.tables e below (T154.setTop (mkF m 105 #[.val (.long p1), .second, .val (.int p2), .val (.int p3), .val (.ref b1), .val (.int (3 : Int32)), .val (.ref rr137)] [(.int p3), (.int (3 : Int32)), (.int (3 : Int32)), (.ref rr137)])) _
      refine XS.lloadN X154.here hx rfl (hb hby at_105) rfl ?_
      exact k
    obtain ⟨_, _, ⟨T157, L157, k157c, n157⟩, -, X157, ⟨Lc157, hQ157, l157, y157, z157⟩, st157⟩ := Jvm.LawKit.callS X154 hx (y := (⟨"com/example/reckoner/reckoner/BytesSetU2PinLaw", "at", "([BIIIJ)Z"⟩ : MethodName)) hown (mvT hZ (hw _ (List.mem_of_getElem? (i := 56) rfl))) (mvT hZ (hw _ (List.mem_of_getElem? (i := 57) rfl))) (mvT hZ (hw _ (List.mem_of_getElem? (i := 58) rfl))) (mvT hZ (hw _ (List.mem_of_getElem? (i := 59) rfl))) (by decide) (backOf (W := 0) (own_rmat3 l Z a0 hw [] rr137 (3 : Int32) p3 p1 rc137 (nar .byte ((((((p1.toUInt64 >>> ((32 : Int32) &&& 0x3f).toInt64.toUInt64).toInt64).toInt32).toUInt32 >>> ((24 : Int32) &&& 31).toUInt32).toInt32).toInt8.toInt32)) (nar .byte ((((((p1.toUInt64 >>> ((32 : Int32) &&& 0x3f).toInt64.toUInt64).toInt64).toInt32).toUInt32 >>> ((16 : Int32) &&& 31).toUInt32).toInt32).toInt8.toInt32)) (nar .byte ((((((p1.toUInt64 >>> ((32 : Int32) &&& 0x3f).toInt64.toUInt64).toInt64).toInt32).toUInt32 >>> ((8 : Int32) &&& 31).toUInt32).toInt32).toInt8.toInt32)) (nar .byte (((p3.toUInt32 >>> ((8 : Int32) &&& 31).toUInt32).toInt32).toInt8.toInt32)) (nar .byte (p3.toInt8.toInt32)) (nar .byte ((((p1.toInt32).toUInt32 >>> ((16 : Int32) &&& 31).toUInt32).toInt32).toInt8.toInt32)) (nar .byte ((((p1.toInt32).toUInt32 >>> ((8 : Int32) &&& 31).toUInt32).toInt32).toInt8.toInt32)) (nar .byte ((((p1.toInt32).toUInt32 >>> ((0 : Int32) &&& 31).toUInt32).toInt32).toInt8.toInt32)) T137.heap n0 Z137 Vr137) hZ (hw _ (List.mem_of_getElem? (i := 59) rfl)) (hw _ (List.mem_of_getElem? (i := 58) rfl)) (by decide) (by decide)) (g := (mkF m 106 #[.val (.long p1), .second, .val (.int p2), .val (.int p3), .val (.ref b1), .val (.int (3 : Int32)), .val (.ref rr137)] [(.long p1), (.int p3), (.int (3 : Int32)), (.int (3 : Int32)), (.ref rr137)])) rfl (by rw [hml]; rfl) (argsL := [(.ref rr137), (.int (3 : Int32)), (.int (3 : Int32)), (.int p3), (.long p1)]) (rest := []) (lenOf own_pd9 rfl) rfl (by show 2 * 0 + _ ≤ _; exact Nat.le_of_eq rfl) (hb hby at_106) (fun _ _ => ⟨rfl, e154, (by decide : 3 + 0 ≤ _), (by decide : 74 + 0 ≤ _)⟩)
    dsimp only [Pt.U, Pt.locs, Pt.cells, Pt.slots] at X157 l157 y157 z157 st157 hQ157
    subst l157 y157 z157
    obtain ⟨rfl, N157q, e157⟩ := hQ157
    have N157 := Fr.app N154 N157q
    have k158 : ∀ t, Steps p.tables e below (T157.setTop (mkF m 109 #[.val (.long p1), .second, .val (.int p2), .val (.int p3), .val (.ref b1), .val (.int (3 : Int32)), .val (.ref rr137)] [(.int (own_vat3 (3 : Int32) p3 p1 (nar .byte (((p3.toUInt32 >>> ((8 : Int32) &&& 31).toUInt32).toInt32).toInt8.toInt32))))])) t → Steps p.tables e below (s₁.setTop (entryFrame m #[(.long p1), (.int p2), (.int p3)] maxLocals)) t := fun t k => k156 t (st157 t k)
    have k159 : ∀ t, Steps p.tables e below (T157.setTop (mkF m 119 #[.val (.long p1), .second, .val (.int p2), .val (.int p3), .val (.ref b1), .val (.int (3 : Int32)), .val (.ref rr137)] [(.long p1), (.int p3), (.int (3 : Int32)), (.int (4 : Int32)), (.ref rr137)])) t → Steps p.tables e below (s₁.setTop (entryFrame m #[(.long p1), (.int p2), (.int p3)] maxLocals)) t := by
      intro t k
      refine k158 t ?_
      show Steps p.tables e below (T157.setTop (mkF m 109 #[.val (.long p1), .second, .val (.int p2), .val (.int p3), .val (.ref b1), .val (.int (3 : Int32)), .val (.ref rr137)] [(.int (own_vat3 (3 : Int32) p3 p1 (nar .byte (((p3.toUInt32 >>> ((8 : Int32) &&& 31).toUInt32).toInt32).toInt8.toInt32))))])) _
      refine XS.ifNo X157.here hx rfl (hb hby at_109) rfl ((if0 _ _).trans (feq (own_t3_3 p1 p3)).1) ?_
      show Steps p.tables e below (T157.setTop (mkF m 112 #[.val (.long p1), .second, .val (.int p2), .val (.int p3), .val (.ref b1), .val (.int (3 : Int32)), .val (.ref rr137)] [])) _
      refine XS.aload X157.here hx rfl (hb hby at_112) rfl rfl ?_
      show Steps p.tables e below (T157.setTop (mkF m 114 #[.val (.long p1), .second, .val (.int p2), .val (.int p3), .val (.ref b1), .val (.int (3 : Int32)), .val (.ref rr137)] [(.ref rr137)])) _
      refine XS.iconst X157.here hx rfl (hb hby at_114) ?_
      show Steps p.tables e below (T157.setTop (mkF m 115 #[.val (.long p1), .second, .val (.int p2), .val (.int p3), .val (.ref b1), .val (.int (3 : Int32)), .val (.ref rr137)] [(.int (4 : Int32)), (.ref rr137)])) _
      refine XS.iload X157.here hx rfl (hb hby at_115) rfl ?_
      show Steps p.tables e below (T157.setTop (mkF m 117 #[.val (.long p1), .second, .val (.int p2), .val (.int p3), .val (.ref b1), .val (.int (3 : Int32)), .val (.ref rr137)] [(.int (3 : Int32)), (.int (4 : Int32)), (.ref rr137)])) _
      refine XS.iloadN X157.here hx rfl (hb hby at_117) rfl ?_
      show Steps p.tables e below (T157.setTop (mkF m 118 #[.val (.long p1), .second, .val (.int p2), .val (.int p3), .val (.ref b1), .val (.int (3 : Int32)), .val (.ref rr137)] [(.int p3), (.int (3 : Int32)), (.int (4 : Int32)), (.ref rr137)])) _
      refine XS.lloadN X157.here hx rfl (hb hby at_118) rfl ?_
      exact k
    obtain ⟨_, _, ⟨T160, L160, k160c, n160⟩, -, X160, ⟨Lc160, hQ160, l160, y160, z160⟩, st160⟩ := Jvm.LawKit.callS X157 hx (y := (⟨"com/example/reckoner/reckoner/BytesSetU2PinLaw", "at", "([BIIIJ)Z"⟩ : MethodName)) hown (mvT hZ (hw _ (List.mem_of_getElem? (i := 56) rfl))) (mvT hZ (hw _ (List.mem_of_getElem? (i := 57) rfl))) (mvT hZ (hw _ (List.mem_of_getElem? (i := 58) rfl))) (mvT hZ (hw _ (List.mem_of_getElem? (i := 59) rfl))) (by decide) (backOf (W := 0) (own_rmat4 l Z a0 hw [] rr137 (3 : Int32) p3 p1 rc137 (nar .byte ((((((p1.toUInt64 >>> ((32 : Int32) &&& 0x3f).toInt64.toUInt64).toInt64).toInt32).toUInt32 >>> ((24 : Int32) &&& 31).toUInt32).toInt32).toInt8.toInt32)) (nar .byte ((((((p1.toUInt64 >>> ((32 : Int32) &&& 0x3f).toInt64.toUInt64).toInt64).toInt32).toUInt32 >>> ((16 : Int32) &&& 31).toUInt32).toInt32).toInt8.toInt32)) (nar .byte ((((((p1.toUInt64 >>> ((32 : Int32) &&& 0x3f).toInt64.toUInt64).toInt64).toInt32).toUInt32 >>> ((8 : Int32) &&& 31).toUInt32).toInt32).toInt8.toInt32)) (nar .byte (((p3.toUInt32 >>> ((8 : Int32) &&& 31).toUInt32).toInt32).toInt8.toInt32)) (nar .byte (p3.toInt8.toInt32)) (nar .byte ((((p1.toInt32).toUInt32 >>> ((16 : Int32) &&& 31).toUInt32).toInt32).toInt8.toInt32)) (nar .byte ((((p1.toInt32).toUInt32 >>> ((8 : Int32) &&& 31).toUInt32).toInt32).toInt8.toInt32)) (nar .byte ((((p1.toInt32).toUInt32 >>> ((0 : Int32) &&& 31).toUInt32).toInt32).toInt8.toInt32)) T137.heap n0 Z137 Vr137) hZ (hw _ (List.mem_of_getElem? (i := 59) rfl)) (hw _ (List.mem_of_getElem? (i := 58) rfl)) (by decide) (by decide)) (g := (mkF m 119 #[.val (.long p1), .second, .val (.int p2), .val (.int p3), .val (.ref b1), .val (.int (3 : Int32)), .val (.ref rr137)] [(.long p1), (.int p3), (.int (3 : Int32)), (.int (4 : Int32)), (.ref rr137)])) rfl (by rw [hml]; rfl) (argsL := [(.ref rr137), (.int (4 : Int32)), (.int (3 : Int32)), (.int p3), (.long p1)]) (rest := []) (lenOf own_pd9 rfl) rfl (by show 2 * 0 + _ ≤ _; exact Nat.le_of_eq rfl) (hb hby at_119) (fun _ _ => ⟨rfl, e157, (by decide : 3 + 0 ≤ _), (by decide : 74 + 0 ≤ _)⟩)
    dsimp only [Pt.U, Pt.locs, Pt.cells, Pt.slots] at X160 l160 y160 z160 st160 hQ160
    subst l160 y160 z160
    obtain ⟨rfl, N160q, e160⟩ := hQ160
    have N160 := Fr.app N157 N160q
    have k161 : ∀ t, Steps p.tables e below (T160.setTop (mkF m 122 #[.val (.long p1), .second, .val (.int p2), .val (.int p3), .val (.ref b1), .val (.int (3 : Int32)), .val (.ref rr137)] [(.int (own_vat4 (3 : Int32) p3 p1 (nar .byte (p3.toInt8.toInt32))))])) t → Steps p.tables e below (s₁.setTop (entryFrame m #[(.long p1), (.int p2), (.int p3)] maxLocals)) t := fun t k => k159 t (st160 t k)
    have k162 : ∀ t, Steps p.tables e below (T160.setTop (mkF m 132 #[.val (.long p1), .second, .val (.int p2), .val (.int p3), .val (.ref b1), .val (.int (3 : Int32)), .val (.ref rr137)] [(.long p1), (.int p3), (.int (3 : Int32)), (.int (5 : Int32)), (.ref rr137)])) t → Steps p.tables e below (s₁.setTop (entryFrame m #[(.long p1), (.int p2), (.int p3)] maxLocals)) t := by
      intro t k
      refine k161 t ?_
      show Steps p.tables e below (T160.setTop (mkF m 122 #[.val (.long p1), .second, .val (.int p2), .val (.int p3), .val (.ref b1), .val (.int (3 : Int32)), .val (.ref rr137)] [(.int (own_vat4 (3 : Int32) p3 p1 (nar .byte (p3.toInt8.toInt32))))])) _
      refine XS.ifNo X160.here hx rfl (hb hby at_122) rfl ((if0 _ _).trans (feq (own_t3_4 p1 p3)).1) ?_
      show Steps p.tables e below (T160.setTop (mkF m 125 #[.val (.long p1), .second, .val (.int p2), .val (.int p3), .val (.ref b1), .val (.int (3 : Int32)), .val (.ref rr137)] [])) _
      refine XS.aload X160.here hx rfl (hb hby at_125) rfl rfl ?_
      show Steps p.tables e below (T160.setTop (mkF m 127 #[.val (.long p1), .second, .val (.int p2), .val (.int p3), .val (.ref b1), .val (.int (3 : Int32)), .val (.ref rr137)] [(.ref rr137)])) _
      refine XS.iconst X160.here hx rfl (hb hby at_127) ?_
      show Steps p.tables e below (T160.setTop (mkF m 128 #[.val (.long p1), .second, .val (.int p2), .val (.int p3), .val (.ref b1), .val (.int (3 : Int32)), .val (.ref rr137)] [(.int (5 : Int32)), (.ref rr137)])) _
      refine XS.iload X160.here hx rfl (hb hby at_128) rfl ?_
      show Steps p.tables e below (T160.setTop (mkF m 130 #[.val (.long p1), .second, .val (.int p2), .val (.int p3), .val (.ref b1), .val (.int (3 : Int32)), .val (.ref rr137)] [(.int (3 : Int32)), (.int (5 : Int32)), (.ref rr137)])) _
      refine XS.iloadN X160.here hx rfl (hb hby at_130) rfl ?_
      show Steps p.tables e below (T160.setTop (mkF m 131 #[.val (.long p1), .second, .val (.int p2), .val (.int p3), .val (.ref b1), .val (.int (3 : Int32)), .val (.ref rr137)] [(.int p3), (.int (3 : Int32)), (.int (5 : Int32)), (.ref rr137)])) _
      refine XS.lloadN X160.here hx rfl (hb hby at_131) rfl ?_
      exact k
    obtain ⟨_, _, ⟨T163, L163, k163c, n163⟩, -, X163, ⟨Lc163, hQ163, l163, y163, z163⟩, st163⟩ := Jvm.LawKit.callS X160 hx (y := (⟨"com/example/reckoner/reckoner/BytesSetU2PinLaw", "at", "([BIIIJ)Z"⟩ : MethodName)) hown (mvT hZ (hw _ (List.mem_of_getElem? (i := 56) rfl))) (mvT hZ (hw _ (List.mem_of_getElem? (i := 57) rfl))) (mvT hZ (hw _ (List.mem_of_getElem? (i := 58) rfl))) (mvT hZ (hw _ (List.mem_of_getElem? (i := 59) rfl))) (by decide) (backOf (W := 0) (own_rmat5 l Z a0 hw [] rr137 (3 : Int32) p3 p1 rc137 (nar .byte ((((((p1.toUInt64 >>> ((32 : Int32) &&& 0x3f).toInt64.toUInt64).toInt64).toInt32).toUInt32 >>> ((24 : Int32) &&& 31).toUInt32).toInt32).toInt8.toInt32)) (nar .byte ((((((p1.toUInt64 >>> ((32 : Int32) &&& 0x3f).toInt64.toUInt64).toInt64).toInt32).toUInt32 >>> ((16 : Int32) &&& 31).toUInt32).toInt32).toInt8.toInt32)) (nar .byte ((((((p1.toUInt64 >>> ((32 : Int32) &&& 0x3f).toInt64.toUInt64).toInt64).toInt32).toUInt32 >>> ((8 : Int32) &&& 31).toUInt32).toInt32).toInt8.toInt32)) (nar .byte (((p3.toUInt32 >>> ((8 : Int32) &&& 31).toUInt32).toInt32).toInt8.toInt32)) (nar .byte (p3.toInt8.toInt32)) (nar .byte ((((p1.toInt32).toUInt32 >>> ((16 : Int32) &&& 31).toUInt32).toInt32).toInt8.toInt32)) (nar .byte ((((p1.toInt32).toUInt32 >>> ((8 : Int32) &&& 31).toUInt32).toInt32).toInt8.toInt32)) (nar .byte ((((p1.toInt32).toUInt32 >>> ((0 : Int32) &&& 31).toUInt32).toInt32).toInt8.toInt32)) T137.heap n0 Z137 Vr137) hZ (hw _ (List.mem_of_getElem? (i := 59) rfl)) (hw _ (List.mem_of_getElem? (i := 58) rfl)) (by decide) (by decide)) (g := (mkF m 132 #[.val (.long p1), .second, .val (.int p2), .val (.int p3), .val (.ref b1), .val (.int (3 : Int32)), .val (.ref rr137)] [(.long p1), (.int p3), (.int (3 : Int32)), (.int (5 : Int32)), (.ref rr137)])) rfl (by rw [hml]; rfl) (argsL := [(.ref rr137), (.int (5 : Int32)), (.int (3 : Int32)), (.int p3), (.long p1)]) (rest := []) (lenOf own_pd9 rfl) rfl (by show 2 * 0 + _ ≤ _; exact Nat.le_of_eq rfl) (hb hby at_132) (fun _ _ => ⟨rfl, e160, (by decide : 3 + 0 ≤ _), (by decide : 74 + 0 ≤ _)⟩)
    dsimp only [Pt.U, Pt.locs, Pt.cells, Pt.slots] at X163 l163 y163 z163 st163 hQ163
    subst l163 y163 z163
    obtain ⟨rfl, N163q, e163⟩ := hQ163
    have N163 := Fr.app N160 N163q
    have k164 : ∀ t, Steps p.tables e below (T163.setTop (mkF m 135 #[.val (.long p1), .second, .val (.int p2), .val (.int p3), .val (.ref b1), .val (.int (3 : Int32)), .val (.ref rr137)] [(.int (own_vat5 (3 : Int32) p3 p1 (nar .byte ((((p1.toInt32).toUInt32 >>> ((16 : Int32) &&& 31).toUInt32).toInt32).toInt8.toInt32))))])) t → Steps p.tables e below (s₁.setTop (entryFrame m #[(.long p1), (.int p2), (.int p3)] maxLocals)) t := fun t k => k162 t (st163 t k)
    have k165 : ∀ t, Steps p.tables e below (T163.setTop (mkF m 146 #[.val (.long p1), .second, .val (.int p2), .val (.int p3), .val (.ref b1), .val (.int (3 : Int32)), .val (.ref rr137)] [(.long p1), (.int p3), (.int (3 : Int32)), (.int (6 : Int32)), (.ref rr137)])) t → Steps p.tables e below (s₁.setTop (entryFrame m #[(.long p1), (.int p2), (.int p3)] maxLocals)) t := by
      intro t k
      refine k164 t ?_
      show Steps p.tables e below (T163.setTop (mkF m 135 #[.val (.long p1), .second, .val (.int p2), .val (.int p3), .val (.ref b1), .val (.int (3 : Int32)), .val (.ref rr137)] [(.int (own_vat5 (3 : Int32) p3 p1 (nar .byte ((((p1.toInt32).toUInt32 >>> ((16 : Int32) &&& 31).toUInt32).toInt32).toInt8.toInt32))))])) _
      refine XS.ifNo X163.here hx rfl (hb hby at_135) rfl ((if0 _ _).trans (feq (own_t3_5 p1 p3)).1) ?_
      show Steps p.tables e below (T163.setTop (mkF m 138 #[.val (.long p1), .second, .val (.int p2), .val (.int p3), .val (.ref b1), .val (.int (3 : Int32)), .val (.ref rr137)] [])) _
      refine XS.aload X163.here hx rfl (hb hby at_138) rfl rfl ?_
      show Steps p.tables e below (T163.setTop (mkF m 140 #[.val (.long p1), .second, .val (.int p2), .val (.int p3), .val (.ref b1), .val (.int (3 : Int32)), .val (.ref rr137)] [(.ref rr137)])) _
      refine XS.bipush X163.here hx rfl (hb hby at_140) ?_
      show Steps p.tables e below (T163.setTop (mkF m 142 #[.val (.long p1), .second, .val (.int p2), .val (.int p3), .val (.ref b1), .val (.int (3 : Int32)), .val (.ref rr137)] [(.int (6 : Int32)), (.ref rr137)])) _
      refine XS.iload X163.here hx rfl (hb hby at_142) rfl ?_
      show Steps p.tables e below (T163.setTop (mkF m 144 #[.val (.long p1), .second, .val (.int p2), .val (.int p3), .val (.ref b1), .val (.int (3 : Int32)), .val (.ref rr137)] [(.int (3 : Int32)), (.int (6 : Int32)), (.ref rr137)])) _
      refine XS.iloadN X163.here hx rfl (hb hby at_144) rfl ?_
      show Steps p.tables e below (T163.setTop (mkF m 145 #[.val (.long p1), .second, .val (.int p2), .val (.int p3), .val (.ref b1), .val (.int (3 : Int32)), .val (.ref rr137)] [(.int p3), (.int (3 : Int32)), (.int (6 : Int32)), (.ref rr137)])) _
      refine XS.lloadN X163.here hx rfl (hb hby at_145) rfl ?_
      exact k
    obtain ⟨_, _, ⟨T166, L166, k166c, n166⟩, -, X166, ⟨Lc166, hQ166, l166, y166, z166⟩, st166⟩ := Jvm.LawKit.callS X163 hx (y := (⟨"com/example/reckoner/reckoner/BytesSetU2PinLaw", "at", "([BIIIJ)Z"⟩ : MethodName)) hown (mvT hZ (hw _ (List.mem_of_getElem? (i := 56) rfl))) (mvT hZ (hw _ (List.mem_of_getElem? (i := 57) rfl))) (mvT hZ (hw _ (List.mem_of_getElem? (i := 58) rfl))) (mvT hZ (hw _ (List.mem_of_getElem? (i := 59) rfl))) (by decide) (backOf (W := 0) (own_rmat6 l Z a0 hw [] rr137 (3 : Int32) p3 p1 rc137 (nar .byte ((((((p1.toUInt64 >>> ((32 : Int32) &&& 0x3f).toInt64.toUInt64).toInt64).toInt32).toUInt32 >>> ((24 : Int32) &&& 31).toUInt32).toInt32).toInt8.toInt32)) (nar .byte ((((((p1.toUInt64 >>> ((32 : Int32) &&& 0x3f).toInt64.toUInt64).toInt64).toInt32).toUInt32 >>> ((16 : Int32) &&& 31).toUInt32).toInt32).toInt8.toInt32)) (nar .byte ((((((p1.toUInt64 >>> ((32 : Int32) &&& 0x3f).toInt64.toUInt64).toInt64).toInt32).toUInt32 >>> ((8 : Int32) &&& 31).toUInt32).toInt32).toInt8.toInt32)) (nar .byte (((p3.toUInt32 >>> ((8 : Int32) &&& 31).toUInt32).toInt32).toInt8.toInt32)) (nar .byte (p3.toInt8.toInt32)) (nar .byte ((((p1.toInt32).toUInt32 >>> ((16 : Int32) &&& 31).toUInt32).toInt32).toInt8.toInt32)) (nar .byte ((((p1.toInt32).toUInt32 >>> ((8 : Int32) &&& 31).toUInt32).toInt32).toInt8.toInt32)) (nar .byte ((((p1.toInt32).toUInt32 >>> ((0 : Int32) &&& 31).toUInt32).toInt32).toInt8.toInt32)) T137.heap n0 Z137 Vr137) hZ (hw _ (List.mem_of_getElem? (i := 59) rfl)) (hw _ (List.mem_of_getElem? (i := 58) rfl)) (by decide) (by decide)) (g := (mkF m 146 #[.val (.long p1), .second, .val (.int p2), .val (.int p3), .val (.ref b1), .val (.int (3 : Int32)), .val (.ref rr137)] [(.long p1), (.int p3), (.int (3 : Int32)), (.int (6 : Int32)), (.ref rr137)])) rfl (by rw [hml]; rfl) (argsL := [(.ref rr137), (.int (6 : Int32)), (.int (3 : Int32)), (.int p3), (.long p1)]) (rest := []) (lenOf own_pd9 rfl) rfl (by show 2 * 0 + _ ≤ _; exact Nat.le_of_eq rfl) (hb hby at_146) (fun _ _ => ⟨rfl, e163, (by decide : 3 + 0 ≤ _), (by decide : 74 + 0 ≤ _)⟩)
    dsimp only [Pt.U, Pt.locs, Pt.cells, Pt.slots] at X166 l166 y166 z166 st166 hQ166
    subst l166 y166 z166
    obtain ⟨rfl, N166q, e166⟩ := hQ166
    have N166 := Fr.app N163 N166q
    have k167 : ∀ t, Steps p.tables e below (T166.setTop (mkF m 149 #[.val (.long p1), .second, .val (.int p2), .val (.int p3), .val (.ref b1), .val (.int (3 : Int32)), .val (.ref rr137)] [(.int (own_vat6 (3 : Int32) p3 p1 (nar .byte ((((p1.toInt32).toUInt32 >>> ((8 : Int32) &&& 31).toUInt32).toInt32).toInt8.toInt32))))])) t → Steps p.tables e below (s₁.setTop (entryFrame m #[(.long p1), (.int p2), (.int p3)] maxLocals)) t := fun t k => k165 t (st166 t k)
    have k168 : ∀ t, Steps p.tables e below (T166.setTop (mkF m 160 #[.val (.long p1), .second, .val (.int p2), .val (.int p3), .val (.ref b1), .val (.int (3 : Int32)), .val (.ref rr137)] [(.long p1), (.int p3), (.int (3 : Int32)), (.int (7 : Int32)), (.ref rr137)])) t → Steps p.tables e below (s₁.setTop (entryFrame m #[(.long p1), (.int p2), (.int p3)] maxLocals)) t := by
      intro t k
      refine k167 t ?_
      show Steps p.tables e below (T166.setTop (mkF m 149 #[.val (.long p1), .second, .val (.int p2), .val (.int p3), .val (.ref b1), .val (.int (3 : Int32)), .val (.ref rr137)] [(.int (own_vat6 (3 : Int32) p3 p1 (nar .byte ((((p1.toInt32).toUInt32 >>> ((8 : Int32) &&& 31).toUInt32).toInt32).toInt8.toInt32))))])) _
      refine XS.ifNo X166.here hx rfl (hb hby at_149) rfl ((if0 _ _).trans (feq (own_t3_6 p1 p3)).1) ?_
      show Steps p.tables e below (T166.setTop (mkF m 152 #[.val (.long p1), .second, .val (.int p2), .val (.int p3), .val (.ref b1), .val (.int (3 : Int32)), .val (.ref rr137)] [])) _
      refine XS.aload X166.here hx rfl (hb hby at_152) rfl rfl ?_
      show Steps p.tables e below (T166.setTop (mkF m 154 #[.val (.long p1), .second, .val (.int p2), .val (.int p3), .val (.ref b1), .val (.int (3 : Int32)), .val (.ref rr137)] [(.ref rr137)])) _
      refine XS.bipush X166.here hx rfl (hb hby at_154) ?_
      show Steps p.tables e below (T166.setTop (mkF m 156 #[.val (.long p1), .second, .val (.int p2), .val (.int p3), .val (.ref b1), .val (.int (3 : Int32)), .val (.ref rr137)] [(.int (7 : Int32)), (.ref rr137)])) _
      refine XS.iload X166.here hx rfl (hb hby at_156) rfl ?_
      show Steps p.tables e below (T166.setTop (mkF m 158 #[.val (.long p1), .second, .val (.int p2), .val (.int p3), .val (.ref b1), .val (.int (3 : Int32)), .val (.ref rr137)] [(.int (3 : Int32)), (.int (7 : Int32)), (.ref rr137)])) _
      refine XS.iloadN X166.here hx rfl (hb hby at_158) rfl ?_
      show Steps p.tables e below (T166.setTop (mkF m 159 #[.val (.long p1), .second, .val (.int p2), .val (.int p3), .val (.ref b1), .val (.int (3 : Int32)), .val (.ref rr137)] [(.int p3), (.int (3 : Int32)), (.int (7 : Int32)), (.ref rr137)])) _
      refine XS.lloadN X166.here hx rfl (hb hby at_159) rfl ?_
      exact k
    obtain ⟨_, _, ⟨T169, L169, k169c, n169⟩, -, X169, ⟨Lc169, hQ169, l169, y169, z169⟩, st169⟩ := Jvm.LawKit.callS X166 hx (y := (⟨"com/example/reckoner/reckoner/BytesSetU2PinLaw", "at", "([BIIIJ)Z"⟩ : MethodName)) hown (mvT hZ (hw _ (List.mem_of_getElem? (i := 56) rfl))) (mvT hZ (hw _ (List.mem_of_getElem? (i := 57) rfl))) (mvT hZ (hw _ (List.mem_of_getElem? (i := 58) rfl))) (mvT hZ (hw _ (List.mem_of_getElem? (i := 59) rfl))) (by decide) (backOf (W := 0) (own_rmat7 l Z a0 hw [] rr137 (3 : Int32) p3 p1 rc137 (nar .byte ((((((p1.toUInt64 >>> ((32 : Int32) &&& 0x3f).toInt64.toUInt64).toInt64).toInt32).toUInt32 >>> ((24 : Int32) &&& 31).toUInt32).toInt32).toInt8.toInt32)) (nar .byte ((((((p1.toUInt64 >>> ((32 : Int32) &&& 0x3f).toInt64.toUInt64).toInt64).toInt32).toUInt32 >>> ((16 : Int32) &&& 31).toUInt32).toInt32).toInt8.toInt32)) (nar .byte ((((((p1.toUInt64 >>> ((32 : Int32) &&& 0x3f).toInt64.toUInt64).toInt64).toInt32).toUInt32 >>> ((8 : Int32) &&& 31).toUInt32).toInt32).toInt8.toInt32)) (nar .byte (((p3.toUInt32 >>> ((8 : Int32) &&& 31).toUInt32).toInt32).toInt8.toInt32)) (nar .byte (p3.toInt8.toInt32)) (nar .byte ((((p1.toInt32).toUInt32 >>> ((16 : Int32) &&& 31).toUInt32).toInt32).toInt8.toInt32)) (nar .byte ((((p1.toInt32).toUInt32 >>> ((8 : Int32) &&& 31).toUInt32).toInt32).toInt8.toInt32)) (nar .byte ((((p1.toInt32).toUInt32 >>> ((0 : Int32) &&& 31).toUInt32).toInt32).toInt8.toInt32)) T137.heap n0 Z137 Vr137) hZ (hw _ (List.mem_of_getElem? (i := 59) rfl)) (hw _ (List.mem_of_getElem? (i := 58) rfl)) (by decide) (by decide)) (g := (mkF m 160 #[.val (.long p1), .second, .val (.int p2), .val (.int p3), .val (.ref b1), .val (.int (3 : Int32)), .val (.ref rr137)] [(.long p1), (.int p3), (.int (3 : Int32)), (.int (7 : Int32)), (.ref rr137)])) rfl (by rw [hml]; rfl) (argsL := [(.ref rr137), (.int (7 : Int32)), (.int (3 : Int32)), (.int p3), (.long p1)]) (rest := []) (lenOf own_pd9 rfl) rfl (by show 2 * 0 + _ ≤ _; exact Nat.le_of_eq rfl) (hb hby at_160) (fun _ _ => ⟨rfl, e166, (by decide : 3 + 0 ≤ _), (by decide : 74 + 0 ≤ _)⟩)
    dsimp only [Pt.U, Pt.locs, Pt.cells, Pt.slots] at X169 l169 y169 z169 st169 hQ169
    subst l169 y169 z169
    obtain ⟨rfl, N169q, e169⟩ := hQ169
    have N169 := Fr.app N166 N169q
    have k170 : ∀ t, Steps p.tables e below (T169.setTop (mkF m 163 #[.val (.long p1), .second, .val (.int p2), .val (.int p3), .val (.ref b1), .val (.int (3 : Int32)), .val (.ref rr137)] [(.int (own_vat7 (3 : Int32) p3 p1 (nar .byte ((((p1.toInt32).toUInt32 >>> ((0 : Int32) &&& 31).toUInt32).toInt32).toInt8.toInt32))))])) t → Steps p.tables e below (s₁.setTop (entryFrame m #[(.long p1), (.int p2), (.int p3)] maxLocals)) t := fun t k => k168 t (st169 t k)
    have k171 : ∀ t, Steps p.tables e below (T169.setTop (mkF m 171 #[.val (.long p1), .second, .val (.int p2), .val (.int p3), .val (.ref b1), .val (.int (3 : Int32)), .val (.ref rr137)] [(.int (1 : Int32))])) t → Steps p.tables e below (s₁.setTop (entryFrame m #[(.long p1), (.int p2), (.int p3)] maxLocals)) t := by
      intro t k
      refine k170 t ?_
      show Steps p.tables e below (T169.setTop (mkF m 163 #[.val (.long p1), .second, .val (.int p2), .val (.int p3), .val (.ref b1), .val (.int (3 : Int32)), .val (.ref rr137)] [(.int (own_vat7 (3 : Int32) p3 p1 (nar .byte ((((p1.toInt32).toUInt32 >>> ((0 : Int32) &&& 31).toUInt32).toInt32).toInt8.toInt32))))])) _
      refine XS.ifNo X169.here hx rfl (hb hby at_163) rfl ((if0 _ _).trans (feq (own_t3_7 p1 p3)).1) ?_
      show Steps p.tables e below (T169.setTop (mkF m 166 #[.val (.long p1), .second, .val (.int p2), .val (.int p3), .val (.ref b1), .val (.int (3 : Int32)), .val (.ref rr137)] [])) _
      refine XS.iconst X169.here hx rfl (hb hby at_166) ?_
      show Steps p.tables e below (T169.setTop (mkF m 167 #[.val (.long p1), .second, .val (.int p2), .val (.int p3), .val (.ref b1), .val (.int (3 : Int32)), .val (.ref rr137)] [(.int (1 : Int32))])) _
      refine XS.goto X169.here hx rfl (pc0 := 167) (pc' := 171) rfl (hb hby at_167) (by decide) (by decide) ?_
      exact k
    obtain ⟨fs, hr, hrun, hended, hW, hsame⟩ := X169.leave (v := (some (.int (1 : Int32)))) (fun h => by rw [Bd.returns] at h; cases h)
    refine ⟨_, _, k171 _ ?_, hrun, hended, _, _, rfl, ?_, ⟨_, rfl⟩, hW, hsame.mono (by decide) (by decide)⟩
    · exact retN X169 hx (t := .boolean) Bd.returns (by simp) (hb hby at_171) hr
    · exact ⟨rfl, N169⟩
  · have k172 : ∀ t, Steps p.tables e below (T9.setTop (mkF m 25 #[.val (.long p1), .second, .val (.int p2), .val (.int p3), .val (.ref b1), .val (.int (4 : Int32)), .unset] [])) t → Steps p.tables e below (s₁.setTop (entryFrame m #[(.long p1), (.int p2), (.int p3)] maxLocals)) t := by have z := k11; rw [he] at z; exact z
    have k173 : ∀ t, Steps p.tables e below (T9.setTop (mkF m 30 #[.val (.long p1), .second, .val (.int p2), .val (.int p3), .val (.ref b1), .val (.int (4 : Int32)), .unset] [(.int p3), (.int (4 : Int32)), (.ref b1)])) t → Steps p.tables e below (s₁.setTop (entryFrame m #[(.long p1), (.int p2), (.int p3)] maxLocals)) t := by
      intro t k
      refine k172 t ?_
      show Steps p.tables e below (T9.setTop (mkF m 25 #[.val (.long p1), .second, .val (.int p2), .val (.int p3), .val (.ref b1), .val (.int (4 : Int32)), .unset] [])) _
      refine XS.aload X9.here hx rfl (hb hby at_25) rfl rfl ?_
      show Steps p.tables e below (T9.setTop (mkF m 27 #[.val (.long p1), .second, .val (.int p2), .val (.int p3), .val (.ref b1), .val (.int (4 : Int32)), .unset] [(.ref b1)])) _
      refine XS.iload X9.here hx rfl (hb hby at_27) rfl ?_
      show Steps p.tables e below (T9.setTop (mkF m 29 #[.val (.long p1), .second, .val (.int p2), .val (.int p3), .val (.ref b1), .val (.int (4 : Int32)), .unset] [(.int (4 : Int32)), (.ref b1)])) _
      refine XS.iloadN X9.here hx rfl (hb hby at_29) rfl ?_
      exact k
    obtain ⟨cq174, kq174, q174a, q174b, q174c⟩ := isOf hZ rfl Eq9
    obtain ⟨_, _, ⟨T174, L174, k174c, n174⟩, -, X174, ⟨Lc174, hQ174, l174, y174, z174⟩, st174⟩ := X9.virtualBack hx (y := (⟨"com/example/reckoner/reckoner/Bytes", "setU2", "(II)V"⟩ : MethodName)) (z := (⟨"com/example/reckoner/reckoner/Bytes", "setU2", "(II)V"⟩ : MethodName)) hown (mvT hZ (hw _ (List.mem_of_getElem? (i := 29) rfl))) (mvT hZ (hw _ (List.mem_of_getElem? (i := 30) rfl))) (notFace_of_selects (args := #[]) (mvT hZ (hw _ (List.mem_of_getElem? (i := 32) rfl)))) (mvT hZ (hw _ (List.mem_of_getElem? (i := 32) rfl))) (mvT hZ (hw _ (List.mem_of_getElem? (i := 31) rfl))) (by decide) (backOf (W := 0) (own_rmsu4 l Z a0 hw [] b1 p3 (8 : Int32) ar6 cc6 (nar .byte ((((((p1.toUInt64 >>> ((32 : Int32) &&& 0x3f).toInt64.toUInt64).toInt64).toInt32).toUInt32 >>> ((24 : Int32) &&& 31).toUInt32).toInt32).toInt8.toInt32)) (nar .byte ((((((p1.toUInt64 >>> ((32 : Int32) &&& 0x3f).toInt64.toUInt64).toInt64).toInt32).toUInt32 >>> ((16 : Int32) &&& 31).toUInt32).toInt32).toInt8.toInt32)) (nar .byte ((((((p1.toUInt64 >>> ((32 : Int32) &&& 0x3f).toInt64.toUInt64).toInt64).toInt32).toUInt32 >>> ((8 : Int32) &&& 31).toUInt32).toInt32).toInt8.toInt32)) (nar .byte ((((((p1.toUInt64 >>> ((32 : Int32) &&& 0x3f).toInt64.toUInt64).toInt64).toInt32).toUInt32 >>> ((0 : Int32) &&& 31).toUInt32).toInt32).toInt8.toInt32)) (nar .byte ((((p1.toInt32).toUInt32 >>> ((24 : Int32) &&& 31).toUInt32).toInt32).toInt8.toInt32)) (nar .byte ((((p1.toInt32).toUInt32 >>> ((16 : Int32) &&& 31).toUInt32).toInt32).toInt8.toInt32)) (nar .byte ((((p1.toInt32).toUInt32 >>> ((8 : Int32) &&& 31).toUInt32).toInt32).toInt8.toInt32)) (nar .byte ((((p1.toInt32).toUInt32 >>> ((0 : Int32) &&& 31).toUInt32).toInt32).toInt8.toInt32)) T9.heap n0 Z9 Eq9 Fa9 Fb9 Vq9 ge1 ge6 ne6x) hZ (hw _ (List.mem_of_getElem? (i := 33) rfl)) (hw _ (List.mem_of_getElem? (i := 2) rfl)) (by decide) (by decide)) q174a q174c (g := (mkF m 30 #[.val (.long p1), .second, .val (.int p2), .val (.int p3), .val (.ref b1), .val (.int (4 : Int32)), .unset] [(.int p3), (.int (4 : Int32)), (.ref b1)])) rfl (by rw [hml]; rfl) (Steps.refl _) (argsL := [(.int (4 : Int32)), (.int p3)]) (rest := []) (lenOf own_pd6 rfl) rfl (by show 2 * 0 + _ ≤ _; exact Nat.le_of_eq rfl) (hb hby at_30) (fun _ _ => ⟨rfl, rfl, (by decide : 2 + 0 ≤ _), (by decide : 66 + 0 ≤ _)⟩)
    dsimp only [Pt.U, Pt.locs, Pt.cells, Pt.slots] at X174 l174 y174 z174 st174 hQ174
    subst l174 y174 z174
    obtain ⟨rfl, N174q, Kq174, Eq174, Fa174, Fb174, Vq174⟩ := hQ174
    have N174 := Fr.app N9 N174q
    have Z174 : n0 ≤ T174.heap.size := Nat.le_trans Z9 Kq174.1
    have k175 : ∀ t, Steps p.tables e below (T174.setTop (mkF m 33 #[.val (.long p1), .second, .val (.int p2), .val (.int p3), .val (.ref b1), .val (.int (4 : Int32)), .unset] [])) t → Steps p.tables e below (s₁.setTop (entryFrame m #[(.long p1), (.int p2), (.int p3)] maxLocals)) t := fun t k => k173 t (st174.trans k)
    have k176 : ∀ t, Steps p.tables e below (T174.setTop (mkF m 35 #[.val (.long p1), .second, .val (.int p2), .val (.int p3), .val (.ref b1), .val (.int (4 : Int32)), .unset] [(.ref b1)])) t → Steps p.tables e below (s₁.setTop (entryFrame m #[(.long p1), (.int p2), (.int p3)] maxLocals)) t := by
      intro t k
      refine k175 t ?_
      show Steps p.tables e below (T174.setTop (mkF m 33 #[.val (.long p1), .second, .val (.int p2), .val (.int p3), .val (.ref b1), .val (.int (4 : Int32)), .unset] [])) _
      refine XS.aload X174.here hx rfl (hb hby at_33) rfl rfl ?_
      exact k
    obtain ⟨cq177, kq177, q177a, q177b, q177c⟩ := isOf hZ rfl Eq174
    obtain ⟨_, _, ⟨T177, L177, k177c, n177⟩, -, X177, ⟨Lc177, hQ177, l177, y177, z177⟩, st177⟩ := X174.virtualBack hx (y := (⟨"com/example/reckoner/reckoner/Bytes", "toArray", "()[B"⟩ : MethodName)) (z := (⟨"com/example/reckoner/reckoner/Bytes", "toArray", "()[B"⟩ : MethodName)) hown (mvT hZ (hw _ (List.mem_of_getElem? (i := 34) rfl))) (mvT hZ (hw _ (List.mem_of_getElem? (i := 35) rfl))) (notFace_of_selects (args := #[]) (mvT hZ (hw _ (List.mem_of_getElem? (i := 37) rfl)))) (mvT hZ (hw _ (List.mem_of_getElem? (i := 37) rfl))) (mvT hZ (hw _ (List.mem_of_getElem? (i := 36) rfl))) (by decide) (backOf (W := 0) (own_rmta l Z a0 hw [] b1 ar6 cc6 (nar .byte ((((((p1.toUInt64 >>> ((32 : Int32) &&& 0x3f).toInt64.toUInt64).toInt64).toInt32).toUInt32 >>> ((24 : Int32) &&& 31).toUInt32).toInt32).toInt8.toInt32)) (nar .byte ((((((p1.toUInt64 >>> ((32 : Int32) &&& 0x3f).toInt64.toUInt64).toInt64).toInt32).toUInt32 >>> ((16 : Int32) &&& 31).toUInt32).toInt32).toInt8.toInt32)) (nar .byte ((((((p1.toUInt64 >>> ((32 : Int32) &&& 0x3f).toInt64.toUInt64).toInt64).toInt32).toUInt32 >>> ((8 : Int32) &&& 31).toUInt32).toInt32).toInt8.toInt32)) (nar .byte ((((((p1.toUInt64 >>> ((32 : Int32) &&& 0x3f).toInt64.toUInt64).toInt64).toInt32).toUInt32 >>> ((0 : Int32) &&& 31).toUInt32).toInt32).toInt8.toInt32)) (nar .byte (((p3.toUInt32 >>> ((8 : Int32) &&& 31).toUInt32).toInt32).toInt8.toInt32)) (nar .byte (p3.toInt8.toInt32)) (nar .byte ((((p1.toInt32).toUInt32 >>> ((8 : Int32) &&& 31).toUInt32).toInt32).toInt8.toInt32)) (nar .byte ((((p1.toInt32).toUInt32 >>> ((0 : Int32) &&& 31).toUInt32).toInt32).toInt8.toInt32)) T174.heap n0 Z174 Fa174 Fb174 Vq174) hZ (hw _ (List.mem_of_getElem? (i := 38) rfl)) (hw _ (List.mem_of_getElem? (i := 2) rfl)) (by decide) (by decide)) q177a q177c (g := (mkF m 35 #[.val (.long p1), .second, .val (.int p2), .val (.int p3), .val (.ref b1), .val (.int (4 : Int32)), .unset] [(.ref b1)])) rfl (by rw [hml]; rfl) (Steps.refl _) (argsL := []) (rest := []) (lenOf own_pd7 rfl) rfl (by show 2 * 0 + _ ≤ _; exact Nat.le_of_eq rfl) (hb hby at_35) (fun _ _ => ⟨rfl, rfl, (by decide : 2 + 1 ≤ _), (by decide : 66 + 8 ≤ _)⟩)
    dsimp only [Pt.U, Pt.locs, Pt.cells, Pt.slots] at X177 l177 y177 z177 st177 hQ177
    subst l177 y177 z177
    obtain ⟨rr177, rc177, rfl, N177q, Kq177, Vr177⟩ := hQ177
    have N177 := Fr.app N174 N177q
    have f178 := Eq174.keep Kq177
    have f179 := Fa174.keep Kq177 List.not_mem_nil
    have f180 := Fb174.keep Kq177 List.not_mem_nil
    have f181 := Vq174.keep Kq177 List.not_mem_nil
    have Z177 : n0 ≤ T177.heap.size := Nat.le_trans Z174 Kq177.1
    have k182 : ∀ t, Steps p.tables e below (T177.setTop (mkF m 38 #[.val (.long p1), .second, .val (.int p2), .val (.int p3), .val (.ref b1), .val (.int (4 : Int32)), .unset] [(.ref rr177)])) t → Steps p.tables e below (s₁.setTop (entryFrame m #[(.long p1), (.int p2), (.int p3)] maxLocals)) t := fun t k => k176 t (st177.trans k)
    have k183 : ∀ t, Steps p.tables e below (T177.setTop (mkF m 42 #[.val (.long p1), .second, .val (.int p2), .val (.int p3), .val (.ref b1), .val (.int (4 : Int32)), .val (.ref rr177)] [(.ref b1)])) t → Steps p.tables e below (s₁.setTop (entryFrame m #[(.long p1), (.int p2), (.int p3)] maxLocals)) t := by
      intro t k
      refine k182 t ?_
      show Steps p.tables e below (T177.setTop (mkF m 38 #[.val (.long p1), .second, .val (.int p2), .val (.int p3), .val (.ref b1), .val (.int (4 : Int32)), .unset] [(.ref rr177)])) _
      refine XS.astore X177.here hx rfl (hb hby at_38) rfl rfl (l' := #[.val (.long p1), .second, .val (.int p2), .val (.int p3), .val (.ref b1), .val (.int (4 : Int32)), .val (.ref rr177)]) rfl ?_
      show Steps p.tables e below (T177.setTop (mkF m 40 #[.val (.long p1), .second, .val (.int p2), .val (.int p3), .val (.ref b1), .val (.int (4 : Int32)), .val (.ref rr177)] [])) _
      refine XS.aload X177.here hx rfl (hb hby at_40) rfl rfl ?_
      exact k
    obtain ⟨cq184, kq184, q184a, q184b, q184c⟩ := isOf hZ rfl f178
    obtain ⟨_, _, ⟨T184, L184, k184c, n184⟩, -, X184, ⟨Lc184, hQ184, l184, y184, z184⟩, st184⟩ := X177.virtualBack hx (y := (⟨"com/example/reckoner/reckoner/Bytes", "length", "()I"⟩ : MethodName)) (z := (⟨"com/example/reckoner/reckoner/Bytes", "length", "()I"⟩ : MethodName)) hown (mvT hZ (hw _ (List.mem_of_getElem? (i := 51) rfl))) (mvT hZ (hw _ (List.mem_of_getElem? (i := 52) rfl))) (notFace_of_selects (args := #[]) (mvT hZ (hw _ (List.mem_of_getElem? (i := 54) rfl)))) (mvT hZ (hw _ (List.mem_of_getElem? (i := 54) rfl))) (mvT hZ (hw _ (List.mem_of_getElem? (i := 53) rfl))) (by decide) (backOf (W := 0) (own_rmln l Z a0 hw [] b1 (8 : Int32) T177.heap n0 Z177 f180) hZ (hw _ (List.mem_of_getElem? (i := 55) rfl)) (hw _ (List.mem_of_getElem? (i := 2) rfl)) (by decide) (by decide)) q184a q184c (g := (mkF m 42 #[.val (.long p1), .second, .val (.int p2), .val (.int p3), .val (.ref b1), .val (.int (4 : Int32)), .val (.ref rr177)] [(.ref b1)])) rfl (by rw [hml]; rfl) (Steps.refl _) (argsL := []) (rest := []) (lenOf own_pd8 rfl) rfl (by show 2 * 0 + _ ≤ _; exact Nat.le_of_eq rfl) (hb hby at_42) (fun _ _ => ⟨rfl, rfl, (by decide : 3 + 0 ≤ _), (by decide : 74 + 0 ≤ _)⟩)
    dsimp only [Pt.U, Pt.locs, Pt.cells, Pt.slots] at X184 l184 y184 z184 st184 hQ184
    subst l184 y184 z184
    obtain ⟨hr184, N184q, e184⟩ := hQ184
    rw [show (own_vln (8 : Int32)) = (8 : Int32) from rfl] at hr184
    subst hr184
    have N184 := Fr.app N177 N184q
    have k185 : ∀ t, Steps p.tables e below (T184.setTop (mkF m 45 #[.val (.long p1), .second, .val (.int p2), .val (.int p3), .val (.ref b1), .val (.int (4 : Int32)), .val (.ref rr177)] [(.int (8 : Int32))])) t → Steps p.tables e below (s₁.setTop (entryFrame m #[(.long p1), (.int p2), (.int p3)] maxLocals)) t := fun t k => k183 t (st184.trans k)
    obtain ⟨cl186, Ar186, qa186, Sa186, Na186, Ha186, Ga186⟩ := id Vr177
    have k187 : ∀ t, Steps p.tables e below (T184.setTop (mkF m 67 #[.val (.long p1), .second, .val (.int p2), .val (.int p3), .val (.ref b1), .val (.int (4 : Int32)), .val (.ref rr177)] [(.long p1), (.int p3), (.int (4 : Int32)), (.int (0 : Int32)), (.ref rr177)])) t → Steps p.tables e below (s₁.setTop (entryFrame m #[(.long p1), (.int p2), (.int p3)] maxLocals)) t := by
      intro t k
      refine k185 t ?_
      show Steps p.tables e below (T184.setTop (mkF m 45 #[.val (.long p1), .second, .val (.int p2), .val (.int p3), .val (.ref b1), .val (.int (4 : Int32)), .val (.ref rr177)] [(.int (8 : Int32))])) _
      refine XS.bipush X184.here hx rfl (hb hby at_45) ?_
      show Steps p.tables e below (T184.setTop (mkF m 47 #[.val (.long p1), .second, .val (.int p2), .val (.int p3), .val (.ref b1), .val (.int (4 : Int32)), .val (.ref rr177)] [(.int (8 : Int32)), (.int (8 : Int32))])) _
      refine XS.icmpNo X184.here hx rfl (hb hby at_47) rfl (teq (rfl : (8 : Int32) = (8 : Int32))).2 ?_
      show Steps p.tables e below (T184.setTop (mkF m 50 #[.val (.long p1), .second, .val (.int p2), .val (.int p3), .val (.ref b1), .val (.int (4 : Int32)), .val (.ref rr177)] [])) _
      refine XS.aload X184.here hx rfl (hb hby at_50) rfl rfl ?_
      show Steps p.tables e below (T184.setTop (mkF m 52 #[.val (.long p1), .second, .val (.int p2), .val (.int p3), .val (.ref b1), .val (.int (4 : Int32)), .val (.ref rr177)] [(.ref rr177)])) _
      refine X184.arraylength hx (by rw [e184]; exact Ar186.1) (State.isArrayOf_alike hZ.alike Ar186.2.1) (g := (mkF m 52 #[.val (.long p1), .second, .val (.int p2), .val (.int p3), .val (.ref b1), .val (.int (4 : Int32)), .val (.ref rr177)] [(.ref rr177)])) rfl rfl (hb hby at_52) _ ?_
      rw [len_of Sa186 Na186]
      show Steps p.tables e below (T184.setTop (mkF m 53 #[.val (.long p1), .second, .val (.int p2), .val (.int p3), .val (.ref b1), .val (.int (4 : Int32)), .val (.ref rr177)] [(.int (8 : Int32))])) _
      refine XS.bipush X184.here hx rfl (hb hby at_53) ?_
      show Steps p.tables e below (T184.setTop (mkF m 55 #[.val (.long p1), .second, .val (.int p2), .val (.int p3), .val (.ref b1), .val (.int (4 : Int32)), .val (.ref rr177)] [(.int (8 : Int32)), (.int (8 : Int32))])) _
      refine XS.icmpYes X184.here hx rfl (pc0 := 55) (pc' := 60) rfl (hb hby at_55) rfl (teq (rfl : (8 : Int32) = (8 : Int32))).1 (by decide) (by decide) ?_
      show Steps p.tables e below (T184.setTop (mkF m 60 #[.val (.long p1), .second, .val (.int p2), .val (.int p3), .val (.ref b1), .val (.int (4 : Int32)), .val (.ref rr177)] [])) _
      refine XS.aload X184.here hx rfl (hb hby at_60) rfl rfl ?_
      show Steps p.tables e below (T184.setTop (mkF m 62 #[.val (.long p1), .second, .val (.int p2), .val (.int p3), .val (.ref b1), .val (.int (4 : Int32)), .val (.ref rr177)] [(.ref rr177)])) _
      refine XS.iconst X184.here hx rfl (hb hby at_62) ?_
      show Steps p.tables e below (T184.setTop (mkF m 63 #[.val (.long p1), .second, .val (.int p2), .val (.int p3), .val (.ref b1), .val (.int (4 : Int32)), .val (.ref rr177)] [(.int (0 : Int32)), (.ref rr177)])) _
      refine XS.iload X184.here hx rfl (hb hby at_63) rfl ?_
      show Steps p.tables e below (T184.setTop (mkF m 65 #[.val (.long p1), .second, .val (.int p2), .val (.int p3), .val (.ref b1), .val (.int (4 : Int32)), .val (.ref rr177)] [(.int (4 : Int32)), (.int (0 : Int32)), (.ref rr177)])) _
      refine XS.iloadN X184.here hx rfl (hb hby at_65) rfl ?_
      show Steps p.tables e below (T184.setTop (mkF m 66 #[.val (.long p1), .second, .val (.int p2), .val (.int p3), .val (.ref b1), .val (.int (4 : Int32)), .val (.ref rr177)] [(.int p3), (.int (4 : Int32)), (.int (0 : Int32)), (.ref rr177)])) _
      refine XS.lloadN X184.here hx rfl (hb hby at_66) rfl ?_
      exact k
    obtain ⟨_, _, ⟨T188, L188, k188c, n188⟩, -, X188, ⟨Lc188, hQ188, l188, y188, z188⟩, st188⟩ := Jvm.LawKit.callS X184 hx (y := (⟨"com/example/reckoner/reckoner/BytesSetU2PinLaw", "at", "([BIIIJ)Z"⟩ : MethodName)) hown (mvT hZ (hw _ (List.mem_of_getElem? (i := 56) rfl))) (mvT hZ (hw _ (List.mem_of_getElem? (i := 57) rfl))) (mvT hZ (hw _ (List.mem_of_getElem? (i := 58) rfl))) (mvT hZ (hw _ (List.mem_of_getElem? (i := 59) rfl))) (by decide) (backOf (W := 0) (own_rmat0 l Z a0 hw [] rr177 (4 : Int32) p3 p1 rc177 (nar .byte ((((((p1.toUInt64 >>> ((32 : Int32) &&& 0x3f).toInt64.toUInt64).toInt64).toInt32).toUInt32 >>> ((24 : Int32) &&& 31).toUInt32).toInt32).toInt8.toInt32)) (nar .byte ((((((p1.toUInt64 >>> ((32 : Int32) &&& 0x3f).toInt64.toUInt64).toInt64).toInt32).toUInt32 >>> ((16 : Int32) &&& 31).toUInt32).toInt32).toInt8.toInt32)) (nar .byte ((((((p1.toUInt64 >>> ((32 : Int32) &&& 0x3f).toInt64.toUInt64).toInt64).toInt32).toUInt32 >>> ((8 : Int32) &&& 31).toUInt32).toInt32).toInt8.toInt32)) (nar .byte ((((((p1.toUInt64 >>> ((32 : Int32) &&& 0x3f).toInt64.toUInt64).toInt64).toInt32).toUInt32 >>> ((0 : Int32) &&& 31).toUInt32).toInt32).toInt8.toInt32)) (nar .byte (((p3.toUInt32 >>> ((8 : Int32) &&& 31).toUInt32).toInt32).toInt8.toInt32)) (nar .byte (p3.toInt8.toInt32)) (nar .byte ((((p1.toInt32).toUInt32 >>> ((8 : Int32) &&& 31).toUInt32).toInt32).toInt8.toInt32)) (nar .byte ((((p1.toInt32).toUInt32 >>> ((0 : Int32) &&& 31).toUInt32).toInt32).toInt8.toInt32)) T177.heap n0 Z177 Vr177) hZ (hw _ (List.mem_of_getElem? (i := 59) rfl)) (hw _ (List.mem_of_getElem? (i := 58) rfl)) (by decide) (by decide)) (g := (mkF m 67 #[.val (.long p1), .second, .val (.int p2), .val (.int p3), .val (.ref b1), .val (.int (4 : Int32)), .val (.ref rr177)] [(.long p1), (.int p3), (.int (4 : Int32)), (.int (0 : Int32)), (.ref rr177)])) rfl (by rw [hml]; rfl) (argsL := [(.ref rr177), (.int (0 : Int32)), (.int (4 : Int32)), (.int p3), (.long p1)]) (rest := []) (lenOf own_pd9 rfl) rfl (by show 2 * 0 + _ ≤ _; exact Nat.le_of_eq rfl) (hb hby at_67) (fun _ _ => ⟨rfl, e184, (by decide : 3 + 0 ≤ _), (by decide : 74 + 0 ≤ _)⟩)
    dsimp only [Pt.U, Pt.locs, Pt.cells, Pt.slots] at X188 l188 y188 z188 st188 hQ188
    subst l188 y188 z188
    obtain ⟨rfl, N188q, e188⟩ := hQ188
    have N188 := Fr.app N184 N188q
    have k189 : ∀ t, Steps p.tables e below (T188.setTop (mkF m 70 #[.val (.long p1), .second, .val (.int p2), .val (.int p3), .val (.ref b1), .val (.int (4 : Int32)), .val (.ref rr177)] [(.int (own_vat0 (4 : Int32) p3 p1 (nar .byte ((((((p1.toUInt64 >>> ((32 : Int32) &&& 0x3f).toInt64.toUInt64).toInt64).toInt32).toUInt32 >>> ((24 : Int32) &&& 31).toUInt32).toInt32).toInt8.toInt32))))])) t → Steps p.tables e below (s₁.setTop (entryFrame m #[(.long p1), (.int p2), (.int p3)] maxLocals)) t := fun t k => k187 t (st188 t k)
    have k190 : ∀ t, Steps p.tables e below (T188.setTop (mkF m 80 #[.val (.long p1), .second, .val (.int p2), .val (.int p3), .val (.ref b1), .val (.int (4 : Int32)), .val (.ref rr177)] [(.long p1), (.int p3), (.int (4 : Int32)), (.int (1 : Int32)), (.ref rr177)])) t → Steps p.tables e below (s₁.setTop (entryFrame m #[(.long p1), (.int p2), (.int p3)] maxLocals)) t := by
      intro t k
      refine k189 t ?_
      show Steps p.tables e below (T188.setTop (mkF m 70 #[.val (.long p1), .second, .val (.int p2), .val (.int p3), .val (.ref b1), .val (.int (4 : Int32)), .val (.ref rr177)] [(.int (own_vat0 (4 : Int32) p3 p1 (nar .byte ((((((p1.toUInt64 >>> ((32 : Int32) &&& 0x3f).toInt64.toUInt64).toInt64).toInt32).toUInt32 >>> ((24 : Int32) &&& 31).toUInt32).toInt32).toInt8.toInt32))))])) _
      refine XS.ifNo X188.here hx rfl (hb hby at_70) rfl ((if0 _ _).trans (feq (own_t4_0 p1 p3)).1) ?_
      show Steps p.tables e below (T188.setTop (mkF m 73 #[.val (.long p1), .second, .val (.int p2), .val (.int p3), .val (.ref b1), .val (.int (4 : Int32)), .val (.ref rr177)] [])) _
      refine XS.aload X188.here hx rfl (hb hby at_73) rfl rfl ?_
      show Steps p.tables e below (T188.setTop (mkF m 75 #[.val (.long p1), .second, .val (.int p2), .val (.int p3), .val (.ref b1), .val (.int (4 : Int32)), .val (.ref rr177)] [(.ref rr177)])) _
      refine XS.iconst X188.here hx rfl (hb hby at_75) ?_
      show Steps p.tables e below (T188.setTop (mkF m 76 #[.val (.long p1), .second, .val (.int p2), .val (.int p3), .val (.ref b1), .val (.int (4 : Int32)), .val (.ref rr177)] [(.int (1 : Int32)), (.ref rr177)])) _
      refine XS.iload X188.here hx rfl (hb hby at_76) rfl ?_
      show Steps p.tables e below (T188.setTop (mkF m 78 #[.val (.long p1), .second, .val (.int p2), .val (.int p3), .val (.ref b1), .val (.int (4 : Int32)), .val (.ref rr177)] [(.int (4 : Int32)), (.int (1 : Int32)), (.ref rr177)])) _
      refine XS.iloadN X188.here hx rfl (hb hby at_78) rfl ?_
      show Steps p.tables e below (T188.setTop (mkF m 79 #[.val (.long p1), .second, .val (.int p2), .val (.int p3), .val (.ref b1), .val (.int (4 : Int32)), .val (.ref rr177)] [(.int p3), (.int (4 : Int32)), (.int (1 : Int32)), (.ref rr177)])) _
      refine XS.lloadN X188.here hx rfl (hb hby at_79) rfl ?_
      exact k
    obtain ⟨_, _, ⟨T191, L191, k191c, n191⟩, -, X191, ⟨Lc191, hQ191, l191, y191, z191⟩, st191⟩ := Jvm.LawKit.callS X188 hx (y := (⟨"com/example/reckoner/reckoner/BytesSetU2PinLaw", "at", "([BIIIJ)Z"⟩ : MethodName)) hown (mvT hZ (hw _ (List.mem_of_getElem? (i := 56) rfl))) (mvT hZ (hw _ (List.mem_of_getElem? (i := 57) rfl))) (mvT hZ (hw _ (List.mem_of_getElem? (i := 58) rfl))) (mvT hZ (hw _ (List.mem_of_getElem? (i := 59) rfl))) (by decide) (backOf (W := 0) (own_rmat1 l Z a0 hw [] rr177 (4 : Int32) p3 p1 rc177 (nar .byte ((((((p1.toUInt64 >>> ((32 : Int32) &&& 0x3f).toInt64.toUInt64).toInt64).toInt32).toUInt32 >>> ((24 : Int32) &&& 31).toUInt32).toInt32).toInt8.toInt32)) (nar .byte ((((((p1.toUInt64 >>> ((32 : Int32) &&& 0x3f).toInt64.toUInt64).toInt64).toInt32).toUInt32 >>> ((16 : Int32) &&& 31).toUInt32).toInt32).toInt8.toInt32)) (nar .byte ((((((p1.toUInt64 >>> ((32 : Int32) &&& 0x3f).toInt64.toUInt64).toInt64).toInt32).toUInt32 >>> ((8 : Int32) &&& 31).toUInt32).toInt32).toInt8.toInt32)) (nar .byte ((((((p1.toUInt64 >>> ((32 : Int32) &&& 0x3f).toInt64.toUInt64).toInt64).toInt32).toUInt32 >>> ((0 : Int32) &&& 31).toUInt32).toInt32).toInt8.toInt32)) (nar .byte (((p3.toUInt32 >>> ((8 : Int32) &&& 31).toUInt32).toInt32).toInt8.toInt32)) (nar .byte (p3.toInt8.toInt32)) (nar .byte ((((p1.toInt32).toUInt32 >>> ((8 : Int32) &&& 31).toUInt32).toInt32).toInt8.toInt32)) (nar .byte ((((p1.toInt32).toUInt32 >>> ((0 : Int32) &&& 31).toUInt32).toInt32).toInt8.toInt32)) T177.heap n0 Z177 Vr177) hZ (hw _ (List.mem_of_getElem? (i := 59) rfl)) (hw _ (List.mem_of_getElem? (i := 58) rfl)) (by decide) (by decide)) (g := (mkF m 80 #[.val (.long p1), .second, .val (.int p2), .val (.int p3), .val (.ref b1), .val (.int (4 : Int32)), .val (.ref rr177)] [(.long p1), (.int p3), (.int (4 : Int32)), (.int (1 : Int32)), (.ref rr177)])) rfl (by rw [hml]; rfl) (argsL := [(.ref rr177), (.int (1 : Int32)), (.int (4 : Int32)), (.int p3), (.long p1)]) (rest := []) (lenOf own_pd9 rfl) rfl (by show 2 * 0 + _ ≤ _; exact Nat.le_of_eq rfl) (hb hby at_80) (fun _ _ => ⟨rfl, e188, (by decide : 3 + 0 ≤ _), (by decide : 74 + 0 ≤ _)⟩)
    dsimp only [Pt.U, Pt.locs, Pt.cells, Pt.slots] at X191 l191 y191 z191 st191 hQ191
    subst l191 y191 z191
    obtain ⟨rfl, N191q, e191⟩ := hQ191
    have N191 := Fr.app N188 N191q
    have k192 : ∀ t, Steps p.tables e below (T191.setTop (mkF m 83 #[.val (.long p1), .second, .val (.int p2), .val (.int p3), .val (.ref b1), .val (.int (4 : Int32)), .val (.ref rr177)] [(.int (own_vat1 (4 : Int32) p3 p1 (nar .byte ((((((p1.toUInt64 >>> ((32 : Int32) &&& 0x3f).toInt64.toUInt64).toInt64).toInt32).toUInt32 >>> ((16 : Int32) &&& 31).toUInt32).toInt32).toInt8.toInt32))))])) t → Steps p.tables e below (s₁.setTop (entryFrame m #[(.long p1), (.int p2), (.int p3)] maxLocals)) t := fun t k => k190 t (st191 t k)
    have k193 : ∀ t, Steps p.tables e below (T191.setTop (mkF m 93 #[.val (.long p1), .second, .val (.int p2), .val (.int p3), .val (.ref b1), .val (.int (4 : Int32)), .val (.ref rr177)] [(.long p1), (.int p3), (.int (4 : Int32)), (.int (2 : Int32)), (.ref rr177)])) t → Steps p.tables e below (s₁.setTop (entryFrame m #[(.long p1), (.int p2), (.int p3)] maxLocals)) t := by
      intro t k
      refine k192 t ?_
      show Steps p.tables e below (T191.setTop (mkF m 83 #[.val (.long p1), .second, .val (.int p2), .val (.int p3), .val (.ref b1), .val (.int (4 : Int32)), .val (.ref rr177)] [(.int (own_vat1 (4 : Int32) p3 p1 (nar .byte ((((((p1.toUInt64 >>> ((32 : Int32) &&& 0x3f).toInt64.toUInt64).toInt64).toInt32).toUInt32 >>> ((16 : Int32) &&& 31).toUInt32).toInt32).toInt8.toInt32))))])) _
      refine XS.ifNo X191.here hx rfl (hb hby at_83) rfl ((if0 _ _).trans (feq (own_t4_1 p1 p3)).1) ?_
      show Steps p.tables e below (T191.setTop (mkF m 86 #[.val (.long p1), .second, .val (.int p2), .val (.int p3), .val (.ref b1), .val (.int (4 : Int32)), .val (.ref rr177)] [])) _
      refine XS.aload X191.here hx rfl (hb hby at_86) rfl rfl ?_
      show Steps p.tables e below (T191.setTop (mkF m 88 #[.val (.long p1), .second, .val (.int p2), .val (.int p3), .val (.ref b1), .val (.int (4 : Int32)), .val (.ref rr177)] [(.ref rr177)])) _
      refine XS.iconst X191.here hx rfl (hb hby at_88) ?_
      show Steps p.tables e below (T191.setTop (mkF m 89 #[.val (.long p1), .second, .val (.int p2), .val (.int p3), .val (.ref b1), .val (.int (4 : Int32)), .val (.ref rr177)] [(.int (2 : Int32)), (.ref rr177)])) _
      refine XS.iload X191.here hx rfl (hb hby at_89) rfl ?_
      show Steps p.tables e below (T191.setTop (mkF m 91 #[.val (.long p1), .second, .val (.int p2), .val (.int p3), .val (.ref b1), .val (.int (4 : Int32)), .val (.ref rr177)] [(.int (4 : Int32)), (.int (2 : Int32)), (.ref rr177)])) _
      refine XS.iloadN X191.here hx rfl (hb hby at_91) rfl ?_
      show Steps p.tables e below (T191.setTop (mkF m 92 #[.val (.long p1), .second, .val (.int p2), .val (.int p3), .val (.ref b1), .val (.int (4 : Int32)), .val (.ref rr177)] [(.int p3), (.int (4 : Int32)), (.int (2 : Int32)), (.ref rr177)])) _
      refine XS.lloadN X191.here hx rfl (hb hby at_92) rfl ?_
      exact k
    obtain ⟨_, _, ⟨T194, L194, k194c, n194⟩, -, X194, ⟨Lc194, hQ194, l194, y194, z194⟩, st194⟩ := Jvm.LawKit.callS X191 hx (y := (⟨"com/example/reckoner/reckoner/BytesSetU2PinLaw", "at", "([BIIIJ)Z"⟩ : MethodName)) hown (mvT hZ (hw _ (List.mem_of_getElem? (i := 56) rfl))) (mvT hZ (hw _ (List.mem_of_getElem? (i := 57) rfl))) (mvT hZ (hw _ (List.mem_of_getElem? (i := 58) rfl))) (mvT hZ (hw _ (List.mem_of_getElem? (i := 59) rfl))) (by decide) (backOf (W := 0) (own_rmat2 l Z a0 hw [] rr177 (4 : Int32) p3 p1 rc177 (nar .byte ((((((p1.toUInt64 >>> ((32 : Int32) &&& 0x3f).toInt64.toUInt64).toInt64).toInt32).toUInt32 >>> ((24 : Int32) &&& 31).toUInt32).toInt32).toInt8.toInt32)) (nar .byte ((((((p1.toUInt64 >>> ((32 : Int32) &&& 0x3f).toInt64.toUInt64).toInt64).toInt32).toUInt32 >>> ((16 : Int32) &&& 31).toUInt32).toInt32).toInt8.toInt32)) (nar .byte ((((((p1.toUInt64 >>> ((32 : Int32) &&& 0x3f).toInt64.toUInt64).toInt64).toInt32).toUInt32 >>> ((8 : Int32) &&& 31).toUInt32).toInt32).toInt8.toInt32)) (nar .byte ((((((p1.toUInt64 >>> ((32 : Int32) &&& 0x3f).toInt64.toUInt64).toInt64).toInt32).toUInt32 >>> ((0 : Int32) &&& 31).toUInt32).toInt32).toInt8.toInt32)) (nar .byte (((p3.toUInt32 >>> ((8 : Int32) &&& 31).toUInt32).toInt32).toInt8.toInt32)) (nar .byte (p3.toInt8.toInt32)) (nar .byte ((((p1.toInt32).toUInt32 >>> ((8 : Int32) &&& 31).toUInt32).toInt32).toInt8.toInt32)) (nar .byte ((((p1.toInt32).toUInt32 >>> ((0 : Int32) &&& 31).toUInt32).toInt32).toInt8.toInt32)) T177.heap n0 Z177 Vr177) hZ (hw _ (List.mem_of_getElem? (i := 59) rfl)) (hw _ (List.mem_of_getElem? (i := 58) rfl)) (by decide) (by decide)) (g := (mkF m 93 #[.val (.long p1), .second, .val (.int p2), .val (.int p3), .val (.ref b1), .val (.int (4 : Int32)), .val (.ref rr177)] [(.long p1), (.int p3), (.int (4 : Int32)), (.int (2 : Int32)), (.ref rr177)])) rfl (by rw [hml]; rfl) (argsL := [(.ref rr177), (.int (2 : Int32)), (.int (4 : Int32)), (.int p3), (.long p1)]) (rest := []) (lenOf own_pd9 rfl) rfl (by show 2 * 0 + _ ≤ _; exact Nat.le_of_eq rfl) (hb hby at_93) (fun _ _ => ⟨rfl, e191, (by decide : 3 + 0 ≤ _), (by decide : 74 + 0 ≤ _)⟩)
    dsimp only [Pt.U, Pt.locs, Pt.cells, Pt.slots] at X194 l194 y194 z194 st194 hQ194
    subst l194 y194 z194
    obtain ⟨rfl, N194q, e194⟩ := hQ194
    have N194 := Fr.app N191 N194q
    have k195 : ∀ t, Steps p.tables e below (T194.setTop (mkF m 96 #[.val (.long p1), .second, .val (.int p2), .val (.int p3), .val (.ref b1), .val (.int (4 : Int32)), .val (.ref rr177)] [(.int (own_vat2 (4 : Int32) p3 p1 (nar .byte ((((((p1.toUInt64 >>> ((32 : Int32) &&& 0x3f).toInt64.toUInt64).toInt64).toInt32).toUInt32 >>> ((8 : Int32) &&& 31).toUInt32).toInt32).toInt8.toInt32))))])) t → Steps p.tables e below (s₁.setTop (entryFrame m #[(.long p1), (.int p2), (.int p3)] maxLocals)) t := fun t k => k193 t (st194 t k)
    have k196 : ∀ t, Steps p.tables e below (T194.setTop (mkF m 106 #[.val (.long p1), .second, .val (.int p2), .val (.int p3), .val (.ref b1), .val (.int (4 : Int32)), .val (.ref rr177)] [(.long p1), (.int p3), (.int (4 : Int32)), (.int (3 : Int32)), (.ref rr177)])) t → Steps p.tables e below (s₁.setTop (entryFrame m #[(.long p1), (.int p2), (.int p3)] maxLocals)) t := by
      intro t k
      refine k195 t ?_
      show Steps p.tables e below (T194.setTop (mkF m 96 #[.val (.long p1), .second, .val (.int p2), .val (.int p3), .val (.ref b1), .val (.int (4 : Int32)), .val (.ref rr177)] [(.int (own_vat2 (4 : Int32) p3 p1 (nar .byte ((((((p1.toUInt64 >>> ((32 : Int32) &&& 0x3f).toInt64.toUInt64).toInt64).toInt32).toUInt32 >>> ((8 : Int32) &&& 31).toUInt32).toInt32).toInt8.toInt32))))])) _
      refine XS.ifNo X194.here hx rfl (hb hby at_96) rfl ((if0 _ _).trans (feq (own_t4_2 p1 p3)).1) ?_
      show Steps p.tables e below (T194.setTop (mkF m 99 #[.val (.long p1), .second, .val (.int p2), .val (.int p3), .val (.ref b1), .val (.int (4 : Int32)), .val (.ref rr177)] [])) _
      refine XS.aload X194.here hx rfl (hb hby at_99) rfl rfl ?_
      show Steps p.tables e below (T194.setTop (mkF m 101 #[.val (.long p1), .second, .val (.int p2), .val (.int p3), .val (.ref b1), .val (.int (4 : Int32)), .val (.ref rr177)] [(.ref rr177)])) _
      refine XS.iconst X194.here hx rfl (hb hby at_101) ?_
      show Steps p.tables e below (T194.setTop (mkF m 102 #[.val (.long p1), .second, .val (.int p2), .val (.int p3), .val (.ref b1), .val (.int (4 : Int32)), .val (.ref rr177)] [(.int (3 : Int32)), (.ref rr177)])) _
      refine XS.iload X194.here hx rfl (hb hby at_102) rfl ?_
      show Steps p.tables e below (T194.setTop (mkF m 104 #[.val (.long p1), .second, .val (.int p2), .val (.int p3), .val (.ref b1), .val (.int (4 : Int32)), .val (.ref rr177)] [(.int (4 : Int32)), (.int (3 : Int32)), (.ref rr177)])) _
      refine XS.iloadN X194.here hx rfl (hb hby at_104) rfl ?_
      show Steps p.tables e below (T194.setTop (mkF m 105 #[.val (.long p1), .second, .val (.int p2), .val (.int p3), .val (.ref b1), .val (.int (4 : Int32)), .val (.ref rr177)] [(.int p3), (.int (4 : Int32)), (.int (3 : Int32)), (.ref rr177)])) _
      refine XS.lloadN X194.here hx rfl (hb hby at_105) rfl ?_
      exact k
    obtain ⟨_, _, ⟨T197, L197, k197c, n197⟩, -, X197, ⟨Lc197, hQ197, l197, y197, z197⟩, st197⟩ := Jvm.LawKit.callS X194 hx (y := (⟨"com/example/reckoner/reckoner/BytesSetU2PinLaw", "at", "([BIIIJ)Z"⟩ : MethodName)) hown (mvT hZ (hw _ (List.mem_of_getElem? (i := 56) rfl))) (mvT hZ (hw _ (List.mem_of_getElem? (i := 57) rfl))) (mvT hZ (hw _ (List.mem_of_getElem? (i := 58) rfl))) (mvT hZ (hw _ (List.mem_of_getElem? (i := 59) rfl))) (by decide) (backOf (W := 0) (own_rmat3 l Z a0 hw [] rr177 (4 : Int32) p3 p1 rc177 (nar .byte ((((((p1.toUInt64 >>> ((32 : Int32) &&& 0x3f).toInt64.toUInt64).toInt64).toInt32).toUInt32 >>> ((24 : Int32) &&& 31).toUInt32).toInt32).toInt8.toInt32)) (nar .byte ((((((p1.toUInt64 >>> ((32 : Int32) &&& 0x3f).toInt64.toUInt64).toInt64).toInt32).toUInt32 >>> ((16 : Int32) &&& 31).toUInt32).toInt32).toInt8.toInt32)) (nar .byte ((((((p1.toUInt64 >>> ((32 : Int32) &&& 0x3f).toInt64.toUInt64).toInt64).toInt32).toUInt32 >>> ((8 : Int32) &&& 31).toUInt32).toInt32).toInt8.toInt32)) (nar .byte ((((((p1.toUInt64 >>> ((32 : Int32) &&& 0x3f).toInt64.toUInt64).toInt64).toInt32).toUInt32 >>> ((0 : Int32) &&& 31).toUInt32).toInt32).toInt8.toInt32)) (nar .byte (((p3.toUInt32 >>> ((8 : Int32) &&& 31).toUInt32).toInt32).toInt8.toInt32)) (nar .byte (p3.toInt8.toInt32)) (nar .byte ((((p1.toInt32).toUInt32 >>> ((8 : Int32) &&& 31).toUInt32).toInt32).toInt8.toInt32)) (nar .byte ((((p1.toInt32).toUInt32 >>> ((0 : Int32) &&& 31).toUInt32).toInt32).toInt8.toInt32)) T177.heap n0 Z177 Vr177) hZ (hw _ (List.mem_of_getElem? (i := 59) rfl)) (hw _ (List.mem_of_getElem? (i := 58) rfl)) (by decide) (by decide)) (g := (mkF m 106 #[.val (.long p1), .second, .val (.int p2), .val (.int p3), .val (.ref b1), .val (.int (4 : Int32)), .val (.ref rr177)] [(.long p1), (.int p3), (.int (4 : Int32)), (.int (3 : Int32)), (.ref rr177)])) rfl (by rw [hml]; rfl) (argsL := [(.ref rr177), (.int (3 : Int32)), (.int (4 : Int32)), (.int p3), (.long p1)]) (rest := []) (lenOf own_pd9 rfl) rfl (by show 2 * 0 + _ ≤ _; exact Nat.le_of_eq rfl) (hb hby at_106) (fun _ _ => ⟨rfl, e194, (by decide : 3 + 0 ≤ _), (by decide : 74 + 0 ≤ _)⟩)
    dsimp only [Pt.U, Pt.locs, Pt.cells, Pt.slots] at X197 l197 y197 z197 st197 hQ197
    subst l197 y197 z197
    obtain ⟨rfl, N197q, e197⟩ := hQ197
    have N197 := Fr.app N194 N197q
    have k198 : ∀ t, Steps p.tables e below (T197.setTop (mkF m 109 #[.val (.long p1), .second, .val (.int p2), .val (.int p3), .val (.ref b1), .val (.int (4 : Int32)), .val (.ref rr177)] [(.int (own_vat3 (4 : Int32) p3 p1 (nar .byte ((((((p1.toUInt64 >>> ((32 : Int32) &&& 0x3f).toInt64.toUInt64).toInt64).toInt32).toUInt32 >>> ((0 : Int32) &&& 31).toUInt32).toInt32).toInt8.toInt32))))])) t → Steps p.tables e below (s₁.setTop (entryFrame m #[(.long p1), (.int p2), (.int p3)] maxLocals)) t := fun t k => k196 t (st197 t k)
    have k199 : ∀ t, Steps p.tables e below (T197.setTop (mkF m 119 #[.val (.long p1), .second, .val (.int p2), .val (.int p3), .val (.ref b1), .val (.int (4 : Int32)), .val (.ref rr177)] [(.long p1), (.int p3), (.int (4 : Int32)), (.int (4 : Int32)), (.ref rr177)])) t → Steps p.tables e below (s₁.setTop (entryFrame m #[(.long p1), (.int p2), (.int p3)] maxLocals)) t := by
      intro t k
      refine k198 t ?_
      show Steps p.tables e below (T197.setTop (mkF m 109 #[.val (.long p1), .second, .val (.int p2), .val (.int p3), .val (.ref b1), .val (.int (4 : Int32)), .val (.ref rr177)] [(.int (own_vat3 (4 : Int32) p3 p1 (nar .byte ((((((p1.toUInt64 >>> ((32 : Int32) &&& 0x3f).toInt64.toUInt64).toInt64).toInt32).toUInt32 >>> ((0 : Int32) &&& 31).toUInt32).toInt32).toInt8.toInt32))))])) _
      refine XS.ifNo X197.here hx rfl (hb hby at_109) rfl ((if0 _ _).trans (feq (own_t4_3 p1 p3)).1) ?_
      show Steps p.tables e below (T197.setTop (mkF m 112 #[.val (.long p1), .second, .val (.int p2), .val (.int p3), .val (.ref b1), .val (.int (4 : Int32)), .val (.ref rr177)] [])) _
      refine XS.aload X197.here hx rfl (hb hby at_112) rfl rfl ?_
      show Steps p.tables e below (T197.setTop (mkF m 114 #[.val (.long p1), .second, .val (.int p2), .val (.int p3), .val (.ref b1), .val (.int (4 : Int32)), .val (.ref rr177)] [(.ref rr177)])) _
      refine XS.iconst X197.here hx rfl (hb hby at_114) ?_
      show Steps p.tables e below (T197.setTop (mkF m 115 #[.val (.long p1), .second, .val (.int p2), .val (.int p3), .val (.ref b1), .val (.int (4 : Int32)), .val (.ref rr177)] [(.int (4 : Int32)), (.ref rr177)])) _
      refine XS.iload X197.here hx rfl (hb hby at_115) rfl ?_
      show Steps p.tables e below (T197.setTop (mkF m 117 #[.val (.long p1), .second, .val (.int p2), .val (.int p3), .val (.ref b1), .val (.int (4 : Int32)), .val (.ref rr177)] [(.int (4 : Int32)), (.int (4 : Int32)), (.ref rr177)])) _
      refine XS.iloadN X197.here hx rfl (hb hby at_117) rfl ?_
      show Steps p.tables e below (T197.setTop (mkF m 118 #[.val (.long p1), .second, .val (.int p2), .val (.int p3), .val (.ref b1), .val (.int (4 : Int32)), .val (.ref rr177)] [(.int p3), (.int (4 : Int32)), (.int (4 : Int32)), (.ref rr177)])) _
      refine XS.lloadN X197.here hx rfl (hb hby at_118) rfl ?_
      exact k
    obtain ⟨_, _, ⟨T200, L200, k200c, n200⟩, -, X200, ⟨Lc200, hQ200, l200, y200, z200⟩, st200⟩ := Jvm.LawKit.callS X197 hx (y := (⟨"com/example/reckoner/reckoner/BytesSetU2PinLaw", "at", "([BIIIJ)Z"⟩ : MethodName)) hown (mvT hZ (hw _ (List.mem_of_getElem? (i := 56) rfl))) (mvT hZ (hw _ (List.mem_of_getElem? (i := 57) rfl))) (mvT hZ (hw _ (List.mem_of_getElem? (i := 58) rfl))) (mvT hZ (hw _ (List.mem_of_getElem? (i := 59) rfl))) (by decide) (backOf (W := 0) (own_rmat4 l Z a0 hw [] rr177 (4 : Int32) p3 p1 rc177 (nar .byte ((((((p1.toUInt64 >>> ((32 : Int32) &&& 0x3f).toInt64.toUInt64).toInt64).toInt32).toUInt32 >>> ((24 : Int32) &&& 31).toUInt32).toInt32).toInt8.toInt32)) (nar .byte ((((((p1.toUInt64 >>> ((32 : Int32) &&& 0x3f).toInt64.toUInt64).toInt64).toInt32).toUInt32 >>> ((16 : Int32) &&& 31).toUInt32).toInt32).toInt8.toInt32)) (nar .byte ((((((p1.toUInt64 >>> ((32 : Int32) &&& 0x3f).toInt64.toUInt64).toInt64).toInt32).toUInt32 >>> ((8 : Int32) &&& 31).toUInt32).toInt32).toInt8.toInt32)) (nar .byte ((((((p1.toUInt64 >>> ((32 : Int32) &&& 0x3f).toInt64.toUInt64).toInt64).toInt32).toUInt32 >>> ((0 : Int32) &&& 31).toUInt32).toInt32).toInt8.toInt32)) (nar .byte (((p3.toUInt32 >>> ((8 : Int32) &&& 31).toUInt32).toInt32).toInt8.toInt32)) (nar .byte (p3.toInt8.toInt32)) (nar .byte ((((p1.toInt32).toUInt32 >>> ((8 : Int32) &&& 31).toUInt32).toInt32).toInt8.toInt32)) (nar .byte ((((p1.toInt32).toUInt32 >>> ((0 : Int32) &&& 31).toUInt32).toInt32).toInt8.toInt32)) T177.heap n0 Z177 Vr177) hZ (hw _ (List.mem_of_getElem? (i := 59) rfl)) (hw _ (List.mem_of_getElem? (i := 58) rfl)) (by decide) (by decide)) (g := (mkF m 119 #[.val (.long p1), .second, .val (.int p2), .val (.int p3), .val (.ref b1), .val (.int (4 : Int32)), .val (.ref rr177)] [(.long p1), (.int p3), (.int (4 : Int32)), (.int (4 : Int32)), (.ref rr177)])) rfl (by rw [hml]; rfl) (argsL := [(.ref rr177), (.int (4 : Int32)), (.int (4 : Int32)), (.int p3), (.long p1)]) (rest := []) (lenOf own_pd9 rfl) rfl (by show 2 * 0 + _ ≤ _; exact Nat.le_of_eq rfl) (hb hby at_119) (fun _ _ => ⟨rfl, e197, (by decide : 3 + 0 ≤ _), (by decide : 74 + 0 ≤ _)⟩)
    dsimp only [Pt.U, Pt.locs, Pt.cells, Pt.slots] at X200 l200 y200 z200 st200 hQ200
    subst l200 y200 z200
    obtain ⟨rfl, N200q, e200⟩ := hQ200
    have N200 := Fr.app N197 N200q
    have k201 : ∀ t, Steps p.tables e below (T200.setTop (mkF m 122 #[.val (.long p1), .second, .val (.int p2), .val (.int p3), .val (.ref b1), .val (.int (4 : Int32)), .val (.ref rr177)] [(.int (own_vat4 (4 : Int32) p3 p1 (nar .byte (((p3.toUInt32 >>> ((8 : Int32) &&& 31).toUInt32).toInt32).toInt8.toInt32))))])) t → Steps p.tables e below (s₁.setTop (entryFrame m #[(.long p1), (.int p2), (.int p3)] maxLocals)) t := fun t k => k199 t (st200 t k)
    have k202 : ∀ t, Steps p.tables e below (T200.setTop (mkF m 132 #[.val (.long p1), .second, .val (.int p2), .val (.int p3), .val (.ref b1), .val (.int (4 : Int32)), .val (.ref rr177)] [(.long p1), (.int p3), (.int (4 : Int32)), (.int (5 : Int32)), (.ref rr177)])) t → Steps p.tables e below (s₁.setTop (entryFrame m #[(.long p1), (.int p2), (.int p3)] maxLocals)) t := by
      intro t k
      refine k201 t ?_
      show Steps p.tables e below (T200.setTop (mkF m 122 #[.val (.long p1), .second, .val (.int p2), .val (.int p3), .val (.ref b1), .val (.int (4 : Int32)), .val (.ref rr177)] [(.int (own_vat4 (4 : Int32) p3 p1 (nar .byte (((p3.toUInt32 >>> ((8 : Int32) &&& 31).toUInt32).toInt32).toInt8.toInt32))))])) _
      refine XS.ifNo X200.here hx rfl (hb hby at_122) rfl ((if0 _ _).trans (feq (own_t4_4 p1 p3)).1) ?_
      show Steps p.tables e below (T200.setTop (mkF m 125 #[.val (.long p1), .second, .val (.int p2), .val (.int p3), .val (.ref b1), .val (.int (4 : Int32)), .val (.ref rr177)] [])) _
      refine XS.aload X200.here hx rfl (hb hby at_125) rfl rfl ?_
      show Steps p.tables e below (T200.setTop (mkF m 127 #[.val (.long p1), .second, .val (.int p2), .val (.int p3), .val (.ref b1), .val (.int (4 : Int32)), .val (.ref rr177)] [(.ref rr177)])) _
      refine XS.iconst X200.here hx rfl (hb hby at_127) ?_
      show Steps p.tables e below (T200.setTop (mkF m 128 #[.val (.long p1), .second, .val (.int p2), .val (.int p3), .val (.ref b1), .val (.int (4 : Int32)), .val (.ref rr177)] [(.int (5 : Int32)), (.ref rr177)])) _
      refine XS.iload X200.here hx rfl (hb hby at_128) rfl ?_
      show Steps p.tables e below (T200.setTop (mkF m 130 #[.val (.long p1), .second, .val (.int p2), .val (.int p3), .val (.ref b1), .val (.int (4 : Int32)), .val (.ref rr177)] [(.int (4 : Int32)), (.int (5 : Int32)), (.ref rr177)])) _
      refine XS.iloadN X200.here hx rfl (hb hby at_130) rfl ?_
      show Steps p.tables e below (T200.setTop (mkF m 131 #[.val (.long p1), .second, .val (.int p2), .val (.int p3), .val (.ref b1), .val (.int (4 : Int32)), .val (.ref rr177)] [(.int p3), (.int (4 : Int32)), (.int (5 : Int32)), (.ref rr177)])) _
      refine XS.lloadN X200.here hx rfl (hb hby at_131) rfl ?_
      exact k
    obtain ⟨_, _, ⟨T203, L203, k203c, n203⟩, -, X203, ⟨Lc203, hQ203, l203, y203, z203⟩, st203⟩ := Jvm.LawKit.callS X200 hx (y := (⟨"com/example/reckoner/reckoner/BytesSetU2PinLaw", "at", "([BIIIJ)Z"⟩ : MethodName)) hown (mvT hZ (hw _ (List.mem_of_getElem? (i := 56) rfl))) (mvT hZ (hw _ (List.mem_of_getElem? (i := 57) rfl))) (mvT hZ (hw _ (List.mem_of_getElem? (i := 58) rfl))) (mvT hZ (hw _ (List.mem_of_getElem? (i := 59) rfl))) (by decide) (backOf (W := 0) (own_rmat5 l Z a0 hw [] rr177 (4 : Int32) p3 p1 rc177 (nar .byte ((((((p1.toUInt64 >>> ((32 : Int32) &&& 0x3f).toInt64.toUInt64).toInt64).toInt32).toUInt32 >>> ((24 : Int32) &&& 31).toUInt32).toInt32).toInt8.toInt32)) (nar .byte ((((((p1.toUInt64 >>> ((32 : Int32) &&& 0x3f).toInt64.toUInt64).toInt64).toInt32).toUInt32 >>> ((16 : Int32) &&& 31).toUInt32).toInt32).toInt8.toInt32)) (nar .byte ((((((p1.toUInt64 >>> ((32 : Int32) &&& 0x3f).toInt64.toUInt64).toInt64).toInt32).toUInt32 >>> ((8 : Int32) &&& 31).toUInt32).toInt32).toInt8.toInt32)) (nar .byte ((((((p1.toUInt64 >>> ((32 : Int32) &&& 0x3f).toInt64.toUInt64).toInt64).toInt32).toUInt32 >>> ((0 : Int32) &&& 31).toUInt32).toInt32).toInt8.toInt32)) (nar .byte (((p3.toUInt32 >>> ((8 : Int32) &&& 31).toUInt32).toInt32).toInt8.toInt32)) (nar .byte (p3.toInt8.toInt32)) (nar .byte ((((p1.toInt32).toUInt32 >>> ((8 : Int32) &&& 31).toUInt32).toInt32).toInt8.toInt32)) (nar .byte ((((p1.toInt32).toUInt32 >>> ((0 : Int32) &&& 31).toUInt32).toInt32).toInt8.toInt32)) T177.heap n0 Z177 Vr177) hZ (hw _ (List.mem_of_getElem? (i := 59) rfl)) (hw _ (List.mem_of_getElem? (i := 58) rfl)) (by decide) (by decide)) (g := (mkF m 132 #[.val (.long p1), .second, .val (.int p2), .val (.int p3), .val (.ref b1), .val (.int (4 : Int32)), .val (.ref rr177)] [(.long p1), (.int p3), (.int (4 : Int32)), (.int (5 : Int32)), (.ref rr177)])) rfl (by rw [hml]; rfl) (argsL := [(.ref rr177), (.int (5 : Int32)), (.int (4 : Int32)), (.int p3), (.long p1)]) (rest := []) (lenOf own_pd9 rfl) rfl (by show 2 * 0 + _ ≤ _; exact Nat.le_of_eq rfl) (hb hby at_132) (fun _ _ => ⟨rfl, e200, (by decide : 3 + 0 ≤ _), (by decide : 74 + 0 ≤ _)⟩)
    dsimp only [Pt.U, Pt.locs, Pt.cells, Pt.slots] at X203 l203 y203 z203 st203 hQ203
    subst l203 y203 z203
    obtain ⟨rfl, N203q, e203⟩ := hQ203
    have N203 := Fr.app N200 N203q
    have k204 : ∀ t, Steps p.tables e below (T203.setTop (mkF m 135 #[.val (.long p1), .second, .val (.int p2), .val (.int p3), .val (.ref b1), .val (.int (4 : Int32)), .val (.ref rr177)] [(.int (own_vat5 (4 : Int32) p3 p1 (nar .byte (p3.toInt8.toInt32))))])) t → Steps p.tables e below (s₁.setTop (entryFrame m #[(.long p1), (.int p2), (.int p3)] maxLocals)) t := fun t k => k202 t (st203 t k)
    have k205 : ∀ t, Steps p.tables e below (T203.setTop (mkF m 146 #[.val (.long p1), .second, .val (.int p2), .val (.int p3), .val (.ref b1), .val (.int (4 : Int32)), .val (.ref rr177)] [(.long p1), (.int p3), (.int (4 : Int32)), (.int (6 : Int32)), (.ref rr177)])) t → Steps p.tables e below (s₁.setTop (entryFrame m #[(.long p1), (.int p2), (.int p3)] maxLocals)) t := by
      intro t k
      refine k204 t ?_
      show Steps p.tables e below (T203.setTop (mkF m 135 #[.val (.long p1), .second, .val (.int p2), .val (.int p3), .val (.ref b1), .val (.int (4 : Int32)), .val (.ref rr177)] [(.int (own_vat5 (4 : Int32) p3 p1 (nar .byte (p3.toInt8.toInt32))))])) _
      refine XS.ifNo X203.here hx rfl (hb hby at_135) rfl ((if0 _ _).trans (feq (own_t4_5 p1 p3)).1) ?_
      show Steps p.tables e below (T203.setTop (mkF m 138 #[.val (.long p1), .second, .val (.int p2), .val (.int p3), .val (.ref b1), .val (.int (4 : Int32)), .val (.ref rr177)] [])) _
      refine XS.aload X203.here hx rfl (hb hby at_138) rfl rfl ?_
      show Steps p.tables e below (T203.setTop (mkF m 140 #[.val (.long p1), .second, .val (.int p2), .val (.int p3), .val (.ref b1), .val (.int (4 : Int32)), .val (.ref rr177)] [(.ref rr177)])) _
      refine XS.bipush X203.here hx rfl (hb hby at_140) ?_
      show Steps p.tables e below (T203.setTop (mkF m 142 #[.val (.long p1), .second, .val (.int p2), .val (.int p3), .val (.ref b1), .val (.int (4 : Int32)), .val (.ref rr177)] [(.int (6 : Int32)), (.ref rr177)])) _
      refine XS.iload X203.here hx rfl (hb hby at_142) rfl ?_
      show Steps p.tables e below (T203.setTop (mkF m 144 #[.val (.long p1), .second, .val (.int p2), .val (.int p3), .val (.ref b1), .val (.int (4 : Int32)), .val (.ref rr177)] [(.int (4 : Int32)), (.int (6 : Int32)), (.ref rr177)])) _
      refine XS.iloadN X203.here hx rfl (hb hby at_144) rfl ?_
      show Steps p.tables e below (T203.setTop (mkF m 145 #[.val (.long p1), .second, .val (.int p2), .val (.int p3), .val (.ref b1), .val (.int (4 : Int32)), .val (.ref rr177)] [(.int p3), (.int (4 : Int32)), (.int (6 : Int32)), (.ref rr177)])) _
      refine XS.lloadN X203.here hx rfl (hb hby at_145) rfl ?_
      exact k
    obtain ⟨_, _, ⟨T206, L206, k206c, n206⟩, -, X206, ⟨Lc206, hQ206, l206, y206, z206⟩, st206⟩ := Jvm.LawKit.callS X203 hx (y := (⟨"com/example/reckoner/reckoner/BytesSetU2PinLaw", "at", "([BIIIJ)Z"⟩ : MethodName)) hown (mvT hZ (hw _ (List.mem_of_getElem? (i := 56) rfl))) (mvT hZ (hw _ (List.mem_of_getElem? (i := 57) rfl))) (mvT hZ (hw _ (List.mem_of_getElem? (i := 58) rfl))) (mvT hZ (hw _ (List.mem_of_getElem? (i := 59) rfl))) (by decide) (backOf (W := 0) (own_rmat6 l Z a0 hw [] rr177 (4 : Int32) p3 p1 rc177 (nar .byte ((((((p1.toUInt64 >>> ((32 : Int32) &&& 0x3f).toInt64.toUInt64).toInt64).toInt32).toUInt32 >>> ((24 : Int32) &&& 31).toUInt32).toInt32).toInt8.toInt32)) (nar .byte ((((((p1.toUInt64 >>> ((32 : Int32) &&& 0x3f).toInt64.toUInt64).toInt64).toInt32).toUInt32 >>> ((16 : Int32) &&& 31).toUInt32).toInt32).toInt8.toInt32)) (nar .byte ((((((p1.toUInt64 >>> ((32 : Int32) &&& 0x3f).toInt64.toUInt64).toInt64).toInt32).toUInt32 >>> ((8 : Int32) &&& 31).toUInt32).toInt32).toInt8.toInt32)) (nar .byte ((((((p1.toUInt64 >>> ((32 : Int32) &&& 0x3f).toInt64.toUInt64).toInt64).toInt32).toUInt32 >>> ((0 : Int32) &&& 31).toUInt32).toInt32).toInt8.toInt32)) (nar .byte (((p3.toUInt32 >>> ((8 : Int32) &&& 31).toUInt32).toInt32).toInt8.toInt32)) (nar .byte (p3.toInt8.toInt32)) (nar .byte ((((p1.toInt32).toUInt32 >>> ((8 : Int32) &&& 31).toUInt32).toInt32).toInt8.toInt32)) (nar .byte ((((p1.toInt32).toUInt32 >>> ((0 : Int32) &&& 31).toUInt32).toInt32).toInt8.toInt32)) T177.heap n0 Z177 Vr177) hZ (hw _ (List.mem_of_getElem? (i := 59) rfl)) (hw _ (List.mem_of_getElem? (i := 58) rfl)) (by decide) (by decide)) (g := (mkF m 146 #[.val (.long p1), .second, .val (.int p2), .val (.int p3), .val (.ref b1), .val (.int (4 : Int32)), .val (.ref rr177)] [(.long p1), (.int p3), (.int (4 : Int32)), (.int (6 : Int32)), (.ref rr177)])) rfl (by rw [hml]; rfl) (argsL := [(.ref rr177), (.int (6 : Int32)), (.int (4 : Int32)), (.int p3), (.long p1)]) (rest := []) (lenOf own_pd9 rfl) rfl (by show 2 * 0 + _ ≤ _; exact Nat.le_of_eq rfl) (hb hby at_146) (fun _ _ => ⟨rfl, e203, (by decide : 3 + 0 ≤ _), (by decide : 74 + 0 ≤ _)⟩)
    dsimp only [Pt.U, Pt.locs, Pt.cells, Pt.slots] at X206 l206 y206 z206 st206 hQ206
    subst l206 y206 z206
    obtain ⟨rfl, N206q, e206⟩ := hQ206
    have N206 := Fr.app N203 N206q
    have k207 : ∀ t, Steps p.tables e below (T206.setTop (mkF m 149 #[.val (.long p1), .second, .val (.int p2), .val (.int p3), .val (.ref b1), .val (.int (4 : Int32)), .val (.ref rr177)] [(.int (own_vat6 (4 : Int32) p3 p1 (nar .byte ((((p1.toInt32).toUInt32 >>> ((8 : Int32) &&& 31).toUInt32).toInt32).toInt8.toInt32))))])) t → Steps p.tables e below (s₁.setTop (entryFrame m #[(.long p1), (.int p2), (.int p3)] maxLocals)) t := fun t k => k205 t (st206 t k)
    have k208 : ∀ t, Steps p.tables e below (T206.setTop (mkF m 160 #[.val (.long p1), .second, .val (.int p2), .val (.int p3), .val (.ref b1), .val (.int (4 : Int32)), .val (.ref rr177)] [(.long p1), (.int p3), (.int (4 : Int32)), (.int (7 : Int32)), (.ref rr177)])) t → Steps p.tables e below (s₁.setTop (entryFrame m #[(.long p1), (.int p2), (.int p3)] maxLocals)) t := by
      intro t k
      refine k207 t ?_
      show Steps p.tables e below (T206.setTop (mkF m 149 #[.val (.long p1), .second, .val (.int p2), .val (.int p3), .val (.ref b1), .val (.int (4 : Int32)), .val (.ref rr177)] [(.int (own_vat6 (4 : Int32) p3 p1 (nar .byte ((((p1.toInt32).toUInt32 >>> ((8 : Int32) &&& 31).toUInt32).toInt32).toInt8.toInt32))))])) _
      refine XS.ifNo X206.here hx rfl (hb hby at_149) rfl ((if0 _ _).trans (feq (own_t4_6 p1 p3)).1) ?_
      show Steps p.tables e below (T206.setTop (mkF m 152 #[.val (.long p1), .second, .val (.int p2), .val (.int p3), .val (.ref b1), .val (.int (4 : Int32)), .val (.ref rr177)] [])) _
      refine XS.aload X206.here hx rfl (hb hby at_152) rfl rfl ?_
      show Steps p.tables e below (T206.setTop (mkF m 154 #[.val (.long p1), .second, .val (.int p2), .val (.int p3), .val (.ref b1), .val (.int (4 : Int32)), .val (.ref rr177)] [(.ref rr177)])) _
      refine XS.bipush X206.here hx rfl (hb hby at_154) ?_
      show Steps p.tables e below (T206.setTop (mkF m 156 #[.val (.long p1), .second, .val (.int p2), .val (.int p3), .val (.ref b1), .val (.int (4 : Int32)), .val (.ref rr177)] [(.int (7 : Int32)), (.ref rr177)])) _
      refine XS.iload X206.here hx rfl (hb hby at_156) rfl ?_
      show Steps p.tables e below (T206.setTop (mkF m 158 #[.val (.long p1), .second, .val (.int p2), .val (.int p3), .val (.ref b1), .val (.int (4 : Int32)), .val (.ref rr177)] [(.int (4 : Int32)), (.int (7 : Int32)), (.ref rr177)])) _
      refine XS.iloadN X206.here hx rfl (hb hby at_158) rfl ?_
      show Steps p.tables e below (T206.setTop (mkF m 159 #[.val (.long p1), .second, .val (.int p2), .val (.int p3), .val (.ref b1), .val (.int (4 : Int32)), .val (.ref rr177)] [(.int p3), (.int (4 : Int32)), (.int (7 : Int32)), (.ref rr177)])) _
      refine XS.lloadN X206.here hx rfl (hb hby at_159) rfl ?_
      exact k
    obtain ⟨_, _, ⟨T209, L209, k209c, n209⟩, -, X209, ⟨Lc209, hQ209, l209, y209, z209⟩, st209⟩ := Jvm.LawKit.callS X206 hx (y := (⟨"com/example/reckoner/reckoner/BytesSetU2PinLaw", "at", "([BIIIJ)Z"⟩ : MethodName)) hown (mvT hZ (hw _ (List.mem_of_getElem? (i := 56) rfl))) (mvT hZ (hw _ (List.mem_of_getElem? (i := 57) rfl))) (mvT hZ (hw _ (List.mem_of_getElem? (i := 58) rfl))) (mvT hZ (hw _ (List.mem_of_getElem? (i := 59) rfl))) (by decide) (backOf (W := 0) (own_rmat7 l Z a0 hw [] rr177 (4 : Int32) p3 p1 rc177 (nar .byte ((((((p1.toUInt64 >>> ((32 : Int32) &&& 0x3f).toInt64.toUInt64).toInt64).toInt32).toUInt32 >>> ((24 : Int32) &&& 31).toUInt32).toInt32).toInt8.toInt32)) (nar .byte ((((((p1.toUInt64 >>> ((32 : Int32) &&& 0x3f).toInt64.toUInt64).toInt64).toInt32).toUInt32 >>> ((16 : Int32) &&& 31).toUInt32).toInt32).toInt8.toInt32)) (nar .byte ((((((p1.toUInt64 >>> ((32 : Int32) &&& 0x3f).toInt64.toUInt64).toInt64).toInt32).toUInt32 >>> ((8 : Int32) &&& 31).toUInt32).toInt32).toInt8.toInt32)) (nar .byte ((((((p1.toUInt64 >>> ((32 : Int32) &&& 0x3f).toInt64.toUInt64).toInt64).toInt32).toUInt32 >>> ((0 : Int32) &&& 31).toUInt32).toInt32).toInt8.toInt32)) (nar .byte (((p3.toUInt32 >>> ((8 : Int32) &&& 31).toUInt32).toInt32).toInt8.toInt32)) (nar .byte (p3.toInt8.toInt32)) (nar .byte ((((p1.toInt32).toUInt32 >>> ((8 : Int32) &&& 31).toUInt32).toInt32).toInt8.toInt32)) (nar .byte ((((p1.toInt32).toUInt32 >>> ((0 : Int32) &&& 31).toUInt32).toInt32).toInt8.toInt32)) T177.heap n0 Z177 Vr177) hZ (hw _ (List.mem_of_getElem? (i := 59) rfl)) (hw _ (List.mem_of_getElem? (i := 58) rfl)) (by decide) (by decide)) (g := (mkF m 160 #[.val (.long p1), .second, .val (.int p2), .val (.int p3), .val (.ref b1), .val (.int (4 : Int32)), .val (.ref rr177)] [(.long p1), (.int p3), (.int (4 : Int32)), (.int (7 : Int32)), (.ref rr177)])) rfl (by rw [hml]; rfl) (argsL := [(.ref rr177), (.int (7 : Int32)), (.int (4 : Int32)), (.int p3), (.long p1)]) (rest := []) (lenOf own_pd9 rfl) rfl (by show 2 * 0 + _ ≤ _; exact Nat.le_of_eq rfl) (hb hby at_160) (fun _ _ => ⟨rfl, e206, (by decide : 3 + 0 ≤ _), (by decide : 74 + 0 ≤ _)⟩)
    dsimp only [Pt.U, Pt.locs, Pt.cells, Pt.slots] at X209 l209 y209 z209 st209 hQ209
    subst l209 y209 z209
    obtain ⟨rfl, N209q, e209⟩ := hQ209
    have N209 := Fr.app N206 N209q
    have k210 : ∀ t, Steps p.tables e below (T209.setTop (mkF m 163 #[.val (.long p1), .second, .val (.int p2), .val (.int p3), .val (.ref b1), .val (.int (4 : Int32)), .val (.ref rr177)] [(.int (own_vat7 (4 : Int32) p3 p1 (nar .byte ((((p1.toInt32).toUInt32 >>> ((0 : Int32) &&& 31).toUInt32).toInt32).toInt8.toInt32))))])) t → Steps p.tables e below (s₁.setTop (entryFrame m #[(.long p1), (.int p2), (.int p3)] maxLocals)) t := fun t k => k208 t (st209 t k)
    have k211 : ∀ t, Steps p.tables e below (T209.setTop (mkF m 171 #[.val (.long p1), .second, .val (.int p2), .val (.int p3), .val (.ref b1), .val (.int (4 : Int32)), .val (.ref rr177)] [(.int (1 : Int32))])) t → Steps p.tables e below (s₁.setTop (entryFrame m #[(.long p1), (.int p2), (.int p3)] maxLocals)) t := by
      intro t k
      refine k210 t ?_
      show Steps p.tables e below (T209.setTop (mkF m 163 #[.val (.long p1), .second, .val (.int p2), .val (.int p3), .val (.ref b1), .val (.int (4 : Int32)), .val (.ref rr177)] [(.int (own_vat7 (4 : Int32) p3 p1 (nar .byte ((((p1.toInt32).toUInt32 >>> ((0 : Int32) &&& 31).toUInt32).toInt32).toInt8.toInt32))))])) _
      refine XS.ifNo X209.here hx rfl (hb hby at_163) rfl ((if0 _ _).trans (feq (own_t4_7 p1 p3)).1) ?_
      show Steps p.tables e below (T209.setTop (mkF m 166 #[.val (.long p1), .second, .val (.int p2), .val (.int p3), .val (.ref b1), .val (.int (4 : Int32)), .val (.ref rr177)] [])) _
      refine XS.iconst X209.here hx rfl (hb hby at_166) ?_
      show Steps p.tables e below (T209.setTop (mkF m 167 #[.val (.long p1), .second, .val (.int p2), .val (.int p3), .val (.ref b1), .val (.int (4 : Int32)), .val (.ref rr177)] [(.int (1 : Int32))])) _
      refine XS.goto X209.here hx rfl (pc0 := 167) (pc' := 171) rfl (hb hby at_167) (by decide) (by decide) ?_
      exact k
    obtain ⟨fs, hr, hrun, hended, hW, hsame⟩ := X209.leave (v := (some (.int (1 : Int32)))) (fun h => by rw [Bd.returns] at h; cases h)
    refine ⟨_, _, k211 _ ?_, hrun, hended, _, _, rfl, ?_, ⟨_, rfl⟩, hW, hsame.mono (by decide) (by decide)⟩
    · exact retN X209 hx (t := .boolean) Bd.returns (by simp) (hb hby at_171) hr
    · exact ⟨rfl, N209⟩
  · have k212 : ∀ t, Steps p.tables e below (T9.setTop (mkF m 25 #[.val (.long p1), .second, .val (.int p2), .val (.int p3), .val (.ref b1), .val (.int (5 : Int32)), .unset] [])) t → Steps p.tables e below (s₁.setTop (entryFrame m #[(.long p1), (.int p2), (.int p3)] maxLocals)) t := by have z := k11; rw [he] at z; exact z
    have k213 : ∀ t, Steps p.tables e below (T9.setTop (mkF m 30 #[.val (.long p1), .second, .val (.int p2), .val (.int p3), .val (.ref b1), .val (.int (5 : Int32)), .unset] [(.int p3), (.int (5 : Int32)), (.ref b1)])) t → Steps p.tables e below (s₁.setTop (entryFrame m #[(.long p1), (.int p2), (.int p3)] maxLocals)) t := by
      intro t k
      refine k212 t ?_
      show Steps p.tables e below (T9.setTop (mkF m 25 #[.val (.long p1), .second, .val (.int p2), .val (.int p3), .val (.ref b1), .val (.int (5 : Int32)), .unset] [])) _
      refine XS.aload X9.here hx rfl (hb hby at_25) rfl rfl ?_
      show Steps p.tables e below (T9.setTop (mkF m 27 #[.val (.long p1), .second, .val (.int p2), .val (.int p3), .val (.ref b1), .val (.int (5 : Int32)), .unset] [(.ref b1)])) _
      refine XS.iload X9.here hx rfl (hb hby at_27) rfl ?_
      show Steps p.tables e below (T9.setTop (mkF m 29 #[.val (.long p1), .second, .val (.int p2), .val (.int p3), .val (.ref b1), .val (.int (5 : Int32)), .unset] [(.int (5 : Int32)), (.ref b1)])) _
      refine XS.iloadN X9.here hx rfl (hb hby at_29) rfl ?_
      exact k
    obtain ⟨cq214, kq214, q214a, q214b, q214c⟩ := isOf hZ rfl Eq9
    obtain ⟨_, _, ⟨T214, L214, k214c, n214⟩, -, X214, ⟨Lc214, hQ214, l214, y214, z214⟩, st214⟩ := X9.virtualBack hx (y := (⟨"com/example/reckoner/reckoner/Bytes", "setU2", "(II)V"⟩ : MethodName)) (z := (⟨"com/example/reckoner/reckoner/Bytes", "setU2", "(II)V"⟩ : MethodName)) hown (mvT hZ (hw _ (List.mem_of_getElem? (i := 29) rfl))) (mvT hZ (hw _ (List.mem_of_getElem? (i := 30) rfl))) (notFace_of_selects (args := #[]) (mvT hZ (hw _ (List.mem_of_getElem? (i := 32) rfl)))) (mvT hZ (hw _ (List.mem_of_getElem? (i := 32) rfl))) (mvT hZ (hw _ (List.mem_of_getElem? (i := 31) rfl))) (by decide) (backOf (W := 0) (own_rmsu5 l Z a0 hw [] b1 p3 (8 : Int32) ar6 cc6 (nar .byte ((((((p1.toUInt64 >>> ((32 : Int32) &&& 0x3f).toInt64.toUInt64).toInt64).toInt32).toUInt32 >>> ((24 : Int32) &&& 31).toUInt32).toInt32).toInt8.toInt32)) (nar .byte ((((((p1.toUInt64 >>> ((32 : Int32) &&& 0x3f).toInt64.toUInt64).toInt64).toInt32).toUInt32 >>> ((16 : Int32) &&& 31).toUInt32).toInt32).toInt8.toInt32)) (nar .byte ((((((p1.toUInt64 >>> ((32 : Int32) &&& 0x3f).toInt64.toUInt64).toInt64).toInt32).toUInt32 >>> ((8 : Int32) &&& 31).toUInt32).toInt32).toInt8.toInt32)) (nar .byte ((((((p1.toUInt64 >>> ((32 : Int32) &&& 0x3f).toInt64.toUInt64).toInt64).toInt32).toUInt32 >>> ((0 : Int32) &&& 31).toUInt32).toInt32).toInt8.toInt32)) (nar .byte ((((p1.toInt32).toUInt32 >>> ((24 : Int32) &&& 31).toUInt32).toInt32).toInt8.toInt32)) (nar .byte ((((p1.toInt32).toUInt32 >>> ((16 : Int32) &&& 31).toUInt32).toInt32).toInt8.toInt32)) (nar .byte ((((p1.toInt32).toUInt32 >>> ((8 : Int32) &&& 31).toUInt32).toInt32).toInt8.toInt32)) (nar .byte ((((p1.toInt32).toUInt32 >>> ((0 : Int32) &&& 31).toUInt32).toInt32).toInt8.toInt32)) T9.heap n0 Z9 Eq9 Fa9 Fb9 Vq9 ge1 ge6 ne6x) hZ (hw _ (List.mem_of_getElem? (i := 33) rfl)) (hw _ (List.mem_of_getElem? (i := 2) rfl)) (by decide) (by decide)) q214a q214c (g := (mkF m 30 #[.val (.long p1), .second, .val (.int p2), .val (.int p3), .val (.ref b1), .val (.int (5 : Int32)), .unset] [(.int p3), (.int (5 : Int32)), (.ref b1)])) rfl (by rw [hml]; rfl) (Steps.refl _) (argsL := [(.int (5 : Int32)), (.int p3)]) (rest := []) (lenOf own_pd6 rfl) rfl (by show 2 * 0 + _ ≤ _; exact Nat.le_of_eq rfl) (hb hby at_30) (fun _ _ => ⟨rfl, rfl, (by decide : 2 + 0 ≤ _), (by decide : 66 + 0 ≤ _)⟩)
    dsimp only [Pt.U, Pt.locs, Pt.cells, Pt.slots] at X214 l214 y214 z214 st214 hQ214
    subst l214 y214 z214
    obtain ⟨rfl, N214q, Kq214, Eq214, Fa214, Fb214, Vq214⟩ := hQ214
    have N214 := Fr.app N9 N214q
    have Z214 : n0 ≤ T214.heap.size := Nat.le_trans Z9 Kq214.1
    have k215 : ∀ t, Steps p.tables e below (T214.setTop (mkF m 33 #[.val (.long p1), .second, .val (.int p2), .val (.int p3), .val (.ref b1), .val (.int (5 : Int32)), .unset] [])) t → Steps p.tables e below (s₁.setTop (entryFrame m #[(.long p1), (.int p2), (.int p3)] maxLocals)) t := fun t k => k213 t (st214.trans k)
    have k216 : ∀ t, Steps p.tables e below (T214.setTop (mkF m 35 #[.val (.long p1), .second, .val (.int p2), .val (.int p3), .val (.ref b1), .val (.int (5 : Int32)), .unset] [(.ref b1)])) t → Steps p.tables e below (s₁.setTop (entryFrame m #[(.long p1), (.int p2), (.int p3)] maxLocals)) t := by
      intro t k
      refine k215 t ?_
      show Steps p.tables e below (T214.setTop (mkF m 33 #[.val (.long p1), .second, .val (.int p2), .val (.int p3), .val (.ref b1), .val (.int (5 : Int32)), .unset] [])) _
      refine XS.aload X214.here hx rfl (hb hby at_33) rfl rfl ?_
      exact k
    obtain ⟨cq217, kq217, q217a, q217b, q217c⟩ := isOf hZ rfl Eq214
    obtain ⟨_, _, ⟨T217, L217, k217c, n217⟩, -, X217, ⟨Lc217, hQ217, l217, y217, z217⟩, st217⟩ := X214.virtualBack hx (y := (⟨"com/example/reckoner/reckoner/Bytes", "toArray", "()[B"⟩ : MethodName)) (z := (⟨"com/example/reckoner/reckoner/Bytes", "toArray", "()[B"⟩ : MethodName)) hown (mvT hZ (hw _ (List.mem_of_getElem? (i := 34) rfl))) (mvT hZ (hw _ (List.mem_of_getElem? (i := 35) rfl))) (notFace_of_selects (args := #[]) (mvT hZ (hw _ (List.mem_of_getElem? (i := 37) rfl)))) (mvT hZ (hw _ (List.mem_of_getElem? (i := 37) rfl))) (mvT hZ (hw _ (List.mem_of_getElem? (i := 36) rfl))) (by decide) (backOf (W := 0) (own_rmta l Z a0 hw [] b1 ar6 cc6 (nar .byte ((((((p1.toUInt64 >>> ((32 : Int32) &&& 0x3f).toInt64.toUInt64).toInt64).toInt32).toUInt32 >>> ((24 : Int32) &&& 31).toUInt32).toInt32).toInt8.toInt32)) (nar .byte ((((((p1.toUInt64 >>> ((32 : Int32) &&& 0x3f).toInt64.toUInt64).toInt64).toInt32).toUInt32 >>> ((16 : Int32) &&& 31).toUInt32).toInt32).toInt8.toInt32)) (nar .byte ((((((p1.toUInt64 >>> ((32 : Int32) &&& 0x3f).toInt64.toUInt64).toInt64).toInt32).toUInt32 >>> ((8 : Int32) &&& 31).toUInt32).toInt32).toInt8.toInt32)) (nar .byte ((((((p1.toUInt64 >>> ((32 : Int32) &&& 0x3f).toInt64.toUInt64).toInt64).toInt32).toUInt32 >>> ((0 : Int32) &&& 31).toUInt32).toInt32).toInt8.toInt32)) (nar .byte ((((p1.toInt32).toUInt32 >>> ((24 : Int32) &&& 31).toUInt32).toInt32).toInt8.toInt32)) (nar .byte (((p3.toUInt32 >>> ((8 : Int32) &&& 31).toUInt32).toInt32).toInt8.toInt32)) (nar .byte (p3.toInt8.toInt32)) (nar .byte ((((p1.toInt32).toUInt32 >>> ((0 : Int32) &&& 31).toUInt32).toInt32).toInt8.toInt32)) T214.heap n0 Z214 Fa214 Fb214 Vq214) hZ (hw _ (List.mem_of_getElem? (i := 38) rfl)) (hw _ (List.mem_of_getElem? (i := 2) rfl)) (by decide) (by decide)) q217a q217c (g := (mkF m 35 #[.val (.long p1), .second, .val (.int p2), .val (.int p3), .val (.ref b1), .val (.int (5 : Int32)), .unset] [(.ref b1)])) rfl (by rw [hml]; rfl) (Steps.refl _) (argsL := []) (rest := []) (lenOf own_pd7 rfl) rfl (by show 2 * 0 + _ ≤ _; exact Nat.le_of_eq rfl) (hb hby at_35) (fun _ _ => ⟨rfl, rfl, (by decide : 2 + 1 ≤ _), (by decide : 66 + 8 ≤ _)⟩)
    dsimp only [Pt.U, Pt.locs, Pt.cells, Pt.slots] at X217 l217 y217 z217 st217 hQ217
    subst l217 y217 z217
    obtain ⟨rr217, rc217, rfl, N217q, Kq217, Vr217⟩ := hQ217
    have N217 := Fr.app N214 N217q
    have f218 := Eq214.keep Kq217
    have f219 := Fa214.keep Kq217 List.not_mem_nil
    have f220 := Fb214.keep Kq217 List.not_mem_nil
    have f221 := Vq214.keep Kq217 List.not_mem_nil
    have Z217 : n0 ≤ T217.heap.size := Nat.le_trans Z214 Kq217.1
    have k222 : ∀ t, Steps p.tables e below (T217.setTop (mkF m 38 #[.val (.long p1), .second, .val (.int p2), .val (.int p3), .val (.ref b1), .val (.int (5 : Int32)), .unset] [(.ref rr217)])) t → Steps p.tables e below (s₁.setTop (entryFrame m #[(.long p1), (.int p2), (.int p3)] maxLocals)) t := fun t k => k216 t (st217.trans k)
    have k223 : ∀ t, Steps p.tables e below (T217.setTop (mkF m 42 #[.val (.long p1), .second, .val (.int p2), .val (.int p3), .val (.ref b1), .val (.int (5 : Int32)), .val (.ref rr217)] [(.ref b1)])) t → Steps p.tables e below (s₁.setTop (entryFrame m #[(.long p1), (.int p2), (.int p3)] maxLocals)) t := by
      intro t k
      refine k222 t ?_
      show Steps p.tables e below (T217.setTop (mkF m 38 #[.val (.long p1), .second, .val (.int p2), .val (.int p3), .val (.ref b1), .val (.int (5 : Int32)), .unset] [(.ref rr217)])) _
      refine XS.astore X217.here hx rfl (hb hby at_38) rfl rfl (l' := #[.val (.long p1), .second, .val (.int p2), .val (.int p3), .val (.ref b1), .val (.int (5 : Int32)), .val (.ref rr217)]) rfl ?_
      show Steps p.tables e below (T217.setTop (mkF m 40 #[.val (.long p1), .second, .val (.int p2), .val (.int p3), .val (.ref b1), .val (.int (5 : Int32)), .val (.ref rr217)] [])) _
      refine XS.aload X217.here hx rfl (hb hby at_40) rfl rfl ?_
      exact k
    obtain ⟨cq224, kq224, q224a, q224b, q224c⟩ := isOf hZ rfl f218
    obtain ⟨_, _, ⟨T224, L224, k224c, n224⟩, -, X224, ⟨Lc224, hQ224, l224, y224, z224⟩, st224⟩ := X217.virtualBack hx (y := (⟨"com/example/reckoner/reckoner/Bytes", "length", "()I"⟩ : MethodName)) (z := (⟨"com/example/reckoner/reckoner/Bytes", "length", "()I"⟩ : MethodName)) hown (mvT hZ (hw _ (List.mem_of_getElem? (i := 51) rfl))) (mvT hZ (hw _ (List.mem_of_getElem? (i := 52) rfl))) (notFace_of_selects (args := #[]) (mvT hZ (hw _ (List.mem_of_getElem? (i := 54) rfl)))) (mvT hZ (hw _ (List.mem_of_getElem? (i := 54) rfl))) (mvT hZ (hw _ (List.mem_of_getElem? (i := 53) rfl))) (by decide) (backOf (W := 0) (own_rmln l Z a0 hw [] b1 (8 : Int32) T217.heap n0 Z217 f220) hZ (hw _ (List.mem_of_getElem? (i := 55) rfl)) (hw _ (List.mem_of_getElem? (i := 2) rfl)) (by decide) (by decide)) q224a q224c (g := (mkF m 42 #[.val (.long p1), .second, .val (.int p2), .val (.int p3), .val (.ref b1), .val (.int (5 : Int32)), .val (.ref rr217)] [(.ref b1)])) rfl (by rw [hml]; rfl) (Steps.refl _) (argsL := []) (rest := []) (lenOf own_pd8 rfl) rfl (by show 2 * 0 + _ ≤ _; exact Nat.le_of_eq rfl) (hb hby at_42) (fun _ _ => ⟨rfl, rfl, (by decide : 3 + 0 ≤ _), (by decide : 74 + 0 ≤ _)⟩)
    dsimp only [Pt.U, Pt.locs, Pt.cells, Pt.slots] at X224 l224 y224 z224 st224 hQ224
    subst l224 y224 z224
    obtain ⟨hr224, N224q, e224⟩ := hQ224
    rw [show (own_vln (8 : Int32)) = (8 : Int32) from rfl] at hr224
    subst hr224
    have N224 := Fr.app N217 N224q
    have k225 : ∀ t, Steps p.tables e below (T224.setTop (mkF m 45 #[.val (.long p1), .second, .val (.int p2), .val (.int p3), .val (.ref b1), .val (.int (5 : Int32)), .val (.ref rr217)] [(.int (8 : Int32))])) t → Steps p.tables e below (s₁.setTop (entryFrame m #[(.long p1), (.int p2), (.int p3)] maxLocals)) t := fun t k => k223 t (st224.trans k)
    obtain ⟨cl226, Ar226, qa226, Sa226, Na226, Ha226, Ga226⟩ := id Vr217
    have k227 : ∀ t, Steps p.tables e below (T224.setTop (mkF m 67 #[.val (.long p1), .second, .val (.int p2), .val (.int p3), .val (.ref b1), .val (.int (5 : Int32)), .val (.ref rr217)] [(.long p1), (.int p3), (.int (5 : Int32)), (.int (0 : Int32)), (.ref rr217)])) t → Steps p.tables e below (s₁.setTop (entryFrame m #[(.long p1), (.int p2), (.int p3)] maxLocals)) t := by
      intro t k
      refine k225 t ?_
      show Steps p.tables e below (T224.setTop (mkF m 45 #[.val (.long p1), .second, .val (.int p2), .val (.int p3), .val (.ref b1), .val (.int (5 : Int32)), .val (.ref rr217)] [(.int (8 : Int32))])) _
      refine XS.bipush X224.here hx rfl (hb hby at_45) ?_
      show Steps p.tables e below (T224.setTop (mkF m 47 #[.val (.long p1), .second, .val (.int p2), .val (.int p3), .val (.ref b1), .val (.int (5 : Int32)), .val (.ref rr217)] [(.int (8 : Int32)), (.int (8 : Int32))])) _
      refine XS.icmpNo X224.here hx rfl (hb hby at_47) rfl (teq (rfl : (8 : Int32) = (8 : Int32))).2 ?_
      show Steps p.tables e below (T224.setTop (mkF m 50 #[.val (.long p1), .second, .val (.int p2), .val (.int p3), .val (.ref b1), .val (.int (5 : Int32)), .val (.ref rr217)] [])) _
      refine XS.aload X224.here hx rfl (hb hby at_50) rfl rfl ?_
      show Steps p.tables e below (T224.setTop (mkF m 52 #[.val (.long p1), .second, .val (.int p2), .val (.int p3), .val (.ref b1), .val (.int (5 : Int32)), .val (.ref rr217)] [(.ref rr217)])) _
      refine X224.arraylength hx (by rw [e224]; exact Ar226.1) (State.isArrayOf_alike hZ.alike Ar226.2.1) (g := (mkF m 52 #[.val (.long p1), .second, .val (.int p2), .val (.int p3), .val (.ref b1), .val (.int (5 : Int32)), .val (.ref rr217)] [(.ref rr217)])) rfl rfl (hb hby at_52) _ ?_
      rw [len_of Sa226 Na226]
      show Steps p.tables e below (T224.setTop (mkF m 53 #[.val (.long p1), .second, .val (.int p2), .val (.int p3), .val (.ref b1), .val (.int (5 : Int32)), .val (.ref rr217)] [(.int (8 : Int32))])) _
      refine XS.bipush X224.here hx rfl (hb hby at_53) ?_
      show Steps p.tables e below (T224.setTop (mkF m 55 #[.val (.long p1), .second, .val (.int p2), .val (.int p3), .val (.ref b1), .val (.int (5 : Int32)), .val (.ref rr217)] [(.int (8 : Int32)), (.int (8 : Int32))])) _
      refine XS.icmpYes X224.here hx rfl (pc0 := 55) (pc' := 60) rfl (hb hby at_55) rfl (teq (rfl : (8 : Int32) = (8 : Int32))).1 (by decide) (by decide) ?_
      show Steps p.tables e below (T224.setTop (mkF m 60 #[.val (.long p1), .second, .val (.int p2), .val (.int p3), .val (.ref b1), .val (.int (5 : Int32)), .val (.ref rr217)] [])) _
      refine XS.aload X224.here hx rfl (hb hby at_60) rfl rfl ?_
      show Steps p.tables e below (T224.setTop (mkF m 62 #[.val (.long p1), .second, .val (.int p2), .val (.int p3), .val (.ref b1), .val (.int (5 : Int32)), .val (.ref rr217)] [(.ref rr217)])) _
      refine XS.iconst X224.here hx rfl (hb hby at_62) ?_
      show Steps p.tables e below (T224.setTop (mkF m 63 #[.val (.long p1), .second, .val (.int p2), .val (.int p3), .val (.ref b1), .val (.int (5 : Int32)), .val (.ref rr217)] [(.int (0 : Int32)), (.ref rr217)])) _
      refine XS.iload X224.here hx rfl (hb hby at_63) rfl ?_
      show Steps p.tables e below (T224.setTop (mkF m 65 #[.val (.long p1), .second, .val (.int p2), .val (.int p3), .val (.ref b1), .val (.int (5 : Int32)), .val (.ref rr217)] [(.int (5 : Int32)), (.int (0 : Int32)), (.ref rr217)])) _
      refine XS.iloadN X224.here hx rfl (hb hby at_65) rfl ?_
      show Steps p.tables e below (T224.setTop (mkF m 66 #[.val (.long p1), .second, .val (.int p2), .val (.int p3), .val (.ref b1), .val (.int (5 : Int32)), .val (.ref rr217)] [(.int p3), (.int (5 : Int32)), (.int (0 : Int32)), (.ref rr217)])) _
      refine XS.lloadN X224.here hx rfl (hb hby at_66) rfl ?_
      exact k
    obtain ⟨_, _, ⟨T228, L228, k228c, n228⟩, -, X228, ⟨Lc228, hQ228, l228, y228, z228⟩, st228⟩ := Jvm.LawKit.callS X224 hx (y := (⟨"com/example/reckoner/reckoner/BytesSetU2PinLaw", "at", "([BIIIJ)Z"⟩ : MethodName)) hown (mvT hZ (hw _ (List.mem_of_getElem? (i := 56) rfl))) (mvT hZ (hw _ (List.mem_of_getElem? (i := 57) rfl))) (mvT hZ (hw _ (List.mem_of_getElem? (i := 58) rfl))) (mvT hZ (hw _ (List.mem_of_getElem? (i := 59) rfl))) (by decide) (backOf (W := 0) (own_rmat0 l Z a0 hw [] rr217 (5 : Int32) p3 p1 rc217 (nar .byte ((((((p1.toUInt64 >>> ((32 : Int32) &&& 0x3f).toInt64.toUInt64).toInt64).toInt32).toUInt32 >>> ((24 : Int32) &&& 31).toUInt32).toInt32).toInt8.toInt32)) (nar .byte ((((((p1.toUInt64 >>> ((32 : Int32) &&& 0x3f).toInt64.toUInt64).toInt64).toInt32).toUInt32 >>> ((16 : Int32) &&& 31).toUInt32).toInt32).toInt8.toInt32)) (nar .byte ((((((p1.toUInt64 >>> ((32 : Int32) &&& 0x3f).toInt64.toUInt64).toInt64).toInt32).toUInt32 >>> ((8 : Int32) &&& 31).toUInt32).toInt32).toInt8.toInt32)) (nar .byte ((((((p1.toUInt64 >>> ((32 : Int32) &&& 0x3f).toInt64.toUInt64).toInt64).toInt32).toUInt32 >>> ((0 : Int32) &&& 31).toUInt32).toInt32).toInt8.toInt32)) (nar .byte ((((p1.toInt32).toUInt32 >>> ((24 : Int32) &&& 31).toUInt32).toInt32).toInt8.toInt32)) (nar .byte (((p3.toUInt32 >>> ((8 : Int32) &&& 31).toUInt32).toInt32).toInt8.toInt32)) (nar .byte (p3.toInt8.toInt32)) (nar .byte ((((p1.toInt32).toUInt32 >>> ((0 : Int32) &&& 31).toUInt32).toInt32).toInt8.toInt32)) T217.heap n0 Z217 Vr217) hZ (hw _ (List.mem_of_getElem? (i := 59) rfl)) (hw _ (List.mem_of_getElem? (i := 58) rfl)) (by decide) (by decide)) (g := (mkF m 67 #[.val (.long p1), .second, .val (.int p2), .val (.int p3), .val (.ref b1), .val (.int (5 : Int32)), .val (.ref rr217)] [(.long p1), (.int p3), (.int (5 : Int32)), (.int (0 : Int32)), (.ref rr217)])) rfl (by rw [hml]; rfl) (argsL := [(.ref rr217), (.int (0 : Int32)), (.int (5 : Int32)), (.int p3), (.long p1)]) (rest := []) (lenOf own_pd9 rfl) rfl (by show 2 * 0 + _ ≤ _; exact Nat.le_of_eq rfl) (hb hby at_67) (fun _ _ => ⟨rfl, e224, (by decide : 3 + 0 ≤ _), (by decide : 74 + 0 ≤ _)⟩)
    dsimp only [Pt.U, Pt.locs, Pt.cells, Pt.slots] at X228 l228 y228 z228 st228 hQ228
    subst l228 y228 z228
    obtain ⟨rfl, N228q, e228⟩ := hQ228
    have N228 := Fr.app N224 N228q
    have k229 : ∀ t, Steps p.tables e below (T228.setTop (mkF m 70 #[.val (.long p1), .second, .val (.int p2), .val (.int p3), .val (.ref b1), .val (.int (5 : Int32)), .val (.ref rr217)] [(.int (own_vat0 (5 : Int32) p3 p1 (nar .byte ((((((p1.toUInt64 >>> ((32 : Int32) &&& 0x3f).toInt64.toUInt64).toInt64).toInt32).toUInt32 >>> ((24 : Int32) &&& 31).toUInt32).toInt32).toInt8.toInt32))))])) t → Steps p.tables e below (s₁.setTop (entryFrame m #[(.long p1), (.int p2), (.int p3)] maxLocals)) t := fun t k => k227 t (st228 t k)
    have k230 : ∀ t, Steps p.tables e below (T228.setTop (mkF m 80 #[.val (.long p1), .second, .val (.int p2), .val (.int p3), .val (.ref b1), .val (.int (5 : Int32)), .val (.ref rr217)] [(.long p1), (.int p3), (.int (5 : Int32)), (.int (1 : Int32)), (.ref rr217)])) t → Steps p.tables e below (s₁.setTop (entryFrame m #[(.long p1), (.int p2), (.int p3)] maxLocals)) t := by
      intro t k
      refine k229 t ?_
      show Steps p.tables e below (T228.setTop (mkF m 70 #[.val (.long p1), .second, .val (.int p2), .val (.int p3), .val (.ref b1), .val (.int (5 : Int32)), .val (.ref rr217)] [(.int (own_vat0 (5 : Int32) p3 p1 (nar .byte ((((((p1.toUInt64 >>> ((32 : Int32) &&& 0x3f).toInt64.toUInt64).toInt64).toInt32).toUInt32 >>> ((24 : Int32) &&& 31).toUInt32).toInt32).toInt8.toInt32))))])) _
      refine XS.ifNo X228.here hx rfl (hb hby at_70) rfl ((if0 _ _).trans (feq (own_t5_0 p1 p3)).1) ?_
      show Steps p.tables e below (T228.setTop (mkF m 73 #[.val (.long p1), .second, .val (.int p2), .val (.int p3), .val (.ref b1), .val (.int (5 : Int32)), .val (.ref rr217)] [])) _
      refine XS.aload X228.here hx rfl (hb hby at_73) rfl rfl ?_
      show Steps p.tables e below (T228.setTop (mkF m 75 #[.val (.long p1), .second, .val (.int p2), .val (.int p3), .val (.ref b1), .val (.int (5 : Int32)), .val (.ref rr217)] [(.ref rr217)])) _
      refine XS.iconst X228.here hx rfl (hb hby at_75) ?_
      show Steps p.tables e below (T228.setTop (mkF m 76 #[.val (.long p1), .second, .val (.int p2), .val (.int p3), .val (.ref b1), .val (.int (5 : Int32)), .val (.ref rr217)] [(.int (1 : Int32)), (.ref rr217)])) _
      refine XS.iload X228.here hx rfl (hb hby at_76) rfl ?_
      show Steps p.tables e below (T228.setTop (mkF m 78 #[.val (.long p1), .second, .val (.int p2), .val (.int p3), .val (.ref b1), .val (.int (5 : Int32)), .val (.ref rr217)] [(.int (5 : Int32)), (.int (1 : Int32)), (.ref rr217)])) _
      refine XS.iloadN X228.here hx rfl (hb hby at_78) rfl ?_
      show Steps p.tables e below (T228.setTop (mkF m 79 #[.val (.long p1), .second, .val (.int p2), .val (.int p3), .val (.ref b1), .val (.int (5 : Int32)), .val (.ref rr217)] [(.int p3), (.int (5 : Int32)), (.int (1 : Int32)), (.ref rr217)])) _
      refine XS.lloadN X228.here hx rfl (hb hby at_79) rfl ?_
      exact k
    obtain ⟨_, _, ⟨T231, L231, k231c, n231⟩, -, X231, ⟨Lc231, hQ231, l231, y231, z231⟩, st231⟩ := Jvm.LawKit.callS X228 hx (y := (⟨"com/example/reckoner/reckoner/BytesSetU2PinLaw", "at", "([BIIIJ)Z"⟩ : MethodName)) hown (mvT hZ (hw _ (List.mem_of_getElem? (i := 56) rfl))) (mvT hZ (hw _ (List.mem_of_getElem? (i := 57) rfl))) (mvT hZ (hw _ (List.mem_of_getElem? (i := 58) rfl))) (mvT hZ (hw _ (List.mem_of_getElem? (i := 59) rfl))) (by decide) (backOf (W := 0) (own_rmat1 l Z a0 hw [] rr217 (5 : Int32) p3 p1 rc217 (nar .byte ((((((p1.toUInt64 >>> ((32 : Int32) &&& 0x3f).toInt64.toUInt64).toInt64).toInt32).toUInt32 >>> ((24 : Int32) &&& 31).toUInt32).toInt32).toInt8.toInt32)) (nar .byte ((((((p1.toUInt64 >>> ((32 : Int32) &&& 0x3f).toInt64.toUInt64).toInt64).toInt32).toUInt32 >>> ((16 : Int32) &&& 31).toUInt32).toInt32).toInt8.toInt32)) (nar .byte ((((((p1.toUInt64 >>> ((32 : Int32) &&& 0x3f).toInt64.toUInt64).toInt64).toInt32).toUInt32 >>> ((8 : Int32) &&& 31).toUInt32).toInt32).toInt8.toInt32)) (nar .byte ((((((p1.toUInt64 >>> ((32 : Int32) &&& 0x3f).toInt64.toUInt64).toInt64).toInt32).toUInt32 >>> ((0 : Int32) &&& 31).toUInt32).toInt32).toInt8.toInt32)) (nar .byte ((((p1.toInt32).toUInt32 >>> ((24 : Int32) &&& 31).toUInt32).toInt32).toInt8.toInt32)) (nar .byte (((p3.toUInt32 >>> ((8 : Int32) &&& 31).toUInt32).toInt32).toInt8.toInt32)) (nar .byte (p3.toInt8.toInt32)) (nar .byte ((((p1.toInt32).toUInt32 >>> ((0 : Int32) &&& 31).toUInt32).toInt32).toInt8.toInt32)) T217.heap n0 Z217 Vr217) hZ (hw _ (List.mem_of_getElem? (i := 59) rfl)) (hw _ (List.mem_of_getElem? (i := 58) rfl)) (by decide) (by decide)) (g := (mkF m 80 #[.val (.long p1), .second, .val (.int p2), .val (.int p3), .val (.ref b1), .val (.int (5 : Int32)), .val (.ref rr217)] [(.long p1), (.int p3), (.int (5 : Int32)), (.int (1 : Int32)), (.ref rr217)])) rfl (by rw [hml]; rfl) (argsL := [(.ref rr217), (.int (1 : Int32)), (.int (5 : Int32)), (.int p3), (.long p1)]) (rest := []) (lenOf own_pd9 rfl) rfl (by show 2 * 0 + _ ≤ _; exact Nat.le_of_eq rfl) (hb hby at_80) (fun _ _ => ⟨rfl, e228, (by decide : 3 + 0 ≤ _), (by decide : 74 + 0 ≤ _)⟩)
    dsimp only [Pt.U, Pt.locs, Pt.cells, Pt.slots] at X231 l231 y231 z231 st231 hQ231
    subst l231 y231 z231
    obtain ⟨rfl, N231q, e231⟩ := hQ231
    have N231 := Fr.app N228 N231q
    have k232 : ∀ t, Steps p.tables e below (T231.setTop (mkF m 83 #[.val (.long p1), .second, .val (.int p2), .val (.int p3), .val (.ref b1), .val (.int (5 : Int32)), .val (.ref rr217)] [(.int (own_vat1 (5 : Int32) p3 p1 (nar .byte ((((((p1.toUInt64 >>> ((32 : Int32) &&& 0x3f).toInt64.toUInt64).toInt64).toInt32).toUInt32 >>> ((16 : Int32) &&& 31).toUInt32).toInt32).toInt8.toInt32))))])) t → Steps p.tables e below (s₁.setTop (entryFrame m #[(.long p1), (.int p2), (.int p3)] maxLocals)) t := fun t k => k230 t (st231 t k)
    have k233 : ∀ t, Steps p.tables e below (T231.setTop (mkF m 93 #[.val (.long p1), .second, .val (.int p2), .val (.int p3), .val (.ref b1), .val (.int (5 : Int32)), .val (.ref rr217)] [(.long p1), (.int p3), (.int (5 : Int32)), (.int (2 : Int32)), (.ref rr217)])) t → Steps p.tables e below (s₁.setTop (entryFrame m #[(.long p1), (.int p2), (.int p3)] maxLocals)) t := by
      intro t k
      refine k232 t ?_
      show Steps p.tables e below (T231.setTop (mkF m 83 #[.val (.long p1), .second, .val (.int p2), .val (.int p3), .val (.ref b1), .val (.int (5 : Int32)), .val (.ref rr217)] [(.int (own_vat1 (5 : Int32) p3 p1 (nar .byte ((((((p1.toUInt64 >>> ((32 : Int32) &&& 0x3f).toInt64.toUInt64).toInt64).toInt32).toUInt32 >>> ((16 : Int32) &&& 31).toUInt32).toInt32).toInt8.toInt32))))])) _
      refine XS.ifNo X231.here hx rfl (hb hby at_83) rfl ((if0 _ _).trans (feq (own_t5_1 p1 p3)).1) ?_
      show Steps p.tables e below (T231.setTop (mkF m 86 #[.val (.long p1), .second, .val (.int p2), .val (.int p3), .val (.ref b1), .val (.int (5 : Int32)), .val (.ref rr217)] [])) _
      refine XS.aload X231.here hx rfl (hb hby at_86) rfl rfl ?_
      show Steps p.tables e below (T231.setTop (mkF m 88 #[.val (.long p1), .second, .val (.int p2), .val (.int p3), .val (.ref b1), .val (.int (5 : Int32)), .val (.ref rr217)] [(.ref rr217)])) _
      refine XS.iconst X231.here hx rfl (hb hby at_88) ?_
      show Steps p.tables e below (T231.setTop (mkF m 89 #[.val (.long p1), .second, .val (.int p2), .val (.int p3), .val (.ref b1), .val (.int (5 : Int32)), .val (.ref rr217)] [(.int (2 : Int32)), (.ref rr217)])) _
      refine XS.iload X231.here hx rfl (hb hby at_89) rfl ?_
      show Steps p.tables e below (T231.setTop (mkF m 91 #[.val (.long p1), .second, .val (.int p2), .val (.int p3), .val (.ref b1), .val (.int (5 : Int32)), .val (.ref rr217)] [(.int (5 : Int32)), (.int (2 : Int32)), (.ref rr217)])) _
      refine XS.iloadN X231.here hx rfl (hb hby at_91) rfl ?_
      show Steps p.tables e below (T231.setTop (mkF m 92 #[.val (.long p1), .second, .val (.int p2), .val (.int p3), .val (.ref b1), .val (.int (5 : Int32)), .val (.ref rr217)] [(.int p3), (.int (5 : Int32)), (.int (2 : Int32)), (.ref rr217)])) _
      refine XS.lloadN X231.here hx rfl (hb hby at_92) rfl ?_
      exact k
    obtain ⟨_, _, ⟨T234, L234, k234c, n234⟩, -, X234, ⟨Lc234, hQ234, l234, y234, z234⟩, st234⟩ := Jvm.LawKit.callS X231 hx (y := (⟨"com/example/reckoner/reckoner/BytesSetU2PinLaw", "at", "([BIIIJ)Z"⟩ : MethodName)) hown (mvT hZ (hw _ (List.mem_of_getElem? (i := 56) rfl))) (mvT hZ (hw _ (List.mem_of_getElem? (i := 57) rfl))) (mvT hZ (hw _ (List.mem_of_getElem? (i := 58) rfl))) (mvT hZ (hw _ (List.mem_of_getElem? (i := 59) rfl))) (by decide) (backOf (W := 0) (own_rmat2 l Z a0 hw [] rr217 (5 : Int32) p3 p1 rc217 (nar .byte ((((((p1.toUInt64 >>> ((32 : Int32) &&& 0x3f).toInt64.toUInt64).toInt64).toInt32).toUInt32 >>> ((24 : Int32) &&& 31).toUInt32).toInt32).toInt8.toInt32)) (nar .byte ((((((p1.toUInt64 >>> ((32 : Int32) &&& 0x3f).toInt64.toUInt64).toInt64).toInt32).toUInt32 >>> ((16 : Int32) &&& 31).toUInt32).toInt32).toInt8.toInt32)) (nar .byte ((((((p1.toUInt64 >>> ((32 : Int32) &&& 0x3f).toInt64.toUInt64).toInt64).toInt32).toUInt32 >>> ((8 : Int32) &&& 31).toUInt32).toInt32).toInt8.toInt32)) (nar .byte ((((((p1.toUInt64 >>> ((32 : Int32) &&& 0x3f).toInt64.toUInt64).toInt64).toInt32).toUInt32 >>> ((0 : Int32) &&& 31).toUInt32).toInt32).toInt8.toInt32)) (nar .byte ((((p1.toInt32).toUInt32 >>> ((24 : Int32) &&& 31).toUInt32).toInt32).toInt8.toInt32)) (nar .byte (((p3.toUInt32 >>> ((8 : Int32) &&& 31).toUInt32).toInt32).toInt8.toInt32)) (nar .byte (p3.toInt8.toInt32)) (nar .byte ((((p1.toInt32).toUInt32 >>> ((0 : Int32) &&& 31).toUInt32).toInt32).toInt8.toInt32)) T217.heap n0 Z217 Vr217) hZ (hw _ (List.mem_of_getElem? (i := 59) rfl)) (hw _ (List.mem_of_getElem? (i := 58) rfl)) (by decide) (by decide)) (g := (mkF m 93 #[.val (.long p1), .second, .val (.int p2), .val (.int p3), .val (.ref b1), .val (.int (5 : Int32)), .val (.ref rr217)] [(.long p1), (.int p3), (.int (5 : Int32)), (.int (2 : Int32)), (.ref rr217)])) rfl (by rw [hml]; rfl) (argsL := [(.ref rr217), (.int (2 : Int32)), (.int (5 : Int32)), (.int p3), (.long p1)]) (rest := []) (lenOf own_pd9 rfl) rfl (by show 2 * 0 + _ ≤ _; exact Nat.le_of_eq rfl) (hb hby at_93) (fun _ _ => ⟨rfl, e231, (by decide : 3 + 0 ≤ _), (by decide : 74 + 0 ≤ _)⟩)
    dsimp only [Pt.U, Pt.locs, Pt.cells, Pt.slots] at X234 l234 y234 z234 st234 hQ234
    subst l234 y234 z234
    obtain ⟨rfl, N234q, e234⟩ := hQ234
    have N234 := Fr.app N231 N234q
    have k235 : ∀ t, Steps p.tables e below (T234.setTop (mkF m 96 #[.val (.long p1), .second, .val (.int p2), .val (.int p3), .val (.ref b1), .val (.int (5 : Int32)), .val (.ref rr217)] [(.int (own_vat2 (5 : Int32) p3 p1 (nar .byte ((((((p1.toUInt64 >>> ((32 : Int32) &&& 0x3f).toInt64.toUInt64).toInt64).toInt32).toUInt32 >>> ((8 : Int32) &&& 31).toUInt32).toInt32).toInt8.toInt32))))])) t → Steps p.tables e below (s₁.setTop (entryFrame m #[(.long p1), (.int p2), (.int p3)] maxLocals)) t := fun t k => k233 t (st234 t k)
    have k236 : ∀ t, Steps p.tables e below (T234.setTop (mkF m 106 #[.val (.long p1), .second, .val (.int p2), .val (.int p3), .val (.ref b1), .val (.int (5 : Int32)), .val (.ref rr217)] [(.long p1), (.int p3), (.int (5 : Int32)), (.int (3 : Int32)), (.ref rr217)])) t → Steps p.tables e below (s₁.setTop (entryFrame m #[(.long p1), (.int p2), (.int p3)] maxLocals)) t := by
      intro t k
      refine k235 t ?_
      show Steps p.tables e below (T234.setTop (mkF m 96 #[.val (.long p1), .second, .val (.int p2), .val (.int p3), .val (.ref b1), .val (.int (5 : Int32)), .val (.ref rr217)] [(.int (own_vat2 (5 : Int32) p3 p1 (nar .byte ((((((p1.toUInt64 >>> ((32 : Int32) &&& 0x3f).toInt64.toUInt64).toInt64).toInt32).toUInt32 >>> ((8 : Int32) &&& 31).toUInt32).toInt32).toInt8.toInt32))))])) _
      refine XS.ifNo X234.here hx rfl (hb hby at_96) rfl ((if0 _ _).trans (feq (own_t5_2 p1 p3)).1) ?_
      show Steps p.tables e below (T234.setTop (mkF m 99 #[.val (.long p1), .second, .val (.int p2), .val (.int p3), .val (.ref b1), .val (.int (5 : Int32)), .val (.ref rr217)] [])) _
      refine XS.aload X234.here hx rfl (hb hby at_99) rfl rfl ?_
      show Steps p.tables e below (T234.setTop (mkF m 101 #[.val (.long p1), .second, .val (.int p2), .val (.int p3), .val (.ref b1), .val (.int (5 : Int32)), .val (.ref rr217)] [(.ref rr217)])) _
      refine XS.iconst X234.here hx rfl (hb hby at_101) ?_
      show Steps p.tables e below (T234.setTop (mkF m 102 #[.val (.long p1), .second, .val (.int p2), .val (.int p3), .val (.ref b1), .val (.int (5 : Int32)), .val (.ref rr217)] [(.int (3 : Int32)), (.ref rr217)])) _
      refine XS.iload X234.here hx rfl (hb hby at_102) rfl ?_
      show Steps p.tables e below (T234.setTop (mkF m 104 #[.val (.long p1), .second, .val (.int p2), .val (.int p3), .val (.ref b1), .val (.int (5 : Int32)), .val (.ref rr217)] [(.int (5 : Int32)), (.int (3 : Int32)), (.ref rr217)])) _
      refine XS.iloadN X234.here hx rfl (hb hby at_104) rfl ?_
      show Steps p.tables e below (T234.setTop (mkF m 105 #[.val (.long p1), .second, .val (.int p2), .val (.int p3), .val (.ref b1), .val (.int (5 : Int32)), .val (.ref rr217)] [(.int p3), (.int (5 : Int32)), (.int (3 : Int32)), (.ref rr217)])) _
      refine XS.lloadN X234.here hx rfl (hb hby at_105) rfl ?_
      exact k
    obtain ⟨_, _, ⟨T237, L237, k237c, n237⟩, -, X237, ⟨Lc237, hQ237, l237, y237, z237⟩, st237⟩ := Jvm.LawKit.callS X234 hx (y := (⟨"com/example/reckoner/reckoner/BytesSetU2PinLaw", "at", "([BIIIJ)Z"⟩ : MethodName)) hown (mvT hZ (hw _ (List.mem_of_getElem? (i := 56) rfl))) (mvT hZ (hw _ (List.mem_of_getElem? (i := 57) rfl))) (mvT hZ (hw _ (List.mem_of_getElem? (i := 58) rfl))) (mvT hZ (hw _ (List.mem_of_getElem? (i := 59) rfl))) (by decide) (backOf (W := 0) (own_rmat3 l Z a0 hw [] rr217 (5 : Int32) p3 p1 rc217 (nar .byte ((((((p1.toUInt64 >>> ((32 : Int32) &&& 0x3f).toInt64.toUInt64).toInt64).toInt32).toUInt32 >>> ((24 : Int32) &&& 31).toUInt32).toInt32).toInt8.toInt32)) (nar .byte ((((((p1.toUInt64 >>> ((32 : Int32) &&& 0x3f).toInt64.toUInt64).toInt64).toInt32).toUInt32 >>> ((16 : Int32) &&& 31).toUInt32).toInt32).toInt8.toInt32)) (nar .byte ((((((p1.toUInt64 >>> ((32 : Int32) &&& 0x3f).toInt64.toUInt64).toInt64).toInt32).toUInt32 >>> ((8 : Int32) &&& 31).toUInt32).toInt32).toInt8.toInt32)) (nar .byte ((((((p1.toUInt64 >>> ((32 : Int32) &&& 0x3f).toInt64.toUInt64).toInt64).toInt32).toUInt32 >>> ((0 : Int32) &&& 31).toUInt32).toInt32).toInt8.toInt32)) (nar .byte ((((p1.toInt32).toUInt32 >>> ((24 : Int32) &&& 31).toUInt32).toInt32).toInt8.toInt32)) (nar .byte (((p3.toUInt32 >>> ((8 : Int32) &&& 31).toUInt32).toInt32).toInt8.toInt32)) (nar .byte (p3.toInt8.toInt32)) (nar .byte ((((p1.toInt32).toUInt32 >>> ((0 : Int32) &&& 31).toUInt32).toInt32).toInt8.toInt32)) T217.heap n0 Z217 Vr217) hZ (hw _ (List.mem_of_getElem? (i := 59) rfl)) (hw _ (List.mem_of_getElem? (i := 58) rfl)) (by decide) (by decide)) (g := (mkF m 106 #[.val (.long p1), .second, .val (.int p2), .val (.int p3), .val (.ref b1), .val (.int (5 : Int32)), .val (.ref rr217)] [(.long p1), (.int p3), (.int (5 : Int32)), (.int (3 : Int32)), (.ref rr217)])) rfl (by rw [hml]; rfl) (argsL := [(.ref rr217), (.int (3 : Int32)), (.int (5 : Int32)), (.int p3), (.long p1)]) (rest := []) (lenOf own_pd9 rfl) rfl (by show 2 * 0 + _ ≤ _; exact Nat.le_of_eq rfl) (hb hby at_106) (fun _ _ => ⟨rfl, e234, (by decide : 3 + 0 ≤ _), (by decide : 74 + 0 ≤ _)⟩)
    dsimp only [Pt.U, Pt.locs, Pt.cells, Pt.slots] at X237 l237 y237 z237 st237 hQ237
    subst l237 y237 z237
    obtain ⟨rfl, N237q, e237⟩ := hQ237
    have N237 := Fr.app N234 N237q
    have k238 : ∀ t, Steps p.tables e below (T237.setTop (mkF m 109 #[.val (.long p1), .second, .val (.int p2), .val (.int p3), .val (.ref b1), .val (.int (5 : Int32)), .val (.ref rr217)] [(.int (own_vat3 (5 : Int32) p3 p1 (nar .byte ((((((p1.toUInt64 >>> ((32 : Int32) &&& 0x3f).toInt64.toUInt64).toInt64).toInt32).toUInt32 >>> ((0 : Int32) &&& 31).toUInt32).toInt32).toInt8.toInt32))))])) t → Steps p.tables e below (s₁.setTop (entryFrame m #[(.long p1), (.int p2), (.int p3)] maxLocals)) t := fun t k => k236 t (st237 t k)
    have k239 : ∀ t, Steps p.tables e below (T237.setTop (mkF m 119 #[.val (.long p1), .second, .val (.int p2), .val (.int p3), .val (.ref b1), .val (.int (5 : Int32)), .val (.ref rr217)] [(.long p1), (.int p3), (.int (5 : Int32)), (.int (4 : Int32)), (.ref rr217)])) t → Steps p.tables e below (s₁.setTop (entryFrame m #[(.long p1), (.int p2), (.int p3)] maxLocals)) t := by
      intro t k
      refine k238 t ?_
      show Steps p.tables e below (T237.setTop (mkF m 109 #[.val (.long p1), .second, .val (.int p2), .val (.int p3), .val (.ref b1), .val (.int (5 : Int32)), .val (.ref rr217)] [(.int (own_vat3 (5 : Int32) p3 p1 (nar .byte ((((((p1.toUInt64 >>> ((32 : Int32) &&& 0x3f).toInt64.toUInt64).toInt64).toInt32).toUInt32 >>> ((0 : Int32) &&& 31).toUInt32).toInt32).toInt8.toInt32))))])) _
      refine XS.ifNo X237.here hx rfl (hb hby at_109) rfl ((if0 _ _).trans (feq (own_t5_3 p1 p3)).1) ?_
      show Steps p.tables e below (T237.setTop (mkF m 112 #[.val (.long p1), .second, .val (.int p2), .val (.int p3), .val (.ref b1), .val (.int (5 : Int32)), .val (.ref rr217)] [])) _
      refine XS.aload X237.here hx rfl (hb hby at_112) rfl rfl ?_
      show Steps p.tables e below (T237.setTop (mkF m 114 #[.val (.long p1), .second, .val (.int p2), .val (.int p3), .val (.ref b1), .val (.int (5 : Int32)), .val (.ref rr217)] [(.ref rr217)])) _
      refine XS.iconst X237.here hx rfl (hb hby at_114) ?_
      show Steps p.tables e below (T237.setTop (mkF m 115 #[.val (.long p1), .second, .val (.int p2), .val (.int p3), .val (.ref b1), .val (.int (5 : Int32)), .val (.ref rr217)] [(.int (4 : Int32)), (.ref rr217)])) _
      refine XS.iload X237.here hx rfl (hb hby at_115) rfl ?_
      show Steps p.tables e below (T237.setTop (mkF m 117 #[.val (.long p1), .second, .val (.int p2), .val (.int p3), .val (.ref b1), .val (.int (5 : Int32)), .val (.ref rr217)] [(.int (5 : Int32)), (.int (4 : Int32)), (.ref rr217)])) _
      refine XS.iloadN X237.here hx rfl (hb hby at_117) rfl ?_
      show Steps p.tables e below (T237.setTop (mkF m 118 #[.val (.long p1), .second, .val (.int p2), .val (.int p3), .val (.ref b1), .val (.int (5 : Int32)), .val (.ref rr217)] [(.int p3), (.int (5 : Int32)), (.int (4 : Int32)), (.ref rr217)])) _
      refine XS.lloadN X237.here hx rfl (hb hby at_118) rfl ?_
      exact k
    obtain ⟨_, _, ⟨T240, L240, k240c, n240⟩, -, X240, ⟨Lc240, hQ240, l240, y240, z240⟩, st240⟩ := Jvm.LawKit.callS X237 hx (y := (⟨"com/example/reckoner/reckoner/BytesSetU2PinLaw", "at", "([BIIIJ)Z"⟩ : MethodName)) hown (mvT hZ (hw _ (List.mem_of_getElem? (i := 56) rfl))) (mvT hZ (hw _ (List.mem_of_getElem? (i := 57) rfl))) (mvT hZ (hw _ (List.mem_of_getElem? (i := 58) rfl))) (mvT hZ (hw _ (List.mem_of_getElem? (i := 59) rfl))) (by decide) (backOf (W := 0) (own_rmat4 l Z a0 hw [] rr217 (5 : Int32) p3 p1 rc217 (nar .byte ((((((p1.toUInt64 >>> ((32 : Int32) &&& 0x3f).toInt64.toUInt64).toInt64).toInt32).toUInt32 >>> ((24 : Int32) &&& 31).toUInt32).toInt32).toInt8.toInt32)) (nar .byte ((((((p1.toUInt64 >>> ((32 : Int32) &&& 0x3f).toInt64.toUInt64).toInt64).toInt32).toUInt32 >>> ((16 : Int32) &&& 31).toUInt32).toInt32).toInt8.toInt32)) (nar .byte ((((((p1.toUInt64 >>> ((32 : Int32) &&& 0x3f).toInt64.toUInt64).toInt64).toInt32).toUInt32 >>> ((8 : Int32) &&& 31).toUInt32).toInt32).toInt8.toInt32)) (nar .byte ((((((p1.toUInt64 >>> ((32 : Int32) &&& 0x3f).toInt64.toUInt64).toInt64).toInt32).toUInt32 >>> ((0 : Int32) &&& 31).toUInt32).toInt32).toInt8.toInt32)) (nar .byte ((((p1.toInt32).toUInt32 >>> ((24 : Int32) &&& 31).toUInt32).toInt32).toInt8.toInt32)) (nar .byte (((p3.toUInt32 >>> ((8 : Int32) &&& 31).toUInt32).toInt32).toInt8.toInt32)) (nar .byte (p3.toInt8.toInt32)) (nar .byte ((((p1.toInt32).toUInt32 >>> ((0 : Int32) &&& 31).toUInt32).toInt32).toInt8.toInt32)) T217.heap n0 Z217 Vr217) hZ (hw _ (List.mem_of_getElem? (i := 59) rfl)) (hw _ (List.mem_of_getElem? (i := 58) rfl)) (by decide) (by decide)) (g := (mkF m 119 #[.val (.long p1), .second, .val (.int p2), .val (.int p3), .val (.ref b1), .val (.int (5 : Int32)), .val (.ref rr217)] [(.long p1), (.int p3), (.int (5 : Int32)), (.int (4 : Int32)), (.ref rr217)])) rfl (by rw [hml]; rfl) (argsL := [(.ref rr217), (.int (4 : Int32)), (.int (5 : Int32)), (.int p3), (.long p1)]) (rest := []) (lenOf own_pd9 rfl) rfl (by show 2 * 0 + _ ≤ _; exact Nat.le_of_eq rfl) (hb hby at_119) (fun _ _ => ⟨rfl, e237, (by decide : 3 + 0 ≤ _), (by decide : 74 + 0 ≤ _)⟩)
    dsimp only [Pt.U, Pt.locs, Pt.cells, Pt.slots] at X240 l240 y240 z240 st240 hQ240
    subst l240 y240 z240
    obtain ⟨rfl, N240q, e240⟩ := hQ240
    have N240 := Fr.app N237 N240q
    have k241 : ∀ t, Steps p.tables e below (T240.setTop (mkF m 122 #[.val (.long p1), .second, .val (.int p2), .val (.int p3), .val (.ref b1), .val (.int (5 : Int32)), .val (.ref rr217)] [(.int (own_vat4 (5 : Int32) p3 p1 (nar .byte ((((p1.toInt32).toUInt32 >>> ((24 : Int32) &&& 31).toUInt32).toInt32).toInt8.toInt32))))])) t → Steps p.tables e below (s₁.setTop (entryFrame m #[(.long p1), (.int p2), (.int p3)] maxLocals)) t := fun t k => k239 t (st240 t k)
    have k242 : ∀ t, Steps p.tables e below (T240.setTop (mkF m 132 #[.val (.long p1), .second, .val (.int p2), .val (.int p3), .val (.ref b1), .val (.int (5 : Int32)), .val (.ref rr217)] [(.long p1), (.int p3), (.int (5 : Int32)), (.int (5 : Int32)), (.ref rr217)])) t → Steps p.tables e below (s₁.setTop (entryFrame m #[(.long p1), (.int p2), (.int p3)] maxLocals)) t := by
      intro t k
      refine k241 t ?_
      show Steps p.tables e below (T240.setTop (mkF m 122 #[.val (.long p1), .second, .val (.int p2), .val (.int p3), .val (.ref b1), .val (.int (5 : Int32)), .val (.ref rr217)] [(.int (own_vat4 (5 : Int32) p3 p1 (nar .byte ((((p1.toInt32).toUInt32 >>> ((24 : Int32) &&& 31).toUInt32).toInt32).toInt8.toInt32))))])) _
      refine XS.ifNo X240.here hx rfl (hb hby at_122) rfl ((if0 _ _).trans (feq (own_t5_4 p1 p3)).1) ?_
      show Steps p.tables e below (T240.setTop (mkF m 125 #[.val (.long p1), .second, .val (.int p2), .val (.int p3), .val (.ref b1), .val (.int (5 : Int32)), .val (.ref rr217)] [])) _
      refine XS.aload X240.here hx rfl (hb hby at_125) rfl rfl ?_
      show Steps p.tables e below (T240.setTop (mkF m 127 #[.val (.long p1), .second, .val (.int p2), .val (.int p3), .val (.ref b1), .val (.int (5 : Int32)), .val (.ref rr217)] [(.ref rr217)])) _
      refine XS.iconst X240.here hx rfl (hb hby at_127) ?_
      show Steps p.tables e below (T240.setTop (mkF m 128 #[.val (.long p1), .second, .val (.int p2), .val (.int p3), .val (.ref b1), .val (.int (5 : Int32)), .val (.ref rr217)] [(.int (5 : Int32)), (.ref rr217)])) _
      refine XS.iload X240.here hx rfl (hb hby at_128) rfl ?_
      show Steps p.tables e below (T240.setTop (mkF m 130 #[.val (.long p1), .second, .val (.int p2), .val (.int p3), .val (.ref b1), .val (.int (5 : Int32)), .val (.ref rr217)] [(.int (5 : Int32)), (.int (5 : Int32)), (.ref rr217)])) _
      refine XS.iloadN X240.here hx rfl (hb hby at_130) rfl ?_
      show Steps p.tables e below (T240.setTop (mkF m 131 #[.val (.long p1), .second, .val (.int p2), .val (.int p3), .val (.ref b1), .val (.int (5 : Int32)), .val (.ref rr217)] [(.int p3), (.int (5 : Int32)), (.int (5 : Int32)), (.ref rr217)])) _
      refine XS.lloadN X240.here hx rfl (hb hby at_131) rfl ?_
      exact k
    obtain ⟨_, _, ⟨T243, L243, k243c, n243⟩, -, X243, ⟨Lc243, hQ243, l243, y243, z243⟩, st243⟩ := Jvm.LawKit.callS X240 hx (y := (⟨"com/example/reckoner/reckoner/BytesSetU2PinLaw", "at", "([BIIIJ)Z"⟩ : MethodName)) hown (mvT hZ (hw _ (List.mem_of_getElem? (i := 56) rfl))) (mvT hZ (hw _ (List.mem_of_getElem? (i := 57) rfl))) (mvT hZ (hw _ (List.mem_of_getElem? (i := 58) rfl))) (mvT hZ (hw _ (List.mem_of_getElem? (i := 59) rfl))) (by decide) (backOf (W := 0) (own_rmat5 l Z a0 hw [] rr217 (5 : Int32) p3 p1 rc217 (nar .byte ((((((p1.toUInt64 >>> ((32 : Int32) &&& 0x3f).toInt64.toUInt64).toInt64).toInt32).toUInt32 >>> ((24 : Int32) &&& 31).toUInt32).toInt32).toInt8.toInt32)) (nar .byte ((((((p1.toUInt64 >>> ((32 : Int32) &&& 0x3f).toInt64.toUInt64).toInt64).toInt32).toUInt32 >>> ((16 : Int32) &&& 31).toUInt32).toInt32).toInt8.toInt32)) (nar .byte ((((((p1.toUInt64 >>> ((32 : Int32) &&& 0x3f).toInt64.toUInt64).toInt64).toInt32).toUInt32 >>> ((8 : Int32) &&& 31).toUInt32).toInt32).toInt8.toInt32)) (nar .byte ((((((p1.toUInt64 >>> ((32 : Int32) &&& 0x3f).toInt64.toUInt64).toInt64).toInt32).toUInt32 >>> ((0 : Int32) &&& 31).toUInt32).toInt32).toInt8.toInt32)) (nar .byte ((((p1.toInt32).toUInt32 >>> ((24 : Int32) &&& 31).toUInt32).toInt32).toInt8.toInt32)) (nar .byte (((p3.toUInt32 >>> ((8 : Int32) &&& 31).toUInt32).toInt32).toInt8.toInt32)) (nar .byte (p3.toInt8.toInt32)) (nar .byte ((((p1.toInt32).toUInt32 >>> ((0 : Int32) &&& 31).toUInt32).toInt32).toInt8.toInt32)) T217.heap n0 Z217 Vr217) hZ (hw _ (List.mem_of_getElem? (i := 59) rfl)) (hw _ (List.mem_of_getElem? (i := 58) rfl)) (by decide) (by decide)) (g := (mkF m 132 #[.val (.long p1), .second, .val (.int p2), .val (.int p3), .val (.ref b1), .val (.int (5 : Int32)), .val (.ref rr217)] [(.long p1), (.int p3), (.int (5 : Int32)), (.int (5 : Int32)), (.ref rr217)])) rfl (by rw [hml]; rfl) (argsL := [(.ref rr217), (.int (5 : Int32)), (.int (5 : Int32)), (.int p3), (.long p1)]) (rest := []) (lenOf own_pd9 rfl) rfl (by show 2 * 0 + _ ≤ _; exact Nat.le_of_eq rfl) (hb hby at_132) (fun _ _ => ⟨rfl, e240, (by decide : 3 + 0 ≤ _), (by decide : 74 + 0 ≤ _)⟩)
    dsimp only [Pt.U, Pt.locs, Pt.cells, Pt.slots] at X243 l243 y243 z243 st243 hQ243
    subst l243 y243 z243
    obtain ⟨rfl, N243q, e243⟩ := hQ243
    have N243 := Fr.app N240 N243q
    have k244 : ∀ t, Steps p.tables e below (T243.setTop (mkF m 135 #[.val (.long p1), .second, .val (.int p2), .val (.int p3), .val (.ref b1), .val (.int (5 : Int32)), .val (.ref rr217)] [(.int (own_vat5 (5 : Int32) p3 p1 (nar .byte (((p3.toUInt32 >>> ((8 : Int32) &&& 31).toUInt32).toInt32).toInt8.toInt32))))])) t → Steps p.tables e below (s₁.setTop (entryFrame m #[(.long p1), (.int p2), (.int p3)] maxLocals)) t := fun t k => k242 t (st243 t k)
    have k245 : ∀ t, Steps p.tables e below (T243.setTop (mkF m 146 #[.val (.long p1), .second, .val (.int p2), .val (.int p3), .val (.ref b1), .val (.int (5 : Int32)), .val (.ref rr217)] [(.long p1), (.int p3), (.int (5 : Int32)), (.int (6 : Int32)), (.ref rr217)])) t → Steps p.tables e below (s₁.setTop (entryFrame m #[(.long p1), (.int p2), (.int p3)] maxLocals)) t := by
      intro t k
      refine k244 t ?_
      show Steps p.tables e below (T243.setTop (mkF m 135 #[.val (.long p1), .second, .val (.int p2), .val (.int p3), .val (.ref b1), .val (.int (5 : Int32)), .val (.ref rr217)] [(.int (own_vat5 (5 : Int32) p3 p1 (nar .byte (((p3.toUInt32 >>> ((8 : Int32) &&& 31).toUInt32).toInt32).toInt8.toInt32))))])) _
      refine XS.ifNo X243.here hx rfl (hb hby at_135) rfl ((if0 _ _).trans (feq (own_t5_5 p1 p3)).1) ?_
      show Steps p.tables e below (T243.setTop (mkF m 138 #[.val (.long p1), .second, .val (.int p2), .val (.int p3), .val (.ref b1), .val (.int (5 : Int32)), .val (.ref rr217)] [])) _
      refine XS.aload X243.here hx rfl (hb hby at_138) rfl rfl ?_
      show Steps p.tables e below (T243.setTop (mkF m 140 #[.val (.long p1), .second, .val (.int p2), .val (.int p3), .val (.ref b1), .val (.int (5 : Int32)), .val (.ref rr217)] [(.ref rr217)])) _
      refine XS.bipush X243.here hx rfl (hb hby at_140) ?_
      show Steps p.tables e below (T243.setTop (mkF m 142 #[.val (.long p1), .second, .val (.int p2), .val (.int p3), .val (.ref b1), .val (.int (5 : Int32)), .val (.ref rr217)] [(.int (6 : Int32)), (.ref rr217)])) _
      refine XS.iload X243.here hx rfl (hb hby at_142) rfl ?_
      show Steps p.tables e below (T243.setTop (mkF m 144 #[.val (.long p1), .second, .val (.int p2), .val (.int p3), .val (.ref b1), .val (.int (5 : Int32)), .val (.ref rr217)] [(.int (5 : Int32)), (.int (6 : Int32)), (.ref rr217)])) _
      refine XS.iloadN X243.here hx rfl (hb hby at_144) rfl ?_
      show Steps p.tables e below (T243.setTop (mkF m 145 #[.val (.long p1), .second, .val (.int p2), .val (.int p3), .val (.ref b1), .val (.int (5 : Int32)), .val (.ref rr217)] [(.int p3), (.int (5 : Int32)), (.int (6 : Int32)), (.ref rr217)])) _
      refine XS.lloadN X243.here hx rfl (hb hby at_145) rfl ?_
      exact k
    obtain ⟨_, _, ⟨T246, L246, k246c, n246⟩, -, X246, ⟨Lc246, hQ246, l246, y246, z246⟩, st246⟩ := Jvm.LawKit.callS X243 hx (y := (⟨"com/example/reckoner/reckoner/BytesSetU2PinLaw", "at", "([BIIIJ)Z"⟩ : MethodName)) hown (mvT hZ (hw _ (List.mem_of_getElem? (i := 56) rfl))) (mvT hZ (hw _ (List.mem_of_getElem? (i := 57) rfl))) (mvT hZ (hw _ (List.mem_of_getElem? (i := 58) rfl))) (mvT hZ (hw _ (List.mem_of_getElem? (i := 59) rfl))) (by decide) (backOf (W := 0) (own_rmat6 l Z a0 hw [] rr217 (5 : Int32) p3 p1 rc217 (nar .byte ((((((p1.toUInt64 >>> ((32 : Int32) &&& 0x3f).toInt64.toUInt64).toInt64).toInt32).toUInt32 >>> ((24 : Int32) &&& 31).toUInt32).toInt32).toInt8.toInt32)) (nar .byte ((((((p1.toUInt64 >>> ((32 : Int32) &&& 0x3f).toInt64.toUInt64).toInt64).toInt32).toUInt32 >>> ((16 : Int32) &&& 31).toUInt32).toInt32).toInt8.toInt32)) (nar .byte ((((((p1.toUInt64 >>> ((32 : Int32) &&& 0x3f).toInt64.toUInt64).toInt64).toInt32).toUInt32 >>> ((8 : Int32) &&& 31).toUInt32).toInt32).toInt8.toInt32)) (nar .byte ((((((p1.toUInt64 >>> ((32 : Int32) &&& 0x3f).toInt64.toUInt64).toInt64).toInt32).toUInt32 >>> ((0 : Int32) &&& 31).toUInt32).toInt32).toInt8.toInt32)) (nar .byte ((((p1.toInt32).toUInt32 >>> ((24 : Int32) &&& 31).toUInt32).toInt32).toInt8.toInt32)) (nar .byte (((p3.toUInt32 >>> ((8 : Int32) &&& 31).toUInt32).toInt32).toInt8.toInt32)) (nar .byte (p3.toInt8.toInt32)) (nar .byte ((((p1.toInt32).toUInt32 >>> ((0 : Int32) &&& 31).toUInt32).toInt32).toInt8.toInt32)) T217.heap n0 Z217 Vr217) hZ (hw _ (List.mem_of_getElem? (i := 59) rfl)) (hw _ (List.mem_of_getElem? (i := 58) rfl)) (by decide) (by decide)) (g := (mkF m 146 #[.val (.long p1), .second, .val (.int p2), .val (.int p3), .val (.ref b1), .val (.int (5 : Int32)), .val (.ref rr217)] [(.long p1), (.int p3), (.int (5 : Int32)), (.int (6 : Int32)), (.ref rr217)])) rfl (by rw [hml]; rfl) (argsL := [(.ref rr217), (.int (6 : Int32)), (.int (5 : Int32)), (.int p3), (.long p1)]) (rest := []) (lenOf own_pd9 rfl) rfl (by show 2 * 0 + _ ≤ _; exact Nat.le_of_eq rfl) (hb hby at_146) (fun _ _ => ⟨rfl, e243, (by decide : 3 + 0 ≤ _), (by decide : 74 + 0 ≤ _)⟩)
    dsimp only [Pt.U, Pt.locs, Pt.cells, Pt.slots] at X246 l246 y246 z246 st246 hQ246
    subst l246 y246 z246
    obtain ⟨rfl, N246q, e246⟩ := hQ246
    have N246 := Fr.app N243 N246q
    have k247 : ∀ t, Steps p.tables e below (T246.setTop (mkF m 149 #[.val (.long p1), .second, .val (.int p2), .val (.int p3), .val (.ref b1), .val (.int (5 : Int32)), .val (.ref rr217)] [(.int (own_vat6 (5 : Int32) p3 p1 (nar .byte (p3.toInt8.toInt32))))])) t → Steps p.tables e below (s₁.setTop (entryFrame m #[(.long p1), (.int p2), (.int p3)] maxLocals)) t := fun t k => k245 t (st246 t k)
    have k248 : ∀ t, Steps p.tables e below (T246.setTop (mkF m 160 #[.val (.long p1), .second, .val (.int p2), .val (.int p3), .val (.ref b1), .val (.int (5 : Int32)), .val (.ref rr217)] [(.long p1), (.int p3), (.int (5 : Int32)), (.int (7 : Int32)), (.ref rr217)])) t → Steps p.tables e below (s₁.setTop (entryFrame m #[(.long p1), (.int p2), (.int p3)] maxLocals)) t := by
      intro t k
      refine k247 t ?_
      show Steps p.tables e below (T246.setTop (mkF m 149 #[.val (.long p1), .second, .val (.int p2), .val (.int p3), .val (.ref b1), .val (.int (5 : Int32)), .val (.ref rr217)] [(.int (own_vat6 (5 : Int32) p3 p1 (nar .byte (p3.toInt8.toInt32))))])) _
      refine XS.ifNo X246.here hx rfl (hb hby at_149) rfl ((if0 _ _).trans (feq (own_t5_6 p1 p3)).1) ?_
      show Steps p.tables e below (T246.setTop (mkF m 152 #[.val (.long p1), .second, .val (.int p2), .val (.int p3), .val (.ref b1), .val (.int (5 : Int32)), .val (.ref rr217)] [])) _
      refine XS.aload X246.here hx rfl (hb hby at_152) rfl rfl ?_
      show Steps p.tables e below (T246.setTop (mkF m 154 #[.val (.long p1), .second, .val (.int p2), .val (.int p3), .val (.ref b1), .val (.int (5 : Int32)), .val (.ref rr217)] [(.ref rr217)])) _
      refine XS.bipush X246.here hx rfl (hb hby at_154) ?_
      show Steps p.tables e below (T246.setTop (mkF m 156 #[.val (.long p1), .second, .val (.int p2), .val (.int p3), .val (.ref b1), .val (.int (5 : Int32)), .val (.ref rr217)] [(.int (7 : Int32)), (.ref rr217)])) _
      refine XS.iload X246.here hx rfl (hb hby at_156) rfl ?_
      show Steps p.tables e below (T246.setTop (mkF m 158 #[.val (.long p1), .second, .val (.int p2), .val (.int p3), .val (.ref b1), .val (.int (5 : Int32)), .val (.ref rr217)] [(.int (5 : Int32)), (.int (7 : Int32)), (.ref rr217)])) _
      refine XS.iloadN X246.here hx rfl (hb hby at_158) rfl ?_
      show Steps p.tables e below (T246.setTop (mkF m 159 #[.val (.long p1), .second, .val (.int p2), .val (.int p3), .val (.ref b1), .val (.int (5 : Int32)), .val (.ref rr217)] [(.int p3), (.int (5 : Int32)), (.int (7 : Int32)), (.ref rr217)])) _
      refine XS.lloadN X246.here hx rfl (hb hby at_159) rfl ?_
      exact k
    obtain ⟨_, _, ⟨T249, L249, k249c, n249⟩, -, X249, ⟨Lc249, hQ249, l249, y249, z249⟩, st249⟩ := Jvm.LawKit.callS X246 hx (y := (⟨"com/example/reckoner/reckoner/BytesSetU2PinLaw", "at", "([BIIIJ)Z"⟩ : MethodName)) hown (mvT hZ (hw _ (List.mem_of_getElem? (i := 56) rfl))) (mvT hZ (hw _ (List.mem_of_getElem? (i := 57) rfl))) (mvT hZ (hw _ (List.mem_of_getElem? (i := 58) rfl))) (mvT hZ (hw _ (List.mem_of_getElem? (i := 59) rfl))) (by decide) (backOf (W := 0) (own_rmat7 l Z a0 hw [] rr217 (5 : Int32) p3 p1 rc217 (nar .byte ((((((p1.toUInt64 >>> ((32 : Int32) &&& 0x3f).toInt64.toUInt64).toInt64).toInt32).toUInt32 >>> ((24 : Int32) &&& 31).toUInt32).toInt32).toInt8.toInt32)) (nar .byte ((((((p1.toUInt64 >>> ((32 : Int32) &&& 0x3f).toInt64.toUInt64).toInt64).toInt32).toUInt32 >>> ((16 : Int32) &&& 31).toUInt32).toInt32).toInt8.toInt32)) (nar .byte ((((((p1.toUInt64 >>> ((32 : Int32) &&& 0x3f).toInt64.toUInt64).toInt64).toInt32).toUInt32 >>> ((8 : Int32) &&& 31).toUInt32).toInt32).toInt8.toInt32)) (nar .byte ((((((p1.toUInt64 >>> ((32 : Int32) &&& 0x3f).toInt64.toUInt64).toInt64).toInt32).toUInt32 >>> ((0 : Int32) &&& 31).toUInt32).toInt32).toInt8.toInt32)) (nar .byte ((((p1.toInt32).toUInt32 >>> ((24 : Int32) &&& 31).toUInt32).toInt32).toInt8.toInt32)) (nar .byte (((p3.toUInt32 >>> ((8 : Int32) &&& 31).toUInt32).toInt32).toInt8.toInt32)) (nar .byte (p3.toInt8.toInt32)) (nar .byte ((((p1.toInt32).toUInt32 >>> ((0 : Int32) &&& 31).toUInt32).toInt32).toInt8.toInt32)) T217.heap n0 Z217 Vr217) hZ (hw _ (List.mem_of_getElem? (i := 59) rfl)) (hw _ (List.mem_of_getElem? (i := 58) rfl)) (by decide) (by decide)) (g := (mkF m 160 #[.val (.long p1), .second, .val (.int p2), .val (.int p3), .val (.ref b1), .val (.int (5 : Int32)), .val (.ref rr217)] [(.long p1), (.int p3), (.int (5 : Int32)), (.int (7 : Int32)), (.ref rr217)])) rfl (by rw [hml]; rfl) (argsL := [(.ref rr217), (.int (7 : Int32)), (.int (5 : Int32)), (.int p3), (.long p1)]) (rest := []) (lenOf own_pd9 rfl) rfl (by show 2 * 0 + _ ≤ _; exact Nat.le_of_eq rfl) (hb hby at_160) (fun _ _ => ⟨rfl, e246, (by decide : 3 + 0 ≤ _), (by decide : 74 + 0 ≤ _)⟩)
    dsimp only [Pt.U, Pt.locs, Pt.cells, Pt.slots] at X249 l249 y249 z249 st249 hQ249
    subst l249 y249 z249
    obtain ⟨rfl, N249q, e249⟩ := hQ249
    have N249 := Fr.app N246 N249q
    have k250 : ∀ t, Steps p.tables e below (T249.setTop (mkF m 163 #[.val (.long p1), .second, .val (.int p2), .val (.int p3), .val (.ref b1), .val (.int (5 : Int32)), .val (.ref rr217)] [(.int (own_vat7 (5 : Int32) p3 p1 (nar .byte ((((p1.toInt32).toUInt32 >>> ((0 : Int32) &&& 31).toUInt32).toInt32).toInt8.toInt32))))])) t → Steps p.tables e below (s₁.setTop (entryFrame m #[(.long p1), (.int p2), (.int p3)] maxLocals)) t := fun t k => k248 t (st249 t k)
    have k251 : ∀ t, Steps p.tables e below (T249.setTop (mkF m 171 #[.val (.long p1), .second, .val (.int p2), .val (.int p3), .val (.ref b1), .val (.int (5 : Int32)), .val (.ref rr217)] [(.int (1 : Int32))])) t → Steps p.tables e below (s₁.setTop (entryFrame m #[(.long p1), (.int p2), (.int p3)] maxLocals)) t := by
      intro t k
      refine k250 t ?_
      show Steps p.tables e below (T249.setTop (mkF m 163 #[.val (.long p1), .second, .val (.int p2), .val (.int p3), .val (.ref b1), .val (.int (5 : Int32)), .val (.ref rr217)] [(.int (own_vat7 (5 : Int32) p3 p1 (nar .byte ((((p1.toInt32).toUInt32 >>> ((0 : Int32) &&& 31).toUInt32).toInt32).toInt8.toInt32))))])) _
      refine XS.ifNo X249.here hx rfl (hb hby at_163) rfl ((if0 _ _).trans (feq (own_t5_7 p1 p3)).1) ?_
      show Steps p.tables e below (T249.setTop (mkF m 166 #[.val (.long p1), .second, .val (.int p2), .val (.int p3), .val (.ref b1), .val (.int (5 : Int32)), .val (.ref rr217)] [])) _
      refine XS.iconst X249.here hx rfl (hb hby at_166) ?_
      show Steps p.tables e below (T249.setTop (mkF m 167 #[.val (.long p1), .second, .val (.int p2), .val (.int p3), .val (.ref b1), .val (.int (5 : Int32)), .val (.ref rr217)] [(.int (1 : Int32))])) _
      refine XS.goto X249.here hx rfl (pc0 := 167) (pc' := 171) rfl (hb hby at_167) (by decide) (by decide) ?_
      exact k
    obtain ⟨fs, hr, hrun, hended, hW, hsame⟩ := X249.leave (v := (some (.int (1 : Int32)))) (fun h => by rw [Bd.returns] at h; cases h)
    refine ⟨_, _, k251 _ ?_, hrun, hended, _, _, rfl, ?_, ⟨_, rfl⟩, hW, hsame.mono (by decide) (by decide)⟩
    · exact retN X249 hx (t := .boolean) Bd.returns (by simp) (hb hby at_171) hr
    · exact ⟨rfl, N249⟩
  · have k252 : ∀ t, Steps p.tables e below (T9.setTop (mkF m 25 #[.val (.long p1), .second, .val (.int p2), .val (.int p3), .val (.ref b1), .val (.int (6 : Int32)), .unset] [])) t → Steps p.tables e below (s₁.setTop (entryFrame m #[(.long p1), (.int p2), (.int p3)] maxLocals)) t := by have z := k11; rw [he] at z; exact z
    have k253 : ∀ t, Steps p.tables e below (T9.setTop (mkF m 30 #[.val (.long p1), .second, .val (.int p2), .val (.int p3), .val (.ref b1), .val (.int (6 : Int32)), .unset] [(.int p3), (.int (6 : Int32)), (.ref b1)])) t → Steps p.tables e below (s₁.setTop (entryFrame m #[(.long p1), (.int p2), (.int p3)] maxLocals)) t := by
      intro t k
      refine k252 t ?_
      show Steps p.tables e below (T9.setTop (mkF m 25 #[.val (.long p1), .second, .val (.int p2), .val (.int p3), .val (.ref b1), .val (.int (6 : Int32)), .unset] [])) _
      refine XS.aload X9.here hx rfl (hb hby at_25) rfl rfl ?_
      show Steps p.tables e below (T9.setTop (mkF m 27 #[.val (.long p1), .second, .val (.int p2), .val (.int p3), .val (.ref b1), .val (.int (6 : Int32)), .unset] [(.ref b1)])) _
      refine XS.iload X9.here hx rfl (hb hby at_27) rfl ?_
      show Steps p.tables e below (T9.setTop (mkF m 29 #[.val (.long p1), .second, .val (.int p2), .val (.int p3), .val (.ref b1), .val (.int (6 : Int32)), .unset] [(.int (6 : Int32)), (.ref b1)])) _
      refine XS.iloadN X9.here hx rfl (hb hby at_29) rfl ?_
      exact k
    obtain ⟨cq254, kq254, q254a, q254b, q254c⟩ := isOf hZ rfl Eq9
    obtain ⟨_, _, ⟨T254, L254, k254c, n254⟩, -, X254, ⟨Lc254, hQ254, l254, y254, z254⟩, st254⟩ := X9.virtualBack hx (y := (⟨"com/example/reckoner/reckoner/Bytes", "setU2", "(II)V"⟩ : MethodName)) (z := (⟨"com/example/reckoner/reckoner/Bytes", "setU2", "(II)V"⟩ : MethodName)) hown (mvT hZ (hw _ (List.mem_of_getElem? (i := 29) rfl))) (mvT hZ (hw _ (List.mem_of_getElem? (i := 30) rfl))) (notFace_of_selects (args := #[]) (mvT hZ (hw _ (List.mem_of_getElem? (i := 32) rfl)))) (mvT hZ (hw _ (List.mem_of_getElem? (i := 32) rfl))) (mvT hZ (hw _ (List.mem_of_getElem? (i := 31) rfl))) (by decide) (backOf (W := 0) (own_rmsu6 l Z a0 hw [] b1 p3 (8 : Int32) ar6 cc6 (nar .byte ((((((p1.toUInt64 >>> ((32 : Int32) &&& 0x3f).toInt64.toUInt64).toInt64).toInt32).toUInt32 >>> ((24 : Int32) &&& 31).toUInt32).toInt32).toInt8.toInt32)) (nar .byte ((((((p1.toUInt64 >>> ((32 : Int32) &&& 0x3f).toInt64.toUInt64).toInt64).toInt32).toUInt32 >>> ((16 : Int32) &&& 31).toUInt32).toInt32).toInt8.toInt32)) (nar .byte ((((((p1.toUInt64 >>> ((32 : Int32) &&& 0x3f).toInt64.toUInt64).toInt64).toInt32).toUInt32 >>> ((8 : Int32) &&& 31).toUInt32).toInt32).toInt8.toInt32)) (nar .byte ((((((p1.toUInt64 >>> ((32 : Int32) &&& 0x3f).toInt64.toUInt64).toInt64).toInt32).toUInt32 >>> ((0 : Int32) &&& 31).toUInt32).toInt32).toInt8.toInt32)) (nar .byte ((((p1.toInt32).toUInt32 >>> ((24 : Int32) &&& 31).toUInt32).toInt32).toInt8.toInt32)) (nar .byte ((((p1.toInt32).toUInt32 >>> ((16 : Int32) &&& 31).toUInt32).toInt32).toInt8.toInt32)) (nar .byte ((((p1.toInt32).toUInt32 >>> ((8 : Int32) &&& 31).toUInt32).toInt32).toInt8.toInt32)) (nar .byte ((((p1.toInt32).toUInt32 >>> ((0 : Int32) &&& 31).toUInt32).toInt32).toInt8.toInt32)) T9.heap n0 Z9 Eq9 Fa9 Fb9 Vq9 ge1 ge6 ne6x) hZ (hw _ (List.mem_of_getElem? (i := 33) rfl)) (hw _ (List.mem_of_getElem? (i := 2) rfl)) (by decide) (by decide)) q254a q254c (g := (mkF m 30 #[.val (.long p1), .second, .val (.int p2), .val (.int p3), .val (.ref b1), .val (.int (6 : Int32)), .unset] [(.int p3), (.int (6 : Int32)), (.ref b1)])) rfl (by rw [hml]; rfl) (Steps.refl _) (argsL := [(.int (6 : Int32)), (.int p3)]) (rest := []) (lenOf own_pd6 rfl) rfl (by show 2 * 0 + _ ≤ _; exact Nat.le_of_eq rfl) (hb hby at_30) (fun _ _ => ⟨rfl, rfl, (by decide : 2 + 0 ≤ _), (by decide : 66 + 0 ≤ _)⟩)
    dsimp only [Pt.U, Pt.locs, Pt.cells, Pt.slots] at X254 l254 y254 z254 st254 hQ254
    subst l254 y254 z254
    obtain ⟨rfl, N254q, Kq254, Eq254, Fa254, Fb254, Vq254⟩ := hQ254
    have N254 := Fr.app N9 N254q
    have Z254 : n0 ≤ T254.heap.size := Nat.le_trans Z9 Kq254.1
    have k255 : ∀ t, Steps p.tables e below (T254.setTop (mkF m 33 #[.val (.long p1), .second, .val (.int p2), .val (.int p3), .val (.ref b1), .val (.int (6 : Int32)), .unset] [])) t → Steps p.tables e below (s₁.setTop (entryFrame m #[(.long p1), (.int p2), (.int p3)] maxLocals)) t := fun t k => k253 t (st254.trans k)
    have k256 : ∀ t, Steps p.tables e below (T254.setTop (mkF m 35 #[.val (.long p1), .second, .val (.int p2), .val (.int p3), .val (.ref b1), .val (.int (6 : Int32)), .unset] [(.ref b1)])) t → Steps p.tables e below (s₁.setTop (entryFrame m #[(.long p1), (.int p2), (.int p3)] maxLocals)) t := by
      intro t k
      refine k255 t ?_
      show Steps p.tables e below (T254.setTop (mkF m 33 #[.val (.long p1), .second, .val (.int p2), .val (.int p3), .val (.ref b1), .val (.int (6 : Int32)), .unset] [])) _
      refine XS.aload X254.here hx rfl (hb hby at_33) rfl rfl ?_
      exact k
    obtain ⟨cq257, kq257, q257a, q257b, q257c⟩ := isOf hZ rfl Eq254
    obtain ⟨_, _, ⟨T257, L257, k257c, n257⟩, -, X257, ⟨Lc257, hQ257, l257, y257, z257⟩, st257⟩ := X254.virtualBack hx (y := (⟨"com/example/reckoner/reckoner/Bytes", "toArray", "()[B"⟩ : MethodName)) (z := (⟨"com/example/reckoner/reckoner/Bytes", "toArray", "()[B"⟩ : MethodName)) hown (mvT hZ (hw _ (List.mem_of_getElem? (i := 34) rfl))) (mvT hZ (hw _ (List.mem_of_getElem? (i := 35) rfl))) (notFace_of_selects (args := #[]) (mvT hZ (hw _ (List.mem_of_getElem? (i := 37) rfl)))) (mvT hZ (hw _ (List.mem_of_getElem? (i := 37) rfl))) (mvT hZ (hw _ (List.mem_of_getElem? (i := 36) rfl))) (by decide) (backOf (W := 0) (own_rmta l Z a0 hw [] b1 ar6 cc6 (nar .byte ((((((p1.toUInt64 >>> ((32 : Int32) &&& 0x3f).toInt64.toUInt64).toInt64).toInt32).toUInt32 >>> ((24 : Int32) &&& 31).toUInt32).toInt32).toInt8.toInt32)) (nar .byte ((((((p1.toUInt64 >>> ((32 : Int32) &&& 0x3f).toInt64.toUInt64).toInt64).toInt32).toUInt32 >>> ((16 : Int32) &&& 31).toUInt32).toInt32).toInt8.toInt32)) (nar .byte ((((((p1.toUInt64 >>> ((32 : Int32) &&& 0x3f).toInt64.toUInt64).toInt64).toInt32).toUInt32 >>> ((8 : Int32) &&& 31).toUInt32).toInt32).toInt8.toInt32)) (nar .byte ((((((p1.toUInt64 >>> ((32 : Int32) &&& 0x3f).toInt64.toUInt64).toInt64).toInt32).toUInt32 >>> ((0 : Int32) &&& 31).toUInt32).toInt32).toInt8.toInt32)) (nar .byte ((((p1.toInt32).toUInt32 >>> ((24 : Int32) &&& 31).toUInt32).toInt32).toInt8.toInt32)) (nar .byte ((((p1.toInt32).toUInt32 >>> ((16 : Int32) &&& 31).toUInt32).toInt32).toInt8.toInt32)) (nar .byte (((p3.toUInt32 >>> ((8 : Int32) &&& 31).toUInt32).toInt32).toInt8.toInt32)) (nar .byte (p3.toInt8.toInt32)) T254.heap n0 Z254 Fa254 Fb254 Vq254) hZ (hw _ (List.mem_of_getElem? (i := 38) rfl)) (hw _ (List.mem_of_getElem? (i := 2) rfl)) (by decide) (by decide)) q257a q257c (g := (mkF m 35 #[.val (.long p1), .second, .val (.int p2), .val (.int p3), .val (.ref b1), .val (.int (6 : Int32)), .unset] [(.ref b1)])) rfl (by rw [hml]; rfl) (Steps.refl _) (argsL := []) (rest := []) (lenOf own_pd7 rfl) rfl (by show 2 * 0 + _ ≤ _; exact Nat.le_of_eq rfl) (hb hby at_35) (fun _ _ => ⟨rfl, rfl, (by decide : 2 + 1 ≤ _), (by decide : 66 + 8 ≤ _)⟩)
    dsimp only [Pt.U, Pt.locs, Pt.cells, Pt.slots] at X257 l257 y257 z257 st257 hQ257
    subst l257 y257 z257
    obtain ⟨rr257, rc257, rfl, N257q, Kq257, Vr257⟩ := hQ257
    have N257 := Fr.app N254 N257q
    have f258 := Eq254.keep Kq257
    have f259 := Fa254.keep Kq257 List.not_mem_nil
    have f260 := Fb254.keep Kq257 List.not_mem_nil
    have f261 := Vq254.keep Kq257 List.not_mem_nil
    have Z257 : n0 ≤ T257.heap.size := Nat.le_trans Z254 Kq257.1
    have k262 : ∀ t, Steps p.tables e below (T257.setTop (mkF m 38 #[.val (.long p1), .second, .val (.int p2), .val (.int p3), .val (.ref b1), .val (.int (6 : Int32)), .unset] [(.ref rr257)])) t → Steps p.tables e below (s₁.setTop (entryFrame m #[(.long p1), (.int p2), (.int p3)] maxLocals)) t := fun t k => k256 t (st257.trans k)
    have k263 : ∀ t, Steps p.tables e below (T257.setTop (mkF m 42 #[.val (.long p1), .second, .val (.int p2), .val (.int p3), .val (.ref b1), .val (.int (6 : Int32)), .val (.ref rr257)] [(.ref b1)])) t → Steps p.tables e below (s₁.setTop (entryFrame m #[(.long p1), (.int p2), (.int p3)] maxLocals)) t := by
      intro t k
      refine k262 t ?_
      show Steps p.tables e below (T257.setTop (mkF m 38 #[.val (.long p1), .second, .val (.int p2), .val (.int p3), .val (.ref b1), .val (.int (6 : Int32)), .unset] [(.ref rr257)])) _
      refine XS.astore X257.here hx rfl (hb hby at_38) rfl rfl (l' := #[.val (.long p1), .second, .val (.int p2), .val (.int p3), .val (.ref b1), .val (.int (6 : Int32)), .val (.ref rr257)]) rfl ?_
      show Steps p.tables e below (T257.setTop (mkF m 40 #[.val (.long p1), .second, .val (.int p2), .val (.int p3), .val (.ref b1), .val (.int (6 : Int32)), .val (.ref rr257)] [])) _
      refine XS.aload X257.here hx rfl (hb hby at_40) rfl rfl ?_
      exact k
    obtain ⟨cq264, kq264, q264a, q264b, q264c⟩ := isOf hZ rfl f258
    obtain ⟨_, _, ⟨T264, L264, k264c, n264⟩, -, X264, ⟨Lc264, hQ264, l264, y264, z264⟩, st264⟩ := X257.virtualBack hx (y := (⟨"com/example/reckoner/reckoner/Bytes", "length", "()I"⟩ : MethodName)) (z := (⟨"com/example/reckoner/reckoner/Bytes", "length", "()I"⟩ : MethodName)) hown (mvT hZ (hw _ (List.mem_of_getElem? (i := 51) rfl))) (mvT hZ (hw _ (List.mem_of_getElem? (i := 52) rfl))) (notFace_of_selects (args := #[]) (mvT hZ (hw _ (List.mem_of_getElem? (i := 54) rfl)))) (mvT hZ (hw _ (List.mem_of_getElem? (i := 54) rfl))) (mvT hZ (hw _ (List.mem_of_getElem? (i := 53) rfl))) (by decide) (backOf (W := 0) (own_rmln l Z a0 hw [] b1 (8 : Int32) T257.heap n0 Z257 f260) hZ (hw _ (List.mem_of_getElem? (i := 55) rfl)) (hw _ (List.mem_of_getElem? (i := 2) rfl)) (by decide) (by decide)) q264a q264c (g := (mkF m 42 #[.val (.long p1), .second, .val (.int p2), .val (.int p3), .val (.ref b1), .val (.int (6 : Int32)), .val (.ref rr257)] [(.ref b1)])) rfl (by rw [hml]; rfl) (Steps.refl _) (argsL := []) (rest := []) (lenOf own_pd8 rfl) rfl (by show 2 * 0 + _ ≤ _; exact Nat.le_of_eq rfl) (hb hby at_42) (fun _ _ => ⟨rfl, rfl, (by decide : 3 + 0 ≤ _), (by decide : 74 + 0 ≤ _)⟩)
    dsimp only [Pt.U, Pt.locs, Pt.cells, Pt.slots] at X264 l264 y264 z264 st264 hQ264
    subst l264 y264 z264
    obtain ⟨hr264, N264q, e264⟩ := hQ264
    rw [show (own_vln (8 : Int32)) = (8 : Int32) from rfl] at hr264
    subst hr264
    have N264 := Fr.app N257 N264q
    have k265 : ∀ t, Steps p.tables e below (T264.setTop (mkF m 45 #[.val (.long p1), .second, .val (.int p2), .val (.int p3), .val (.ref b1), .val (.int (6 : Int32)), .val (.ref rr257)] [(.int (8 : Int32))])) t → Steps p.tables e below (s₁.setTop (entryFrame m #[(.long p1), (.int p2), (.int p3)] maxLocals)) t := fun t k => k263 t (st264.trans k)
    obtain ⟨cl266, Ar266, qa266, Sa266, Na266, Ha266, Ga266⟩ := id Vr257
    have k267 : ∀ t, Steps p.tables e below (T264.setTop (mkF m 67 #[.val (.long p1), .second, .val (.int p2), .val (.int p3), .val (.ref b1), .val (.int (6 : Int32)), .val (.ref rr257)] [(.long p1), (.int p3), (.int (6 : Int32)), (.int (0 : Int32)), (.ref rr257)])) t → Steps p.tables e below (s₁.setTop (entryFrame m #[(.long p1), (.int p2), (.int p3)] maxLocals)) t := by
      intro t k
      refine k265 t ?_
      show Steps p.tables e below (T264.setTop (mkF m 45 #[.val (.long p1), .second, .val (.int p2), .val (.int p3), .val (.ref b1), .val (.int (6 : Int32)), .val (.ref rr257)] [(.int (8 : Int32))])) _
      refine XS.bipush X264.here hx rfl (hb hby at_45) ?_
      show Steps p.tables e below (T264.setTop (mkF m 47 #[.val (.long p1), .second, .val (.int p2), .val (.int p3), .val (.ref b1), .val (.int (6 : Int32)), .val (.ref rr257)] [(.int (8 : Int32)), (.int (8 : Int32))])) _
      refine XS.icmpNo X264.here hx rfl (hb hby at_47) rfl (teq (rfl : (8 : Int32) = (8 : Int32))).2 ?_
      show Steps p.tables e below (T264.setTop (mkF m 50 #[.val (.long p1), .second, .val (.int p2), .val (.int p3), .val (.ref b1), .val (.int (6 : Int32)), .val (.ref rr257)] [])) _
      refine XS.aload X264.here hx rfl (hb hby at_50) rfl rfl ?_
      show Steps p.tables e below (T264.setTop (mkF m 52 #[.val (.long p1), .second, .val (.int p2), .val (.int p3), .val (.ref b1), .val (.int (6 : Int32)), .val (.ref rr257)] [(.ref rr257)])) _
      refine X264.arraylength hx (by rw [e264]; exact Ar266.1) (State.isArrayOf_alike hZ.alike Ar266.2.1) (g := (mkF m 52 #[.val (.long p1), .second, .val (.int p2), .val (.int p3), .val (.ref b1), .val (.int (6 : Int32)), .val (.ref rr257)] [(.ref rr257)])) rfl rfl (hb hby at_52) _ ?_
      rw [len_of Sa266 Na266]
      show Steps p.tables e below (T264.setTop (mkF m 53 #[.val (.long p1), .second, .val (.int p2), .val (.int p3), .val (.ref b1), .val (.int (6 : Int32)), .val (.ref rr257)] [(.int (8 : Int32))])) _
      refine XS.bipush X264.here hx rfl (hb hby at_53) ?_
      show Steps p.tables e below (T264.setTop (mkF m 55 #[.val (.long p1), .second, .val (.int p2), .val (.int p3), .val (.ref b1), .val (.int (6 : Int32)), .val (.ref rr257)] [(.int (8 : Int32)), (.int (8 : Int32))])) _
      refine XS.icmpYes X264.here hx rfl (pc0 := 55) (pc' := 60) rfl (hb hby at_55) rfl (teq (rfl : (8 : Int32) = (8 : Int32))).1 (by decide) (by decide) ?_
      show Steps p.tables e below (T264.setTop (mkF m 60 #[.val (.long p1), .second, .val (.int p2), .val (.int p3), .val (.ref b1), .val (.int (6 : Int32)), .val (.ref rr257)] [])) _
      refine XS.aload X264.here hx rfl (hb hby at_60) rfl rfl ?_
      show Steps p.tables e below (T264.setTop (mkF m 62 #[.val (.long p1), .second, .val (.int p2), .val (.int p3), .val (.ref b1), .val (.int (6 : Int32)), .val (.ref rr257)] [(.ref rr257)])) _
      refine XS.iconst X264.here hx rfl (hb hby at_62) ?_
      show Steps p.tables e below (T264.setTop (mkF m 63 #[.val (.long p1), .second, .val (.int p2), .val (.int p3), .val (.ref b1), .val (.int (6 : Int32)), .val (.ref rr257)] [(.int (0 : Int32)), (.ref rr257)])) _
      refine XS.iload X264.here hx rfl (hb hby at_63) rfl ?_
      show Steps p.tables e below (T264.setTop (mkF m 65 #[.val (.long p1), .second, .val (.int p2), .val (.int p3), .val (.ref b1), .val (.int (6 : Int32)), .val (.ref rr257)] [(.int (6 : Int32)), (.int (0 : Int32)), (.ref rr257)])) _
      refine XS.iloadN X264.here hx rfl (hb hby at_65) rfl ?_
      show Steps p.tables e below (T264.setTop (mkF m 66 #[.val (.long p1), .second, .val (.int p2), .val (.int p3), .val (.ref b1), .val (.int (6 : Int32)), .val (.ref rr257)] [(.int p3), (.int (6 : Int32)), (.int (0 : Int32)), (.ref rr257)])) _
      refine XS.lloadN X264.here hx rfl (hb hby at_66) rfl ?_
      exact k
    obtain ⟨_, _, ⟨T268, L268, k268c, n268⟩, -, X268, ⟨Lc268, hQ268, l268, y268, z268⟩, st268⟩ := Jvm.LawKit.callS X264 hx (y := (⟨"com/example/reckoner/reckoner/BytesSetU2PinLaw", "at", "([BIIIJ)Z"⟩ : MethodName)) hown (mvT hZ (hw _ (List.mem_of_getElem? (i := 56) rfl))) (mvT hZ (hw _ (List.mem_of_getElem? (i := 57) rfl))) (mvT hZ (hw _ (List.mem_of_getElem? (i := 58) rfl))) (mvT hZ (hw _ (List.mem_of_getElem? (i := 59) rfl))) (by decide) (backOf (W := 0) (own_rmat0 l Z a0 hw [] rr257 (6 : Int32) p3 p1 rc257 (nar .byte ((((((p1.toUInt64 >>> ((32 : Int32) &&& 0x3f).toInt64.toUInt64).toInt64).toInt32).toUInt32 >>> ((24 : Int32) &&& 31).toUInt32).toInt32).toInt8.toInt32)) (nar .byte ((((((p1.toUInt64 >>> ((32 : Int32) &&& 0x3f).toInt64.toUInt64).toInt64).toInt32).toUInt32 >>> ((16 : Int32) &&& 31).toUInt32).toInt32).toInt8.toInt32)) (nar .byte ((((((p1.toUInt64 >>> ((32 : Int32) &&& 0x3f).toInt64.toUInt64).toInt64).toInt32).toUInt32 >>> ((8 : Int32) &&& 31).toUInt32).toInt32).toInt8.toInt32)) (nar .byte ((((((p1.toUInt64 >>> ((32 : Int32) &&& 0x3f).toInt64.toUInt64).toInt64).toInt32).toUInt32 >>> ((0 : Int32) &&& 31).toUInt32).toInt32).toInt8.toInt32)) (nar .byte ((((p1.toInt32).toUInt32 >>> ((24 : Int32) &&& 31).toUInt32).toInt32).toInt8.toInt32)) (nar .byte ((((p1.toInt32).toUInt32 >>> ((16 : Int32) &&& 31).toUInt32).toInt32).toInt8.toInt32)) (nar .byte (((p3.toUInt32 >>> ((8 : Int32) &&& 31).toUInt32).toInt32).toInt8.toInt32)) (nar .byte (p3.toInt8.toInt32)) T257.heap n0 Z257 Vr257) hZ (hw _ (List.mem_of_getElem? (i := 59) rfl)) (hw _ (List.mem_of_getElem? (i := 58) rfl)) (by decide) (by decide)) (g := (mkF m 67 #[.val (.long p1), .second, .val (.int p2), .val (.int p3), .val (.ref b1), .val (.int (6 : Int32)), .val (.ref rr257)] [(.long p1), (.int p3), (.int (6 : Int32)), (.int (0 : Int32)), (.ref rr257)])) rfl (by rw [hml]; rfl) (argsL := [(.ref rr257), (.int (0 : Int32)), (.int (6 : Int32)), (.int p3), (.long p1)]) (rest := []) (lenOf own_pd9 rfl) rfl (by show 2 * 0 + _ ≤ _; exact Nat.le_of_eq rfl) (hb hby at_67) (fun _ _ => ⟨rfl, e264, (by decide : 3 + 0 ≤ _), (by decide : 74 + 0 ≤ _)⟩)
    dsimp only [Pt.U, Pt.locs, Pt.cells, Pt.slots] at X268 l268 y268 z268 st268 hQ268
    subst l268 y268 z268
    obtain ⟨rfl, N268q, e268⟩ := hQ268
    have N268 := Fr.app N264 N268q
    have k269 : ∀ t, Steps p.tables e below (T268.setTop (mkF m 70 #[.val (.long p1), .second, .val (.int p2), .val (.int p3), .val (.ref b1), .val (.int (6 : Int32)), .val (.ref rr257)] [(.int (own_vat0 (6 : Int32) p3 p1 (nar .byte ((((((p1.toUInt64 >>> ((32 : Int32) &&& 0x3f).toInt64.toUInt64).toInt64).toInt32).toUInt32 >>> ((24 : Int32) &&& 31).toUInt32).toInt32).toInt8.toInt32))))])) t → Steps p.tables e below (s₁.setTop (entryFrame m #[(.long p1), (.int p2), (.int p3)] maxLocals)) t := fun t k => k267 t (st268 t k)
    have k270 : ∀ t, Steps p.tables e below (T268.setTop (mkF m 80 #[.val (.long p1), .second, .val (.int p2), .val (.int p3), .val (.ref b1), .val (.int (6 : Int32)), .val (.ref rr257)] [(.long p1), (.int p3), (.int (6 : Int32)), (.int (1 : Int32)), (.ref rr257)])) t → Steps p.tables e below (s₁.setTop (entryFrame m #[(.long p1), (.int p2), (.int p3)] maxLocals)) t := by
      intro t k
      refine k269 t ?_
      show Steps p.tables e below (T268.setTop (mkF m 70 #[.val (.long p1), .second, .val (.int p2), .val (.int p3), .val (.ref b1), .val (.int (6 : Int32)), .val (.ref rr257)] [(.int (own_vat0 (6 : Int32) p3 p1 (nar .byte ((((((p1.toUInt64 >>> ((32 : Int32) &&& 0x3f).toInt64.toUInt64).toInt64).toInt32).toUInt32 >>> ((24 : Int32) &&& 31).toUInt32).toInt32).toInt8.toInt32))))])) _
      refine XS.ifNo X268.here hx rfl (hb hby at_70) rfl ((if0 _ _).trans (feq (own_t6_0 p1 p3)).1) ?_
      show Steps p.tables e below (T268.setTop (mkF m 73 #[.val (.long p1), .second, .val (.int p2), .val (.int p3), .val (.ref b1), .val (.int (6 : Int32)), .val (.ref rr257)] [])) _
      refine XS.aload X268.here hx rfl (hb hby at_73) rfl rfl ?_
      show Steps p.tables e below (T268.setTop (mkF m 75 #[.val (.long p1), .second, .val (.int p2), .val (.int p3), .val (.ref b1), .val (.int (6 : Int32)), .val (.ref rr257)] [(.ref rr257)])) _
      refine XS.iconst X268.here hx rfl (hb hby at_75) ?_
      show Steps p.tables e below (T268.setTop (mkF m 76 #[.val (.long p1), .second, .val (.int p2), .val (.int p3), .val (.ref b1), .val (.int (6 : Int32)), .val (.ref rr257)] [(.int (1 : Int32)), (.ref rr257)])) _
      refine XS.iload X268.here hx rfl (hb hby at_76) rfl ?_
      show Steps p.tables e below (T268.setTop (mkF m 78 #[.val (.long p1), .second, .val (.int p2), .val (.int p3), .val (.ref b1), .val (.int (6 : Int32)), .val (.ref rr257)] [(.int (6 : Int32)), (.int (1 : Int32)), (.ref rr257)])) _
      refine XS.iloadN X268.here hx rfl (hb hby at_78) rfl ?_
      show Steps p.tables e below (T268.setTop (mkF m 79 #[.val (.long p1), .second, .val (.int p2), .val (.int p3), .val (.ref b1), .val (.int (6 : Int32)), .val (.ref rr257)] [(.int p3), (.int (6 : Int32)), (.int (1 : Int32)), (.ref rr257)])) _
      refine XS.lloadN X268.here hx rfl (hb hby at_79) rfl ?_
      exact k
    obtain ⟨_, _, ⟨T271, L271, k271c, n271⟩, -, X271, ⟨Lc271, hQ271, l271, y271, z271⟩, st271⟩ := Jvm.LawKit.callS X268 hx (y := (⟨"com/example/reckoner/reckoner/BytesSetU2PinLaw", "at", "([BIIIJ)Z"⟩ : MethodName)) hown (mvT hZ (hw _ (List.mem_of_getElem? (i := 56) rfl))) (mvT hZ (hw _ (List.mem_of_getElem? (i := 57) rfl))) (mvT hZ (hw _ (List.mem_of_getElem? (i := 58) rfl))) (mvT hZ (hw _ (List.mem_of_getElem? (i := 59) rfl))) (by decide) (backOf (W := 0) (own_rmat1 l Z a0 hw [] rr257 (6 : Int32) p3 p1 rc257 (nar .byte ((((((p1.toUInt64 >>> ((32 : Int32) &&& 0x3f).toInt64.toUInt64).toInt64).toInt32).toUInt32 >>> ((24 : Int32) &&& 31).toUInt32).toInt32).toInt8.toInt32)) (nar .byte ((((((p1.toUInt64 >>> ((32 : Int32) &&& 0x3f).toInt64.toUInt64).toInt64).toInt32).toUInt32 >>> ((16 : Int32) &&& 31).toUInt32).toInt32).toInt8.toInt32)) (nar .byte ((((((p1.toUInt64 >>> ((32 : Int32) &&& 0x3f).toInt64.toUInt64).toInt64).toInt32).toUInt32 >>> ((8 : Int32) &&& 31).toUInt32).toInt32).toInt8.toInt32)) (nar .byte ((((((p1.toUInt64 >>> ((32 : Int32) &&& 0x3f).toInt64.toUInt64).toInt64).toInt32).toUInt32 >>> ((0 : Int32) &&& 31).toUInt32).toInt32).toInt8.toInt32)) (nar .byte ((((p1.toInt32).toUInt32 >>> ((24 : Int32) &&& 31).toUInt32).toInt32).toInt8.toInt32)) (nar .byte ((((p1.toInt32).toUInt32 >>> ((16 : Int32) &&& 31).toUInt32).toInt32).toInt8.toInt32)) (nar .byte (((p3.toUInt32 >>> ((8 : Int32) &&& 31).toUInt32).toInt32).toInt8.toInt32)) (nar .byte (p3.toInt8.toInt32)) T257.heap n0 Z257 Vr257) hZ (hw _ (List.mem_of_getElem? (i := 59) rfl)) (hw _ (List.mem_of_getElem? (i := 58) rfl)) (by decide) (by decide)) (g := (mkF m 80 #[.val (.long p1), .second, .val (.int p2), .val (.int p3), .val (.ref b1), .val (.int (6 : Int32)), .val (.ref rr257)] [(.long p1), (.int p3), (.int (6 : Int32)), (.int (1 : Int32)), (.ref rr257)])) rfl (by rw [hml]; rfl) (argsL := [(.ref rr257), (.int (1 : Int32)), (.int (6 : Int32)), (.int p3), (.long p1)]) (rest := []) (lenOf own_pd9 rfl) rfl (by show 2 * 0 + _ ≤ _; exact Nat.le_of_eq rfl) (hb hby at_80) (fun _ _ => ⟨rfl, e268, (by decide : 3 + 0 ≤ _), (by decide : 74 + 0 ≤ _)⟩)
    dsimp only [Pt.U, Pt.locs, Pt.cells, Pt.slots] at X271 l271 y271 z271 st271 hQ271
    subst l271 y271 z271
    obtain ⟨rfl, N271q, e271⟩ := hQ271
    have N271 := Fr.app N268 N271q
    have k272 : ∀ t, Steps p.tables e below (T271.setTop (mkF m 83 #[.val (.long p1), .second, .val (.int p2), .val (.int p3), .val (.ref b1), .val (.int (6 : Int32)), .val (.ref rr257)] [(.int (own_vat1 (6 : Int32) p3 p1 (nar .byte ((((((p1.toUInt64 >>> ((32 : Int32) &&& 0x3f).toInt64.toUInt64).toInt64).toInt32).toUInt32 >>> ((16 : Int32) &&& 31).toUInt32).toInt32).toInt8.toInt32))))])) t → Steps p.tables e below (s₁.setTop (entryFrame m #[(.long p1), (.int p2), (.int p3)] maxLocals)) t := fun t k => k270 t (st271 t k)
    have k273 : ∀ t, Steps p.tables e below (T271.setTop (mkF m 93 #[.val (.long p1), .second, .val (.int p2), .val (.int p3), .val (.ref b1), .val (.int (6 : Int32)), .val (.ref rr257)] [(.long p1), (.int p3), (.int (6 : Int32)), (.int (2 : Int32)), (.ref rr257)])) t → Steps p.tables e below (s₁.setTop (entryFrame m #[(.long p1), (.int p2), (.int p3)] maxLocals)) t := by
      intro t k
      refine k272 t ?_
      show Steps p.tables e below (T271.setTop (mkF m 83 #[.val (.long p1), .second, .val (.int p2), .val (.int p3), .val (.ref b1), .val (.int (6 : Int32)), .val (.ref rr257)] [(.int (own_vat1 (6 : Int32) p3 p1 (nar .byte ((((((p1.toUInt64 >>> ((32 : Int32) &&& 0x3f).toInt64.toUInt64).toInt64).toInt32).toUInt32 >>> ((16 : Int32) &&& 31).toUInt32).toInt32).toInt8.toInt32))))])) _
      refine XS.ifNo X271.here hx rfl (hb hby at_83) rfl ((if0 _ _).trans (feq (own_t6_1 p1 p3)).1) ?_
      show Steps p.tables e below (T271.setTop (mkF m 86 #[.val (.long p1), .second, .val (.int p2), .val (.int p3), .val (.ref b1), .val (.int (6 : Int32)), .val (.ref rr257)] [])) _
      refine XS.aload X271.here hx rfl (hb hby at_86) rfl rfl ?_
      show Steps p.tables e below (T271.setTop (mkF m 88 #[.val (.long p1), .second, .val (.int p2), .val (.int p3), .val (.ref b1), .val (.int (6 : Int32)), .val (.ref rr257)] [(.ref rr257)])) _
      refine XS.iconst X271.here hx rfl (hb hby at_88) ?_
      show Steps p.tables e below (T271.setTop (mkF m 89 #[.val (.long p1), .second, .val (.int p2), .val (.int p3), .val (.ref b1), .val (.int (6 : Int32)), .val (.ref rr257)] [(.int (2 : Int32)), (.ref rr257)])) _
      refine XS.iload X271.here hx rfl (hb hby at_89) rfl ?_
      show Steps p.tables e below (T271.setTop (mkF m 91 #[.val (.long p1), .second, .val (.int p2), .val (.int p3), .val (.ref b1), .val (.int (6 : Int32)), .val (.ref rr257)] [(.int (6 : Int32)), (.int (2 : Int32)), (.ref rr257)])) _
      refine XS.iloadN X271.here hx rfl (hb hby at_91) rfl ?_
      show Steps p.tables e below (T271.setTop (mkF m 92 #[.val (.long p1), .second, .val (.int p2), .val (.int p3), .val (.ref b1), .val (.int (6 : Int32)), .val (.ref rr257)] [(.int p3), (.int (6 : Int32)), (.int (2 : Int32)), (.ref rr257)])) _
      refine XS.lloadN X271.here hx rfl (hb hby at_92) rfl ?_
      exact k
    obtain ⟨_, _, ⟨T274, L274, k274c, n274⟩, -, X274, ⟨Lc274, hQ274, l274, y274, z274⟩, st274⟩ := Jvm.LawKit.callS X271 hx (y := (⟨"com/example/reckoner/reckoner/BytesSetU2PinLaw", "at", "([BIIIJ)Z"⟩ : MethodName)) hown (mvT hZ (hw _ (List.mem_of_getElem? (i := 56) rfl))) (mvT hZ (hw _ (List.mem_of_getElem? (i := 57) rfl))) (mvT hZ (hw _ (List.mem_of_getElem? (i := 58) rfl))) (mvT hZ (hw _ (List.mem_of_getElem? (i := 59) rfl))) (by decide) (backOf (W := 0) (own_rmat2 l Z a0 hw [] rr257 (6 : Int32) p3 p1 rc257 (nar .byte ((((((p1.toUInt64 >>> ((32 : Int32) &&& 0x3f).toInt64.toUInt64).toInt64).toInt32).toUInt32 >>> ((24 : Int32) &&& 31).toUInt32).toInt32).toInt8.toInt32)) (nar .byte ((((((p1.toUInt64 >>> ((32 : Int32) &&& 0x3f).toInt64.toUInt64).toInt64).toInt32).toUInt32 >>> ((16 : Int32) &&& 31).toUInt32).toInt32).toInt8.toInt32)) (nar .byte ((((((p1.toUInt64 >>> ((32 : Int32) &&& 0x3f).toInt64.toUInt64).toInt64).toInt32).toUInt32 >>> ((8 : Int32) &&& 31).toUInt32).toInt32).toInt8.toInt32)) (nar .byte ((((((p1.toUInt64 >>> ((32 : Int32) &&& 0x3f).toInt64.toUInt64).toInt64).toInt32).toUInt32 >>> ((0 : Int32) &&& 31).toUInt32).toInt32).toInt8.toInt32)) (nar .byte ((((p1.toInt32).toUInt32 >>> ((24 : Int32) &&& 31).toUInt32).toInt32).toInt8.toInt32)) (nar .byte ((((p1.toInt32).toUInt32 >>> ((16 : Int32) &&& 31).toUInt32).toInt32).toInt8.toInt32)) (nar .byte (((p3.toUInt32 >>> ((8 : Int32) &&& 31).toUInt32).toInt32).toInt8.toInt32)) (nar .byte (p3.toInt8.toInt32)) T257.heap n0 Z257 Vr257) hZ (hw _ (List.mem_of_getElem? (i := 59) rfl)) (hw _ (List.mem_of_getElem? (i := 58) rfl)) (by decide) (by decide)) (g := (mkF m 93 #[.val (.long p1), .second, .val (.int p2), .val (.int p3), .val (.ref b1), .val (.int (6 : Int32)), .val (.ref rr257)] [(.long p1), (.int p3), (.int (6 : Int32)), (.int (2 : Int32)), (.ref rr257)])) rfl (by rw [hml]; rfl) (argsL := [(.ref rr257), (.int (2 : Int32)), (.int (6 : Int32)), (.int p3), (.long p1)]) (rest := []) (lenOf own_pd9 rfl) rfl (by show 2 * 0 + _ ≤ _; exact Nat.le_of_eq rfl) (hb hby at_93) (fun _ _ => ⟨rfl, e271, (by decide : 3 + 0 ≤ _), (by decide : 74 + 0 ≤ _)⟩)
    dsimp only [Pt.U, Pt.locs, Pt.cells, Pt.slots] at X274 l274 y274 z274 st274 hQ274
    subst l274 y274 z274
    obtain ⟨rfl, N274q, e274⟩ := hQ274
    have N274 := Fr.app N271 N274q
    have k275 : ∀ t, Steps p.tables e below (T274.setTop (mkF m 96 #[.val (.long p1), .second, .val (.int p2), .val (.int p3), .val (.ref b1), .val (.int (6 : Int32)), .val (.ref rr257)] [(.int (own_vat2 (6 : Int32) p3 p1 (nar .byte ((((((p1.toUInt64 >>> ((32 : Int32) &&& 0x3f).toInt64.toUInt64).toInt64).toInt32).toUInt32 >>> ((8 : Int32) &&& 31).toUInt32).toInt32).toInt8.toInt32))))])) t → Steps p.tables e below (s₁.setTop (entryFrame m #[(.long p1), (.int p2), (.int p3)] maxLocals)) t := fun t k => k273 t (st274 t k)
    have k276 : ∀ t, Steps p.tables e below (T274.setTop (mkF m 106 #[.val (.long p1), .second, .val (.int p2), .val (.int p3), .val (.ref b1), .val (.int (6 : Int32)), .val (.ref rr257)] [(.long p1), (.int p3), (.int (6 : Int32)), (.int (3 : Int32)), (.ref rr257)])) t → Steps p.tables e below (s₁.setTop (entryFrame m #[(.long p1), (.int p2), (.int p3)] maxLocals)) t := by
      intro t k
      refine k275 t ?_
      show Steps p.tables e below (T274.setTop (mkF m 96 #[.val (.long p1), .second, .val (.int p2), .val (.int p3), .val (.ref b1), .val (.int (6 : Int32)), .val (.ref rr257)] [(.int (own_vat2 (6 : Int32) p3 p1 (nar .byte ((((((p1.toUInt64 >>> ((32 : Int32) &&& 0x3f).toInt64.toUInt64).toInt64).toInt32).toUInt32 >>> ((8 : Int32) &&& 31).toUInt32).toInt32).toInt8.toInt32))))])) _
      refine XS.ifNo X274.here hx rfl (hb hby at_96) rfl ((if0 _ _).trans (feq (own_t6_2 p1 p3)).1) ?_
      show Steps p.tables e below (T274.setTop (mkF m 99 #[.val (.long p1), .second, .val (.int p2), .val (.int p3), .val (.ref b1), .val (.int (6 : Int32)), .val (.ref rr257)] [])) _
      refine XS.aload X274.here hx rfl (hb hby at_99) rfl rfl ?_
      show Steps p.tables e below (T274.setTop (mkF m 101 #[.val (.long p1), .second, .val (.int p2), .val (.int p3), .val (.ref b1), .val (.int (6 : Int32)), .val (.ref rr257)] [(.ref rr257)])) _
      refine XS.iconst X274.here hx rfl (hb hby at_101) ?_
      show Steps p.tables e below (T274.setTop (mkF m 102 #[.val (.long p1), .second, .val (.int p2), .val (.int p3), .val (.ref b1), .val (.int (6 : Int32)), .val (.ref rr257)] [(.int (3 : Int32)), (.ref rr257)])) _
      refine XS.iload X274.here hx rfl (hb hby at_102) rfl ?_
      show Steps p.tables e below (T274.setTop (mkF m 104 #[.val (.long p1), .second, .val (.int p2), .val (.int p3), .val (.ref b1), .val (.int (6 : Int32)), .val (.ref rr257)] [(.int (6 : Int32)), (.int (3 : Int32)), (.ref rr257)])) _
      refine XS.iloadN X274.here hx rfl (hb hby at_104) rfl ?_
      show Steps p.tables e below (T274.setTop (mkF m 105 #[.val (.long p1), .second, .val (.int p2), .val (.int p3), .val (.ref b1), .val (.int (6 : Int32)), .val (.ref rr257)] [(.int p3), (.int (6 : Int32)), (.int (3 : Int32)), (.ref rr257)])) _
      refine XS.lloadN X274.here hx rfl (hb hby at_105) rfl ?_
      exact k
    obtain ⟨_, _, ⟨T277, L277, k277c, n277⟩, -, X277, ⟨Lc277, hQ277, l277, y277, z277⟩, st277⟩ := Jvm.LawKit.callS X274 hx (y := (⟨"com/example/reckoner/reckoner/BytesSetU2PinLaw", "at", "([BIIIJ)Z"⟩ : MethodName)) hown (mvT hZ (hw _ (List.mem_of_getElem? (i := 56) rfl))) (mvT hZ (hw _ (List.mem_of_getElem? (i := 57) rfl))) (mvT hZ (hw _ (List.mem_of_getElem? (i := 58) rfl))) (mvT hZ (hw _ (List.mem_of_getElem? (i := 59) rfl))) (by decide) (backOf (W := 0) (own_rmat3 l Z a0 hw [] rr257 (6 : Int32) p3 p1 rc257 (nar .byte ((((((p1.toUInt64 >>> ((32 : Int32) &&& 0x3f).toInt64.toUInt64).toInt64).toInt32).toUInt32 >>> ((24 : Int32) &&& 31).toUInt32).toInt32).toInt8.toInt32)) (nar .byte ((((((p1.toUInt64 >>> ((32 : Int32) &&& 0x3f).toInt64.toUInt64).toInt64).toInt32).toUInt32 >>> ((16 : Int32) &&& 31).toUInt32).toInt32).toInt8.toInt32)) (nar .byte ((((((p1.toUInt64 >>> ((32 : Int32) &&& 0x3f).toInt64.toUInt64).toInt64).toInt32).toUInt32 >>> ((8 : Int32) &&& 31).toUInt32).toInt32).toInt8.toInt32)) (nar .byte ((((((p1.toUInt64 >>> ((32 : Int32) &&& 0x3f).toInt64.toUInt64).toInt64).toInt32).toUInt32 >>> ((0 : Int32) &&& 31).toUInt32).toInt32).toInt8.toInt32)) (nar .byte ((((p1.toInt32).toUInt32 >>> ((24 : Int32) &&& 31).toUInt32).toInt32).toInt8.toInt32)) (nar .byte ((((p1.toInt32).toUInt32 >>> ((16 : Int32) &&& 31).toUInt32).toInt32).toInt8.toInt32)) (nar .byte (((p3.toUInt32 >>> ((8 : Int32) &&& 31).toUInt32).toInt32).toInt8.toInt32)) (nar .byte (p3.toInt8.toInt32)) T257.heap n0 Z257 Vr257) hZ (hw _ (List.mem_of_getElem? (i := 59) rfl)) (hw _ (List.mem_of_getElem? (i := 58) rfl)) (by decide) (by decide)) (g := (mkF m 106 #[.val (.long p1), .second, .val (.int p2), .val (.int p3), .val (.ref b1), .val (.int (6 : Int32)), .val (.ref rr257)] [(.long p1), (.int p3), (.int (6 : Int32)), (.int (3 : Int32)), (.ref rr257)])) rfl (by rw [hml]; rfl) (argsL := [(.ref rr257), (.int (3 : Int32)), (.int (6 : Int32)), (.int p3), (.long p1)]) (rest := []) (lenOf own_pd9 rfl) rfl (by show 2 * 0 + _ ≤ _; exact Nat.le_of_eq rfl) (hb hby at_106) (fun _ _ => ⟨rfl, e274, (by decide : 3 + 0 ≤ _), (by decide : 74 + 0 ≤ _)⟩)
    dsimp only [Pt.U, Pt.locs, Pt.cells, Pt.slots] at X277 l277 y277 z277 st277 hQ277
    subst l277 y277 z277
    obtain ⟨rfl, N277q, e277⟩ := hQ277
    have N277 := Fr.app N274 N277q
    have k278 : ∀ t, Steps p.tables e below (T277.setTop (mkF m 109 #[.val (.long p1), .second, .val (.int p2), .val (.int p3), .val (.ref b1), .val (.int (6 : Int32)), .val (.ref rr257)] [(.int (own_vat3 (6 : Int32) p3 p1 (nar .byte ((((((p1.toUInt64 >>> ((32 : Int32) &&& 0x3f).toInt64.toUInt64).toInt64).toInt32).toUInt32 >>> ((0 : Int32) &&& 31).toUInt32).toInt32).toInt8.toInt32))))])) t → Steps p.tables e below (s₁.setTop (entryFrame m #[(.long p1), (.int p2), (.int p3)] maxLocals)) t := fun t k => k276 t (st277 t k)
    have k279 : ∀ t, Steps p.tables e below (T277.setTop (mkF m 119 #[.val (.long p1), .second, .val (.int p2), .val (.int p3), .val (.ref b1), .val (.int (6 : Int32)), .val (.ref rr257)] [(.long p1), (.int p3), (.int (6 : Int32)), (.int (4 : Int32)), (.ref rr257)])) t → Steps p.tables e below (s₁.setTop (entryFrame m #[(.long p1), (.int p2), (.int p3)] maxLocals)) t := by
      intro t k
      refine k278 t ?_
      show Steps p.tables e below (T277.setTop (mkF m 109 #[.val (.long p1), .second, .val (.int p2), .val (.int p3), .val (.ref b1), .val (.int (6 : Int32)), .val (.ref rr257)] [(.int (own_vat3 (6 : Int32) p3 p1 (nar .byte ((((((p1.toUInt64 >>> ((32 : Int32) &&& 0x3f).toInt64.toUInt64).toInt64).toInt32).toUInt32 >>> ((0 : Int32) &&& 31).toUInt32).toInt32).toInt8.toInt32))))])) _
      refine XS.ifNo X277.here hx rfl (hb hby at_109) rfl ((if0 _ _).trans (feq (own_t6_3 p1 p3)).1) ?_
      show Steps p.tables e below (T277.setTop (mkF m 112 #[.val (.long p1), .second, .val (.int p2), .val (.int p3), .val (.ref b1), .val (.int (6 : Int32)), .val (.ref rr257)] [])) _
      refine XS.aload X277.here hx rfl (hb hby at_112) rfl rfl ?_
      show Steps p.tables e below (T277.setTop (mkF m 114 #[.val (.long p1), .second, .val (.int p2), .val (.int p3), .val (.ref b1), .val (.int (6 : Int32)), .val (.ref rr257)] [(.ref rr257)])) _
      refine XS.iconst X277.here hx rfl (hb hby at_114) ?_
      show Steps p.tables e below (T277.setTop (mkF m 115 #[.val (.long p1), .second, .val (.int p2), .val (.int p3), .val (.ref b1), .val (.int (6 : Int32)), .val (.ref rr257)] [(.int (4 : Int32)), (.ref rr257)])) _
      refine XS.iload X277.here hx rfl (hb hby at_115) rfl ?_
      show Steps p.tables e below (T277.setTop (mkF m 117 #[.val (.long p1), .second, .val (.int p2), .val (.int p3), .val (.ref b1), .val (.int (6 : Int32)), .val (.ref rr257)] [(.int (6 : Int32)), (.int (4 : Int32)), (.ref rr257)])) _
      refine XS.iloadN X277.here hx rfl (hb hby at_117) rfl ?_
      show Steps p.tables e below (T277.setTop (mkF m 118 #[.val (.long p1), .second, .val (.int p2), .val (.int p3), .val (.ref b1), .val (.int (6 : Int32)), .val (.ref rr257)] [(.int p3), (.int (6 : Int32)), (.int (4 : Int32)), (.ref rr257)])) _
      refine XS.lloadN X277.here hx rfl (hb hby at_118) rfl ?_
      exact k
    obtain ⟨_, _, ⟨T280, L280, k280c, n280⟩, -, X280, ⟨Lc280, hQ280, l280, y280, z280⟩, st280⟩ := Jvm.LawKit.callS X277 hx (y := (⟨"com/example/reckoner/reckoner/BytesSetU2PinLaw", "at", "([BIIIJ)Z"⟩ : MethodName)) hown (mvT hZ (hw _ (List.mem_of_getElem? (i := 56) rfl))) (mvT hZ (hw _ (List.mem_of_getElem? (i := 57) rfl))) (mvT hZ (hw _ (List.mem_of_getElem? (i := 58) rfl))) (mvT hZ (hw _ (List.mem_of_getElem? (i := 59) rfl))) (by decide) (backOf (W := 0) (own_rmat4 l Z a0 hw [] rr257 (6 : Int32) p3 p1 rc257 (nar .byte ((((((p1.toUInt64 >>> ((32 : Int32) &&& 0x3f).toInt64.toUInt64).toInt64).toInt32).toUInt32 >>> ((24 : Int32) &&& 31).toUInt32).toInt32).toInt8.toInt32)) (nar .byte ((((((p1.toUInt64 >>> ((32 : Int32) &&& 0x3f).toInt64.toUInt64).toInt64).toInt32).toUInt32 >>> ((16 : Int32) &&& 31).toUInt32).toInt32).toInt8.toInt32)) (nar .byte ((((((p1.toUInt64 >>> ((32 : Int32) &&& 0x3f).toInt64.toUInt64).toInt64).toInt32).toUInt32 >>> ((8 : Int32) &&& 31).toUInt32).toInt32).toInt8.toInt32)) (nar .byte ((((((p1.toUInt64 >>> ((32 : Int32) &&& 0x3f).toInt64.toUInt64).toInt64).toInt32).toUInt32 >>> ((0 : Int32) &&& 31).toUInt32).toInt32).toInt8.toInt32)) (nar .byte ((((p1.toInt32).toUInt32 >>> ((24 : Int32) &&& 31).toUInt32).toInt32).toInt8.toInt32)) (nar .byte ((((p1.toInt32).toUInt32 >>> ((16 : Int32) &&& 31).toUInt32).toInt32).toInt8.toInt32)) (nar .byte (((p3.toUInt32 >>> ((8 : Int32) &&& 31).toUInt32).toInt32).toInt8.toInt32)) (nar .byte (p3.toInt8.toInt32)) T257.heap n0 Z257 Vr257) hZ (hw _ (List.mem_of_getElem? (i := 59) rfl)) (hw _ (List.mem_of_getElem? (i := 58) rfl)) (by decide) (by decide)) (g := (mkF m 119 #[.val (.long p1), .second, .val (.int p2), .val (.int p3), .val (.ref b1), .val (.int (6 : Int32)), .val (.ref rr257)] [(.long p1), (.int p3), (.int (6 : Int32)), (.int (4 : Int32)), (.ref rr257)])) rfl (by rw [hml]; rfl) (argsL := [(.ref rr257), (.int (4 : Int32)), (.int (6 : Int32)), (.int p3), (.long p1)]) (rest := []) (lenOf own_pd9 rfl) rfl (by show 2 * 0 + _ ≤ _; exact Nat.le_of_eq rfl) (hb hby at_119) (fun _ _ => ⟨rfl, e277, (by decide : 3 + 0 ≤ _), (by decide : 74 + 0 ≤ _)⟩)
    dsimp only [Pt.U, Pt.locs, Pt.cells, Pt.slots] at X280 l280 y280 z280 st280 hQ280
    subst l280 y280 z280
    obtain ⟨rfl, N280q, e280⟩ := hQ280
    have N280 := Fr.app N277 N280q
    have k281 : ∀ t, Steps p.tables e below (T280.setTop (mkF m 122 #[.val (.long p1), .second, .val (.int p2), .val (.int p3), .val (.ref b1), .val (.int (6 : Int32)), .val (.ref rr257)] [(.int (own_vat4 (6 : Int32) p3 p1 (nar .byte ((((p1.toInt32).toUInt32 >>> ((24 : Int32) &&& 31).toUInt32).toInt32).toInt8.toInt32))))])) t → Steps p.tables e below (s₁.setTop (entryFrame m #[(.long p1), (.int p2), (.int p3)] maxLocals)) t := fun t k => k279 t (st280 t k)
    have k282 : ∀ t, Steps p.tables e below (T280.setTop (mkF m 132 #[.val (.long p1), .second, .val (.int p2), .val (.int p3), .val (.ref b1), .val (.int (6 : Int32)), .val (.ref rr257)] [(.long p1), (.int p3), (.int (6 : Int32)), (.int (5 : Int32)), (.ref rr257)])) t → Steps p.tables e below (s₁.setTop (entryFrame m #[(.long p1), (.int p2), (.int p3)] maxLocals)) t := by
      intro t k
      refine k281 t ?_
      show Steps p.tables e below (T280.setTop (mkF m 122 #[.val (.long p1), .second, .val (.int p2), .val (.int p3), .val (.ref b1), .val (.int (6 : Int32)), .val (.ref rr257)] [(.int (own_vat4 (6 : Int32) p3 p1 (nar .byte ((((p1.toInt32).toUInt32 >>> ((24 : Int32) &&& 31).toUInt32).toInt32).toInt8.toInt32))))])) _
      refine XS.ifNo X280.here hx rfl (hb hby at_122) rfl ((if0 _ _).trans (feq (own_t6_4 p1 p3)).1) ?_
      show Steps p.tables e below (T280.setTop (mkF m 125 #[.val (.long p1), .second, .val (.int p2), .val (.int p3), .val (.ref b1), .val (.int (6 : Int32)), .val (.ref rr257)] [])) _
      refine XS.aload X280.here hx rfl (hb hby at_125) rfl rfl ?_
      show Steps p.tables e below (T280.setTop (mkF m 127 #[.val (.long p1), .second, .val (.int p2), .val (.int p3), .val (.ref b1), .val (.int (6 : Int32)), .val (.ref rr257)] [(.ref rr257)])) _
      refine XS.iconst X280.here hx rfl (hb hby at_127) ?_
      show Steps p.tables e below (T280.setTop (mkF m 128 #[.val (.long p1), .second, .val (.int p2), .val (.int p3), .val (.ref b1), .val (.int (6 : Int32)), .val (.ref rr257)] [(.int (5 : Int32)), (.ref rr257)])) _
      refine XS.iload X280.here hx rfl (hb hby at_128) rfl ?_
      show Steps p.tables e below (T280.setTop (mkF m 130 #[.val (.long p1), .second, .val (.int p2), .val (.int p3), .val (.ref b1), .val (.int (6 : Int32)), .val (.ref rr257)] [(.int (6 : Int32)), (.int (5 : Int32)), (.ref rr257)])) _
      refine XS.iloadN X280.here hx rfl (hb hby at_130) rfl ?_
      show Steps p.tables e below (T280.setTop (mkF m 131 #[.val (.long p1), .second, .val (.int p2), .val (.int p3), .val (.ref b1), .val (.int (6 : Int32)), .val (.ref rr257)] [(.int p3), (.int (6 : Int32)), (.int (5 : Int32)), (.ref rr257)])) _
      refine XS.lloadN X280.here hx rfl (hb hby at_131) rfl ?_
      exact k
    obtain ⟨_, _, ⟨T283, L283, k283c, n283⟩, -, X283, ⟨Lc283, hQ283, l283, y283, z283⟩, st283⟩ := Jvm.LawKit.callS X280 hx (y := (⟨"com/example/reckoner/reckoner/BytesSetU2PinLaw", "at", "([BIIIJ)Z"⟩ : MethodName)) hown (mvT hZ (hw _ (List.mem_of_getElem? (i := 56) rfl))) (mvT hZ (hw _ (List.mem_of_getElem? (i := 57) rfl))) (mvT hZ (hw _ (List.mem_of_getElem? (i := 58) rfl))) (mvT hZ (hw _ (List.mem_of_getElem? (i := 59) rfl))) (by decide) (backOf (W := 0) (own_rmat5 l Z a0 hw [] rr257 (6 : Int32) p3 p1 rc257 (nar .byte ((((((p1.toUInt64 >>> ((32 : Int32) &&& 0x3f).toInt64.toUInt64).toInt64).toInt32).toUInt32 >>> ((24 : Int32) &&& 31).toUInt32).toInt32).toInt8.toInt32)) (nar .byte ((((((p1.toUInt64 >>> ((32 : Int32) &&& 0x3f).toInt64.toUInt64).toInt64).toInt32).toUInt32 >>> ((16 : Int32) &&& 31).toUInt32).toInt32).toInt8.toInt32)) (nar .byte ((((((p1.toUInt64 >>> ((32 : Int32) &&& 0x3f).toInt64.toUInt64).toInt64).toInt32).toUInt32 >>> ((8 : Int32) &&& 31).toUInt32).toInt32).toInt8.toInt32)) (nar .byte ((((((p1.toUInt64 >>> ((32 : Int32) &&& 0x3f).toInt64.toUInt64).toInt64).toInt32).toUInt32 >>> ((0 : Int32) &&& 31).toUInt32).toInt32).toInt8.toInt32)) (nar .byte ((((p1.toInt32).toUInt32 >>> ((24 : Int32) &&& 31).toUInt32).toInt32).toInt8.toInt32)) (nar .byte ((((p1.toInt32).toUInt32 >>> ((16 : Int32) &&& 31).toUInt32).toInt32).toInt8.toInt32)) (nar .byte (((p3.toUInt32 >>> ((8 : Int32) &&& 31).toUInt32).toInt32).toInt8.toInt32)) (nar .byte (p3.toInt8.toInt32)) T257.heap n0 Z257 Vr257) hZ (hw _ (List.mem_of_getElem? (i := 59) rfl)) (hw _ (List.mem_of_getElem? (i := 58) rfl)) (by decide) (by decide)) (g := (mkF m 132 #[.val (.long p1), .second, .val (.int p2), .val (.int p3), .val (.ref b1), .val (.int (6 : Int32)), .val (.ref rr257)] [(.long p1), (.int p3), (.int (6 : Int32)), (.int (5 : Int32)), (.ref rr257)])) rfl (by rw [hml]; rfl) (argsL := [(.ref rr257), (.int (5 : Int32)), (.int (6 : Int32)), (.int p3), (.long p1)]) (rest := []) (lenOf own_pd9 rfl) rfl (by show 2 * 0 + _ ≤ _; exact Nat.le_of_eq rfl) (hb hby at_132) (fun _ _ => ⟨rfl, e280, (by decide : 3 + 0 ≤ _), (by decide : 74 + 0 ≤ _)⟩)
    dsimp only [Pt.U, Pt.locs, Pt.cells, Pt.slots] at X283 l283 y283 z283 st283 hQ283
    subst l283 y283 z283
    obtain ⟨rfl, N283q, e283⟩ := hQ283
    have N283 := Fr.app N280 N283q
    have k284 : ∀ t, Steps p.tables e below (T283.setTop (mkF m 135 #[.val (.long p1), .second, .val (.int p2), .val (.int p3), .val (.ref b1), .val (.int (6 : Int32)), .val (.ref rr257)] [(.int (own_vat5 (6 : Int32) p3 p1 (nar .byte ((((p1.toInt32).toUInt32 >>> ((16 : Int32) &&& 31).toUInt32).toInt32).toInt8.toInt32))))])) t → Steps p.tables e below (s₁.setTop (entryFrame m #[(.long p1), (.int p2), (.int p3)] maxLocals)) t := fun t k => k282 t (st283 t k)
    have k285 : ∀ t, Steps p.tables e below (T283.setTop (mkF m 146 #[.val (.long p1), .second, .val (.int p2), .val (.int p3), .val (.ref b1), .val (.int (6 : Int32)), .val (.ref rr257)] [(.long p1), (.int p3), (.int (6 : Int32)), (.int (6 : Int32)), (.ref rr257)])) t → Steps p.tables e below (s₁.setTop (entryFrame m #[(.long p1), (.int p2), (.int p3)] maxLocals)) t := by
      intro t k
      refine k284 t ?_
      show Steps p.tables e below (T283.setTop (mkF m 135 #[.val (.long p1), .second, .val (.int p2), .val (.int p3), .val (.ref b1), .val (.int (6 : Int32)), .val (.ref rr257)] [(.int (own_vat5 (6 : Int32) p3 p1 (nar .byte ((((p1.toInt32).toUInt32 >>> ((16 : Int32) &&& 31).toUInt32).toInt32).toInt8.toInt32))))])) _
      refine XS.ifNo X283.here hx rfl (hb hby at_135) rfl ((if0 _ _).trans (feq (own_t6_5 p1 p3)).1) ?_
      show Steps p.tables e below (T283.setTop (mkF m 138 #[.val (.long p1), .second, .val (.int p2), .val (.int p3), .val (.ref b1), .val (.int (6 : Int32)), .val (.ref rr257)] [])) _
      refine XS.aload X283.here hx rfl (hb hby at_138) rfl rfl ?_
      show Steps p.tables e below (T283.setTop (mkF m 140 #[.val (.long p1), .second, .val (.int p2), .val (.int p3), .val (.ref b1), .val (.int (6 : Int32)), .val (.ref rr257)] [(.ref rr257)])) _
      refine XS.bipush X283.here hx rfl (hb hby at_140) ?_
      show Steps p.tables e below (T283.setTop (mkF m 142 #[.val (.long p1), .second, .val (.int p2), .val (.int p3), .val (.ref b1), .val (.int (6 : Int32)), .val (.ref rr257)] [(.int (6 : Int32)), (.ref rr257)])) _
      refine XS.iload X283.here hx rfl (hb hby at_142) rfl ?_
      show Steps p.tables e below (T283.setTop (mkF m 144 #[.val (.long p1), .second, .val (.int p2), .val (.int p3), .val (.ref b1), .val (.int (6 : Int32)), .val (.ref rr257)] [(.int (6 : Int32)), (.int (6 : Int32)), (.ref rr257)])) _
      refine XS.iloadN X283.here hx rfl (hb hby at_144) rfl ?_
      show Steps p.tables e below (T283.setTop (mkF m 145 #[.val (.long p1), .second, .val (.int p2), .val (.int p3), .val (.ref b1), .val (.int (6 : Int32)), .val (.ref rr257)] [(.int p3), (.int (6 : Int32)), (.int (6 : Int32)), (.ref rr257)])) _
      refine XS.lloadN X283.here hx rfl (hb hby at_145) rfl ?_
      exact k
    obtain ⟨_, _, ⟨T286, L286, k286c, n286⟩, -, X286, ⟨Lc286, hQ286, l286, y286, z286⟩, st286⟩ := Jvm.LawKit.callS X283 hx (y := (⟨"com/example/reckoner/reckoner/BytesSetU2PinLaw", "at", "([BIIIJ)Z"⟩ : MethodName)) hown (mvT hZ (hw _ (List.mem_of_getElem? (i := 56) rfl))) (mvT hZ (hw _ (List.mem_of_getElem? (i := 57) rfl))) (mvT hZ (hw _ (List.mem_of_getElem? (i := 58) rfl))) (mvT hZ (hw _ (List.mem_of_getElem? (i := 59) rfl))) (by decide) (backOf (W := 0) (own_rmat6 l Z a0 hw [] rr257 (6 : Int32) p3 p1 rc257 (nar .byte ((((((p1.toUInt64 >>> ((32 : Int32) &&& 0x3f).toInt64.toUInt64).toInt64).toInt32).toUInt32 >>> ((24 : Int32) &&& 31).toUInt32).toInt32).toInt8.toInt32)) (nar .byte ((((((p1.toUInt64 >>> ((32 : Int32) &&& 0x3f).toInt64.toUInt64).toInt64).toInt32).toUInt32 >>> ((16 : Int32) &&& 31).toUInt32).toInt32).toInt8.toInt32)) (nar .byte ((((((p1.toUInt64 >>> ((32 : Int32) &&& 0x3f).toInt64.toUInt64).toInt64).toInt32).toUInt32 >>> ((8 : Int32) &&& 31).toUInt32).toInt32).toInt8.toInt32)) (nar .byte ((((((p1.toUInt64 >>> ((32 : Int32) &&& 0x3f).toInt64.toUInt64).toInt64).toInt32).toUInt32 >>> ((0 : Int32) &&& 31).toUInt32).toInt32).toInt8.toInt32)) (nar .byte ((((p1.toInt32).toUInt32 >>> ((24 : Int32) &&& 31).toUInt32).toInt32).toInt8.toInt32)) (nar .byte ((((p1.toInt32).toUInt32 >>> ((16 : Int32) &&& 31).toUInt32).toInt32).toInt8.toInt32)) (nar .byte (((p3.toUInt32 >>> ((8 : Int32) &&& 31).toUInt32).toInt32).toInt8.toInt32)) (nar .byte (p3.toInt8.toInt32)) T257.heap n0 Z257 Vr257) hZ (hw _ (List.mem_of_getElem? (i := 59) rfl)) (hw _ (List.mem_of_getElem? (i := 58) rfl)) (by decide) (by decide)) (g := (mkF m 146 #[.val (.long p1), .second, .val (.int p2), .val (.int p3), .val (.ref b1), .val (.int (6 : Int32)), .val (.ref rr257)] [(.long p1), (.int p3), (.int (6 : Int32)), (.int (6 : Int32)), (.ref rr257)])) rfl (by rw [hml]; rfl) (argsL := [(.ref rr257), (.int (6 : Int32)), (.int (6 : Int32)), (.int p3), (.long p1)]) (rest := []) (lenOf own_pd9 rfl) rfl (by show 2 * 0 + _ ≤ _; exact Nat.le_of_eq rfl) (hb hby at_146) (fun _ _ => ⟨rfl, e283, (by decide : 3 + 0 ≤ _), (by decide : 74 + 0 ≤ _)⟩)
    dsimp only [Pt.U, Pt.locs, Pt.cells, Pt.slots] at X286 l286 y286 z286 st286 hQ286
    subst l286 y286 z286
    obtain ⟨rfl, N286q, e286⟩ := hQ286
    have N286 := Fr.app N283 N286q
    have k287 : ∀ t, Steps p.tables e below (T286.setTop (mkF m 149 #[.val (.long p1), .second, .val (.int p2), .val (.int p3), .val (.ref b1), .val (.int (6 : Int32)), .val (.ref rr257)] [(.int (own_vat6 (6 : Int32) p3 p1 (nar .byte (((p3.toUInt32 >>> ((8 : Int32) &&& 31).toUInt32).toInt32).toInt8.toInt32))))])) t → Steps p.tables e below (s₁.setTop (entryFrame m #[(.long p1), (.int p2), (.int p3)] maxLocals)) t := fun t k => k285 t (st286 t k)
    have k288 : ∀ t, Steps p.tables e below (T286.setTop (mkF m 160 #[.val (.long p1), .second, .val (.int p2), .val (.int p3), .val (.ref b1), .val (.int (6 : Int32)), .val (.ref rr257)] [(.long p1), (.int p3), (.int (6 : Int32)), (.int (7 : Int32)), (.ref rr257)])) t → Steps p.tables e below (s₁.setTop (entryFrame m #[(.long p1), (.int p2), (.int p3)] maxLocals)) t := by
      intro t k
      refine k287 t ?_
      show Steps p.tables e below (T286.setTop (mkF m 149 #[.val (.long p1), .second, .val (.int p2), .val (.int p3), .val (.ref b1), .val (.int (6 : Int32)), .val (.ref rr257)] [(.int (own_vat6 (6 : Int32) p3 p1 (nar .byte (((p3.toUInt32 >>> ((8 : Int32) &&& 31).toUInt32).toInt32).toInt8.toInt32))))])) _
      refine XS.ifNo X286.here hx rfl (hb hby at_149) rfl ((if0 _ _).trans (feq (own_t6_6 p1 p3)).1) ?_
      show Steps p.tables e below (T286.setTop (mkF m 152 #[.val (.long p1), .second, .val (.int p2), .val (.int p3), .val (.ref b1), .val (.int (6 : Int32)), .val (.ref rr257)] [])) _
      refine XS.aload X286.here hx rfl (hb hby at_152) rfl rfl ?_
      show Steps p.tables e below (T286.setTop (mkF m 154 #[.val (.long p1), .second, .val (.int p2), .val (.int p3), .val (.ref b1), .val (.int (6 : Int32)), .val (.ref rr257)] [(.ref rr257)])) _
      refine XS.bipush X286.here hx rfl (hb hby at_154) ?_
      show Steps p.tables e below (T286.setTop (mkF m 156 #[.val (.long p1), .second, .val (.int p2), .val (.int p3), .val (.ref b1), .val (.int (6 : Int32)), .val (.ref rr257)] [(.int (7 : Int32)), (.ref rr257)])) _
      refine XS.iload X286.here hx rfl (hb hby at_156) rfl ?_
      show Steps p.tables e below (T286.setTop (mkF m 158 #[.val (.long p1), .second, .val (.int p2), .val (.int p3), .val (.ref b1), .val (.int (6 : Int32)), .val (.ref rr257)] [(.int (6 : Int32)), (.int (7 : Int32)), (.ref rr257)])) _
      refine XS.iloadN X286.here hx rfl (hb hby at_158) rfl ?_
      show Steps p.tables e below (T286.setTop (mkF m 159 #[.val (.long p1), .second, .val (.int p2), .val (.int p3), .val (.ref b1), .val (.int (6 : Int32)), .val (.ref rr257)] [(.int p3), (.int (6 : Int32)), (.int (7 : Int32)), (.ref rr257)])) _
      refine XS.lloadN X286.here hx rfl (hb hby at_159) rfl ?_
      exact k
    obtain ⟨_, _, ⟨T289, L289, k289c, n289⟩, -, X289, ⟨Lc289, hQ289, l289, y289, z289⟩, st289⟩ := Jvm.LawKit.callS X286 hx (y := (⟨"com/example/reckoner/reckoner/BytesSetU2PinLaw", "at", "([BIIIJ)Z"⟩ : MethodName)) hown (mvT hZ (hw _ (List.mem_of_getElem? (i := 56) rfl))) (mvT hZ (hw _ (List.mem_of_getElem? (i := 57) rfl))) (mvT hZ (hw _ (List.mem_of_getElem? (i := 58) rfl))) (mvT hZ (hw _ (List.mem_of_getElem? (i := 59) rfl))) (by decide) (backOf (W := 0) (own_rmat7 l Z a0 hw [] rr257 (6 : Int32) p3 p1 rc257 (nar .byte ((((((p1.toUInt64 >>> ((32 : Int32) &&& 0x3f).toInt64.toUInt64).toInt64).toInt32).toUInt32 >>> ((24 : Int32) &&& 31).toUInt32).toInt32).toInt8.toInt32)) (nar .byte ((((((p1.toUInt64 >>> ((32 : Int32) &&& 0x3f).toInt64.toUInt64).toInt64).toInt32).toUInt32 >>> ((16 : Int32) &&& 31).toUInt32).toInt32).toInt8.toInt32)) (nar .byte ((((((p1.toUInt64 >>> ((32 : Int32) &&& 0x3f).toInt64.toUInt64).toInt64).toInt32).toUInt32 >>> ((8 : Int32) &&& 31).toUInt32).toInt32).toInt8.toInt32)) (nar .byte ((((((p1.toUInt64 >>> ((32 : Int32) &&& 0x3f).toInt64.toUInt64).toInt64).toInt32).toUInt32 >>> ((0 : Int32) &&& 31).toUInt32).toInt32).toInt8.toInt32)) (nar .byte ((((p1.toInt32).toUInt32 >>> ((24 : Int32) &&& 31).toUInt32).toInt32).toInt8.toInt32)) (nar .byte ((((p1.toInt32).toUInt32 >>> ((16 : Int32) &&& 31).toUInt32).toInt32).toInt8.toInt32)) (nar .byte (((p3.toUInt32 >>> ((8 : Int32) &&& 31).toUInt32).toInt32).toInt8.toInt32)) (nar .byte (p3.toInt8.toInt32)) T257.heap n0 Z257 Vr257) hZ (hw _ (List.mem_of_getElem? (i := 59) rfl)) (hw _ (List.mem_of_getElem? (i := 58) rfl)) (by decide) (by decide)) (g := (mkF m 160 #[.val (.long p1), .second, .val (.int p2), .val (.int p3), .val (.ref b1), .val (.int (6 : Int32)), .val (.ref rr257)] [(.long p1), (.int p3), (.int (6 : Int32)), (.int (7 : Int32)), (.ref rr257)])) rfl (by rw [hml]; rfl) (argsL := [(.ref rr257), (.int (7 : Int32)), (.int (6 : Int32)), (.int p3), (.long p1)]) (rest := []) (lenOf own_pd9 rfl) rfl (by show 2 * 0 + _ ≤ _; exact Nat.le_of_eq rfl) (hb hby at_160) (fun _ _ => ⟨rfl, e286, (by decide : 3 + 0 ≤ _), (by decide : 74 + 0 ≤ _)⟩)
    dsimp only [Pt.U, Pt.locs, Pt.cells, Pt.slots] at X289 l289 y289 z289 st289 hQ289
    subst l289 y289 z289
    obtain ⟨rfl, N289q, e289⟩ := hQ289
    have N289 := Fr.app N286 N289q
    have k290 : ∀ t, Steps p.tables e below (T289.setTop (mkF m 163 #[.val (.long p1), .second, .val (.int p2), .val (.int p3), .val (.ref b1), .val (.int (6 : Int32)), .val (.ref rr257)] [(.int (own_vat7 (6 : Int32) p3 p1 (nar .byte (p3.toInt8.toInt32))))])) t → Steps p.tables e below (s₁.setTop (entryFrame m #[(.long p1), (.int p2), (.int p3)] maxLocals)) t := fun t k => k288 t (st289 t k)
    have k291 : ∀ t, Steps p.tables e below (T289.setTop (mkF m 171 #[.val (.long p1), .second, .val (.int p2), .val (.int p3), .val (.ref b1), .val (.int (6 : Int32)), .val (.ref rr257)] [(.int (1 : Int32))])) t → Steps p.tables e below (s₁.setTop (entryFrame m #[(.long p1), (.int p2), (.int p3)] maxLocals)) t := by
      intro t k
      refine k290 t ?_
      show Steps p.tables e below (T289.setTop (mkF m 163 #[.val (.long p1), .second, .val (.int p2), .val (.int p3), .val (.ref b1), .val (.int (6 : Int32)), .val (.ref rr257)] [(.int (own_vat7 (6 : Int32) p3 p1 (nar .byte (p3.toInt8.toInt32))))])) _
      refine XS.ifNo X289.here hx rfl (hb hby at_163) rfl ((if0 _ _).trans (feq (own_t6_7 p1 p3)).1) ?_
      show Steps p.tables e below (T289.setTop (mkF m 166 #[.val (.long p1), .second, .val (.int p2), .val (.int p3), .val (.ref b1), .val (.int (6 : Int32)), .val (.ref rr257)] [])) _
      refine XS.iconst X289.here hx rfl (hb hby at_166) ?_
      show Steps p.tables e below (T289.setTop (mkF m 167 #[.val (.long p1), .second, .val (.int p2), .val (.int p3), .val (.ref b1), .val (.int (6 : Int32)), .val (.ref rr257)] [(.int (1 : Int32))])) _
      refine XS.goto X289.here hx rfl (pc0 := 167) (pc' := 171) rfl (hb hby at_167) (by decide) (by decide) ?_
      exact k
    obtain ⟨fs, hr, hrun, hended, hW, hsame⟩ := X289.leave (v := (some (.int (1 : Int32)))) (fun h => by rw [Bd.returns] at h; cases h)
    refine ⟨_, _, k291 _ ?_, hrun, hended, _, _, rfl, ?_, ⟨_, rfl⟩, hW, hsame.mono (by decide) (by decide)⟩
    · exact retN X289 hx (t := .boolean) Bd.returns (by simp) (hb hby at_171) hr
    · exact ⟨rfl, N289⟩
set_option maxRecDepth 65536 in
set_option maxHeartbeats 40000000 in
theorem comes_1 {Post : Tables → Env → Array Value → State → Outcome → State → Prop} (hpost : ∀ tb e args s v u, (limb_1_1.after args s (.returned v) u = true ∧ limb_1_2.after args s (.returned v) u = true ∧ True) → FrameEnd s (.returned v) u (Jvm.fieldLocs frame_1_writes args s ++ Jvm.arrayLocs frame_1_arrays args s ++ Jvm.staticLocs frame_1_statics s) 16 256 → Post tb e args s (.returned v) u) :
    ArmFor flags0 classFile x code maxLocals ret World_1 tables_1 room_1 Calls_1 rest_1 Pre_1 Post := by
  intro l hfl _ _ p e ha hc hk s m args below hf hA hF happ hP
  obtain ⟨hcalls, hrest, hpre⟩ := hP
  obtain ⟨-, -, -, hnamed, -, -, -, hat⟩ := (Spec.applies_iff hf).mp happ
  obtain ⟨hg, hn⟩ := and_e (Cond.before_iff.mp (show (Jvm.Cond.and given_1 narrow_1).before args s = true from hpre))
  obtain ⟨hg0, hg⟩ := and_e hg
  obtain ⟨hi0, hg⟩ := and_e hg
  obtain ⟨hi1, hg⟩ := and_e hg
  have hi2 := hg
  obtain ⟨w0, w1, w2, rfl⟩ : ∃ w0 w1 w2 : Value, args = #[w0, w1, w2] := by
    have hs : args.size = 3 := by simpa [Cond.value, given_1] using hg0
    obtain ⟨L⟩ := args
    match L, hs with
    | [w0, w1, w2], _ => exact ⟨w0, w1, w2, rfl⟩
  have hw := fun d (hd : d ∈ tables_1) => atoms_spec (ws := Jvm.Cond.code x code maxLocals ret :: tables_1) hat d (List.mem_cons_of_mem _ hd)
  obtain ⟨p1, ev0⟩ := isL_v hi0
  obtain rfl : w0 = (.long p1) := Option.some.inj ev0
  obtain ⟨p2, ev1⟩ := is_v hi1
  obtain rfl : w1 = (.int p2) := Option.some.inj ev1
  obtain ⟨p3, ev2⟩ := is_v hi2
  obtain rfl : w2 = (.int p3) := Option.some.inj ev2
  obtain ⟨n, o, h1, h2, h3, _, L, rfl, ⟨rfl, N⟩, hq⟩ := own_rm0 l s _ hw tables_1 p1 p2 p3  s.heap s.heap.size (Nat.le_refl _)   p e ha hc hk s m _ below hf ((Spec.applies_iff_loose hf).mp happ).1 ⟨rfl, State.Warmed39.refl s, rfl⟩ trivial
  refine ⟨n, _, h1, h2, h3, hpost _ _ _ _ _ _ ⟨Cond.after_iff.mpr rfl, Cond.after_iff.mpr (eq_i res_at (Term.int_eval (1)) rfl), trivial⟩ ⟨hq.1, hq.2.1, (hq.2.2.sift fun y hy => Or.inr (N y hy)).mono (by decide) (by decide)⟩⟩
theorem main_1_1 : Claimed_1_1 := comes_1 fun _ _ _ _ _ _ h hF => ⟨h.1, hF⟩
theorem main_1_2 : Claimed_1_2 := comes_1 fun _ _ _ _ _ _ h hF => ⟨h.2.1, hF⟩
end Jvm.Pilot.@@N@@
namespace Jvm.Pilot.@@N@@
open Jvm Jvm.ClassFile Sem Op Lib Jvm.Free Jvm.Stand Jvm.Pilot.@@N@@.Jvm.D
/-! MADE BY PROGRAM (witnessworld.py) out of the Statement's table words and the real class files: 12 classes; the members and pool entries that the words name. The judged class is class 1, her method 1. -/
namespace start1
open Jvm.ClassFile
def u (s : String) : CpInfo := .utf8 (stringToUtf16 s)
/-- a pool by its gaps: so many unusable entries, then the entry; so many at the end -/
def gap : Nat → List CpInfo → List CpInfo
  | 0, r => r
  | n + 1, r => .unusable :: gap n r
def poolList (es : List (Nat × CpInfo)) (last : Nat) : List CpInfo := es.foldr (fun e r => gap e.1 (e.2 :: r)) (gap last [])
def pool (es : List (Nat × CpInfo)) (last : Nat) : Array CpInfo := ⟨poolList es last⟩
def fileOf (pool : Array CpInfo) (this : Nat) (attrs : Array Attribute := #[]) (ms : Array MethodInfo := #[]) (fl : Nat := 33) (sup : Nat := 0) (ifs : Array Nat := #[]) (fds : Array FieldInfo := #[]) : ClassFile where
  minorVersion := 0
  majorVersion := 65
  constantPool := pool
  accessFlags := fl
  thisClass := this
  superClass := sup
  interfaces := ifs
  fields := fds
  methods := ms
  attributes := attrs
def plain (name : String) (sup : Option ClassId) : Class where
  name := name
  kind := .ordinary
  loader := none
  accessFlags := 33
  super := sup
  interfaces := #[]
  cf := none
  fields := #[]
  methods := #[]
  instanceTypes := #[]
  staticTypes := #[]
  resolved := #[]
  callSites := []
  init := .initialized
  statics := none
  mirror := none

def pool0 : Array CpInfo := pool [(5, u "<init>"), (0, u "()V"), (1, .class_ 10), (1, u "java/lang/Object")] 113

def k0c0 : Code := { maxStack := 0, maxLocals := 1, code := object_method_1_code, exceptionTable := #[], attributes := #[] }
def k0m0 : Method := { name := "<init>", desc := "()V", sig := { parameters := [], returnType := none }, accessFlags := 1, code := some k0c0 }
/-- java/lang/Object -/
def k0 : Class := { plain "java/lang/Object" none with
  accessFlags := 33
  interfaces := #[]
  cf := some (fileOf pool0 8 #[] #[{ accessFlags := 1, nameIndex := 5, descriptorIndex := 6, attributes := #[] }] 33 0 #[] #[])
  fields := #[]
  methods := #[k0m0]
  instanceTypes := #[]
  staticTypes := #[]
  resolved := Array.replicate 124 none
  statics := none }

def pool1 : Array CpInfo := pool [(2, .class_ 4), (0, .nameAndType 5 6), (0, u "java/lang/Object"), (0, u "<init>"), (0, u "()V"), (0, .class_ 8), (0, u "com/example/reckoner/reckoner/Bytes"), (0, .methodref 7 3), (0, .methodref 7 11), (0, .nameAndType 12 13), (0, u "u8"), (0, u "(J)Lcom/example/reckoner/reckoner/Bytes;"), (0, .integer 2147483647), (0, .methodref 7 16), (0, .nameAndType 17 18), (0, u "setU2"), (0, u "(II)V"), (0, .methodref 7 20), (0, .nameAndType 21 22), (0, u "toArray"), (0, u "()[B"), (0, .methodref 7 24), (0, .nameAndType 25 26), (0, u "length"), (0, u "()I"), (0, .methodref 28 29), (0, .class_ 30), (0, .nameAndType 31 32), (0, u "com/example/reckoner/reckoner/BytesSetU2PinLaw"), (0, u "at"), (0, u "([BIIIJ)Z"), (0, .long 255), (3, u "law"), (0, u "(JII)Z")] 5

def k1m0 : Method := { name := "<init>", desc := "()V", sig := { parameters := [], returnType := none }, accessFlags := 1, code := none }
def k1c1 : Code := { maxStack := 6, maxLocals := 7, code := code, exceptionTable := #[], attributes := #[] }
def k1m1 : Method := { name := "law", desc := "(JII)Z", sig := { parameters := [.long, .int, .int], returnType := some .boolean }, accessFlags := 9, code := some k1c1 }
def k1c2 : Code := { maxStack := 5, maxLocals := 7, code := method_3_code, exceptionTable := #[], attributes := #[] }
def k1m2 : Method := { name := "at", desc := "([BIIIJ)Z", sig := { parameters := [(.array .byte), .int, .int, .int, .long], returnType := some .boolean }, accessFlags := 10, code := some k1c2 }
/-- com/example/reckoner/reckoner/BytesSetU2PinLaw -/
def k1 : Class := { plain "com/example/reckoner/reckoner/BytesSetU2PinLaw" (some 0) with
  accessFlags := 49
  interfaces := #[]
  cf := some (fileOf pool1 28 #[] #[{ accessFlags := 1, nameIndex := 5, descriptorIndex := 6, attributes := #[] }, { accessFlags := 9, nameIndex := 37, descriptorIndex := 38, attributes := #[] }, { accessFlags := 10, nameIndex := 31, descriptorIndex := 32, attributes := #[] }] 49 2 #[] #[])
  fields := #[]
  methods := #[k1m0, k1m1, k1m2]
  instanceTypes := #[]
  staticTypes := #[]
  resolved := Array.replicate 44 none
  statics := none }

def pool2 : Array CpInfo := pool [(1, .methodref 2 3), (0, .class_ 4), (0, .nameAndType 5 6), (0, u "java/lang/Object"), (0, u "<init>"), (0, u "()V"), (0, .fieldref 8 9), (0, .class_ 10), (0, .nameAndType 11 12), (0, u "com/example/reckoner/reckoner/Bytes"), (0, u "bytes"), (0, u "[B"), (0, .fieldref 8 14), (0, .nameAndType 15 16), (0, u "length"), (0, u "I"), (0, .methodref 8 18), (0, .nameAndType 19 20), (0, u "reserve"), (0, u "(I)V"), (0, .methodref 8 22), (0, .nameAndType 23 24), (0, u "u4"), (0, u "(I)Lcom/example/reckoner/reckoner/Bytes;"), (6, .methodref 32 33), (0, .class_ 34), (0, .nameAndType 35 36), (0, u "java/util/Arrays"), (0, u "copyOf"), (0, u "([BI)[B"), (8, u "()I"), (3, u "u8"), (0, u "(J)Lcom/example/reckoner/reckoner/Bytes;"), (3, u "setU2"), (0, u "(II)V"), (0, u "toArray"), (0, u "()[B")] 2

def k2c0 : Code := { maxStack := 2, maxLocals := 1, code := prog_9_method_1_code, exceptionTable := #[], attributes := #[] }
def k2m0 : Method := { name := "<init>", desc := "()V", sig := { parameters := [], returnType := none }, accessFlags := 0, code := some k2c0 }
def k2c1 : Code := { maxStack := 1, maxLocals := 1, code := prog_9_method_2_code, exceptionTable := #[], attributes := #[] }
def k2m1 : Method := { name := "length", desc := "()I", sig := { parameters := [], returnType := some .int }, accessFlags := 0, code := some k2c1 }
def k2c2 : Code := { maxStack := 5, maxLocals := 3, code := prog_9_method_5_code, exceptionTable := #[], attributes := #[] }
def k2m2 : Method := { name := "u4", desc := "(I)Lcom/example/reckoner/reckoner/Bytes;", sig := { parameters := [.int], returnType := some (.object "com/example/reckoner/reckoner/Bytes") }, accessFlags := 0, code := some k2c2 }
def k2c3 : Code := { maxStack := 4, maxLocals := 3, code := prog_9_method_6_code, exceptionTable := #[], attributes := #[] }
def k2m3 : Method := { name := "u8", desc := "(J)Lcom/example/reckoner/reckoner/Bytes;", sig := { parameters := [.long], returnType := some (.object "com/example/reckoner/reckoner/Bytes") }, accessFlags := 0, code := some k2c3 }
def k2c4 : Code := { maxStack := 4, maxLocals := 3, code := prog_9_method_9_code, exceptionTable := #[], attributes := #[] }
def k2m4 : Method := { name := "setU2", desc := "(II)V", sig := { parameters := [.int, .int], returnType := none }, accessFlags := 0, code := some k2c4 }
def k2c5 : Code := { maxStack := 2, maxLocals := 1, code := prog_9_method_10_code, exceptionTable := #[], attributes := #[] }
def k2m5 : Method := { name := "toArray", desc := "()[B", sig := { parameters := [], returnType := some (.array .byte) }, accessFlags := 0, code := some k2c5 }
def k2c6 : Code := { maxStack := 5, maxLocals := 2, code := prog_9_method_11_code, exceptionTable := #[], attributes := #[] }
def k2m6 : Method := { name := "reserve", desc := "(I)V", sig := { parameters := [.int], returnType := none }, accessFlags := 2, code := some k2c6 }
/-- com/example/reckoner/reckoner/Bytes -/
def k2 : Class := { plain "com/example/reckoner/reckoner/Bytes" (some 0) with
  accessFlags := 48
  interfaces := #[]
  cf := some (fileOf pool2 8 #[] #[{ accessFlags := 0, nameIndex := 5, descriptorIndex := 6, attributes := #[] }, { accessFlags := 0, nameIndex := 15, descriptorIndex := 45, attributes := #[] }, { accessFlags := 0, nameIndex := 23, descriptorIndex := 24, attributes := #[] }, { accessFlags := 0, nameIndex := 49, descriptorIndex := 50, attributes := #[] }, { accessFlags := 0, nameIndex := 54, descriptorIndex := 55, attributes := #[] }, { accessFlags := 0, nameIndex := 56, descriptorIndex := 57, attributes := #[] }, { accessFlags := 2, nameIndex := 19, descriptorIndex := 20, attributes := #[] }] 48 2 #[] #[{ accessFlags := 2, nameIndex := 11, descriptorIndex := 12, attributes := #[] }, { accessFlags := 2, nameIndex := 15, descriptorIndex := 16, attributes := #[] }])
  fields := #[{ name := "bytes", type := (.array .byte), accessFlags := 2, slot := 0, constantValue := 0 }, { name := "length", type := .int, accessFlags := 2, slot := 1, constantValue := 0 }]
  methods := #[k2m0, k2m1, k2m2, k2m3, k2m4, k2m5, k2m6]
  instanceTypes := #[(.array .byte), .int]
  staticTypes := #[]
  resolved := Array.replicate 60 none
  statics := none }

def pool3 : Array CpInfo := pool [(2, .class_ 4), (1, u "java/lang/Object"), (0, u "<init>"), (0, u "()V"), (7, .class_ 16), (1, u "java/util/Arrays"), (57, .class_ 76), (1, u "java/util/Arrays$NaturalOrder"), (36, .class_ 115), (1, u "java/util/Arrays$LegacyMergeSort"), (1, u "Z"), (32, .methodref 151 152), (0, .class_ 153), (0, .nameAndType 154 155), (0, u "java/lang/System"), (0, u "arraycopy"), (0, u "(Ljava/lang/Object;ILjava/lang/Object;II)V"), (146, u "copyOf"), (1, .methodref 305 306), (0, .class_ 307), (0, .nameAndType 308 309), (0, u "java/lang/Math"), (0, u "min"), (0, u "(II)I"), (65, .class_ 376), (0, u "java/util/Arrays$ArrayList"), (68, u "$assertionsDisabled"), (269, u "MIN_ARRAY_SORT_GRAN"), (0, u "I"), (2, u "INSERTIONSORT_THRESHOLD"), (149, u "([BI)[B"), (105, .class_ 976), (0, u "java/util/Arrays$ArrayItr")] 52

def k3m0 : Method := { name := "<init>", desc := "()V", sig := { parameters := [], returnType := none }, accessFlags := 2, code := none }
def k3c1 : Code := { maxStack := 6, maxLocals := 3, code := jdk_65_method_121_code, exceptionTable := #[], attributes := #[] }
def k3m1 : Method := { name := "copyOf", desc := "([BI)[B", sig := { parameters := [(.array .byte), .int], returnType := some (.array .byte) }, accessFlags := 9, code := some k3c1 }
/-- java/util/Arrays -/
def k3 : Class := { plain "java/util/Arrays" (some 0) with
  accessFlags := 49
  interfaces := #[]
  cf := some (fileOf pool3 14 #[.nestMembers #[975, 375, 113, 74]] #[{ accessFlags := 2, nameIndex := 5, descriptorIndex := 6, attributes := #[] }, { accessFlags := 9, nameIndex := 302, descriptorIndex := 869, attributes := #[] }] 49 2 #[] #[{ accessFlags := 26, nameIndex := 715, descriptorIndex := 716, attributes := #[] }, { accessFlags := 26, nameIndex := 719, descriptorIndex := 716, attributes := #[] }, { accessFlags := 4120, nameIndex := 445, descriptorIndex := 117, attributes := #[] }])
  fields := #[{ name := "MIN_ARRAY_SORT_GRAN", type := .int, accessFlags := 26, slot := 0, constantValue := 0 }, { name := "INSERTIONSORT_THRESHOLD", type := .int, accessFlags := 26, slot := 1, constantValue := 0 }, { name := "$assertionsDisabled", type := .boolean, accessFlags := 4120, slot := 2, constantValue := 0 }]
  methods := #[k3m0, k3m1]
  instanceTypes := #[]
  staticTypes := #[.int, .int, .boolean]
  resolved := Array.replicate 1029 none
  statics := none }

def pool4 : Array CpInfo := pool [(1, .class_ 2), (0, u "java/lang/Math"), (1, .class_ 6), (1, u "java/lang/Object"), (0, u "<init>"), (0, u "()V"), (89, .class_ 100), (1, u "java/lang/Math$RandomNumberGeneratorHolder"), (71, u "negativeZeroFloatBits"), (0, u "J"), (2, u "negativeZeroDoubleBits"), (24, u "min"), (43, u "$assertionsDisabled"), (0, u "Z"), (88, u "(II)I"), (2, u "twoToTheDoubleScaleDown"), (0, u "D"), (4, u "twoToTheDoubleScaleUp"), (9, u "E"), (3, u "PI"), (2, u "TAU"), (2, u "DEGREES_TO_RADIANS"), (0, u "RADIANS_TO_DEGREES")] 94

def k4m0 : Method := { name := "<init>", desc := "()V", sig := { parameters := [], returnType := none }, accessFlags := 2, code := none }
def k4c1 : Code := { maxStack := 2, maxLocals := 2, code := jdk_29_method_69_code, exceptionTable := #[], attributes := #[] }
def k4m1 : Method := { name := "min", desc := "(II)I", sig := { parameters := [.int, .int], returnType := some .int }, accessFlags := 9, code := some k4c1 }
/-- java/lang/Math -/
def k4 : Class := { plain "java/lang/Math" (some 0) with
  accessFlags := 49
  interfaces := #[]
  cf := some (fileOf pool4 1 #[.nestMembers #[98]] #[{ accessFlags := 2, nameIndex := 7, descriptorIndex := 8, attributes := #[] }, { accessFlags := 9, nameIndex := 201, descriptorIndex := 335, attributes := #[] }] 49 4 #[] #[{ accessFlags := 25, nameIndex := 354, descriptorIndex := 339, attributes := #[] }, { accessFlags := 25, nameIndex := 358, descriptorIndex := 339, attributes := #[] }, { accessFlags := 25, nameIndex := 361, descriptorIndex := 339, attributes := #[] }, { accessFlags := 26, nameIndex := 364, descriptorIndex := 339, attributes := #[] }, { accessFlags := 26, nameIndex := 365, descriptorIndex := 339, attributes := #[] }, { accessFlags := 26, nameIndex := 172, descriptorIndex := 173, attributes := #[] }, { accessFlags := 26, nameIndex := 176, descriptorIndex := 173, attributes := #[] }, { accessFlags := 8, nameIndex := 344, descriptorIndex := 339, attributes := #[] }, { accessFlags := 8, nameIndex := 338, descriptorIndex := 339, attributes := #[] }, { accessFlags := 4120, nameIndex := 245, descriptorIndex := 246, attributes := #[] }])
  fields := #[{ name := "E", type := .double, accessFlags := 25, slot := 0, constantValue := 0 }, { name := "PI", type := .double, accessFlags := 25, slot := 1, constantValue := 0 }, { name := "TAU", type := .double, accessFlags := 25, slot := 2, constantValue := 0 }, { name := "DEGREES_TO_RADIANS", type := .double, accessFlags := 26, slot := 3, constantValue := 0 }, { name := "RADIANS_TO_DEGREES", type := .double, accessFlags := 26, slot := 4, constantValue := 0 }, { name := "negativeZeroFloatBits", type := .long, accessFlags := 26, slot := 5, constantValue := 0 }, { name := "negativeZeroDoubleBits", type := .long, accessFlags := 26, slot := 6, constantValue := 0 }, { name := "twoToTheDoubleScaleUp", type := .double, accessFlags := 8, slot := 7, constantValue := 0 }, { name := "twoToTheDoubleScaleDown", type := .double, accessFlags := 8, slot := 8, constantValue := 0 }, { name := "$assertionsDisabled", type := .boolean, accessFlags := 4120, slot := 9, constantValue := 0 }]
  methods := #[k4m0, k4m1]
  instanceTypes := #[]
  staticTypes := #[.double, .double, .double, .double, .double, .long, .long, .double, .double, .boolean]
  resolved := Array.replicate 460 none
  statics := none }

def pool5 : Array CpInfo := pool [(2, .class_ 4), (1, u "java/lang/Object"), (0, u "<init>"), (0, u "()V"), (1, .class_ 10), (1, u "java/lang/System"), (0, u "allowSecurityManager"), (0, u "I"), (16, u "cons"), (0, u "Ljava/io/Console;"), (77, .class_ 110), (1, u "java/lang/System$CallersHolder"), (43, u "initialErrStream"), (0, u "Ljava/io/PrintStream;"), (19, u "security"), (0, u "Ljava/lang/SecurityManager;"), (31, .class_ 209), (0, u "java/lang/System$1"), (7, u "props"), (0, u "Ljava/util/Properties;"), (2, u "lineSeparator"), (0, u "Ljava/lang/String;"), (96, .class_ 321), (1, u "java/lang/System$LoggerFinder"), (5, .class_ 328), (0, u "java/lang/System$Logger"), (67, u "err"), (2, u "out"), (91, u "notSupportedJnuEncoding"), (15, u "in"), (17, u "initialIn"), (0, u "Ljava/io/InputStream;"), (35, u "bootLayer"), (0, u "Ljava/lang/ModuleLayer;"), (99, .class_ 664), (0, u "java/lang/System$2"), (9, u "NEVER"), (2, u "MAYBE"), (49, u "arraycopy"), (0, u "(Ljava/lang/Object;ILjava/lang/Object;II)V"), (72, .class_ 802), (0, u "java/lang/System$Logger$Level")] 31

def k5m0 : Method := { name := "<init>", desc := "()V", sig := { parameters := [], returnType := none }, accessFlags := 2, code := none }
def k5m1 : Method := { name := "arraycopy", desc := "(Ljava/lang/Object;ILjava/lang/Object;II)V", sig := { parameters := [(.object "java/lang/Object"), .int, (.object "java/lang/Object"), .int, .int], returnType := none }, accessFlags := 265, code := none }
/-- java/lang/System -/
def k5 : Class := { plain "java/lang/System" (some 0) with
  accessFlags := 49
  interfaces := #[]
  cf := some (fileOf pool5 8 #[.nestMembers #[319, 327, 801, 108, 663, 208]] #[{ accessFlags := 2, nameIndex := 5, descriptorIndex := 6, attributes := #[] }, { accessFlags := 265, nameIndex := 727, descriptorIndex := 728, attributes := #[] }] 49 2 #[] #[{ accessFlags := 25, nameIndex := 507, descriptorIndex := 526, attributes := #[] }, { accessFlags := 25, nameIndex := 399, descriptorIndex := 155, attributes := #[] }, { accessFlags := 25, nameIndex := 396, descriptorIndex := 155, attributes := #[] }, { accessFlags := 10, nameIndex := 525, descriptorIndex := 526, attributes := #[] }, { accessFlags := 26, nameIndex := 674, descriptorIndex := 12, attributes := #[] }, { accessFlags := 26, nameIndex := 677, descriptorIndex := 12, attributes := #[] }, { accessFlags := 10, nameIndex := 11, descriptorIndex := 12, attributes := #[] }, { accessFlags := 74, nameIndex := 175, descriptorIndex := 176, attributes := #[] }, { accessFlags := 10, nameIndex := 491, descriptorIndex := 222, attributes := #[] }, { accessFlags := 74, nameIndex := 29, descriptorIndex := 30, attributes := #[] }, { accessFlags := 74, nameIndex := 154, descriptorIndex := 155, attributes := #[] }, { accessFlags := 10, nameIndex := 217, descriptorIndex := 218, attributes := #[] }, { accessFlags := 10, nameIndex := 221, descriptorIndex := 222, attributes := #[] }, { accessFlags := 8, nameIndex := 562, descriptorIndex := 563, attributes := #[] }])
  fields := #[{ name := "in", type := (.object "java/io/InputStream"), accessFlags := 25, slot := 0, constantValue := 0 }, { name := "out", type := (.object "java/io/PrintStream"), accessFlags := 25, slot := 1, constantValue := 0 }, { name := "err", type := (.object "java/io/PrintStream"), accessFlags := 25, slot := 2, constantValue := 0 }, { name := "initialIn", type := (.object "java/io/InputStream"), accessFlags := 10, slot := 3, constantValue := 0 }, { name := "NEVER", type := .int, accessFlags := 26, slot := 4, constantValue := 0 }, { name := "MAYBE", type := .int, accessFlags := 26, slot := 5, constantValue := 0 }, { name := "allowSecurityManager", type := .int, accessFlags := 10, slot := 6, constantValue := 0 }, { name := "security", type := (.object "java/lang/SecurityManager"), accessFlags := 74, slot := 7, constantValue := 0 }, { name := "notSupportedJnuEncoding", type := (.object "java/lang/String"), accessFlags := 10, slot := 8, constantValue := 0 }, { name := "cons", type := (.object "java/io/Console"), accessFlags := 74, slot := 9, constantValue := 0 }, { name := "initialErrStream", type := (.object "java/io/PrintStream"), accessFlags := 74, slot := 10, constantValue := 0 }, { name := "props", type := (.object "java/util/Properties"), accessFlags := 10, slot := 11, constantValue := 0 }, { name := "lineSeparator", type := (.object "java/lang/String"), accessFlags := 10, slot := 12, constantValue := 0 }, { name := "bootLayer", type := (.object "java/lang/ModuleLayer"), accessFlags := 8, slot := 13, constantValue := 0 }]
  methods := #[k5m0, k5m1]
  instanceTypes := #[]
  staticTypes := #[(.object "java/io/InputStream"), (.object "java/io/PrintStream"), (.object "java/io/PrintStream"), (.object "java/io/InputStream"), .int, .int, .int, (.object "java/lang/SecurityManager"), (.object "java/lang/String"), (.object "java/io/Console"), (.object "java/io/PrintStream"), (.object "java/util/Properties"), (.object "java/lang/String"), (.object "java/lang/ModuleLayer")]
  resolved := Array.replicate 834 none
  statics := none }

def pool6 : Array CpInfo := pool [(1, u "java/lang/Cloneable"), (0, .class_ 1), (0, u "java/lang/Object"), (0, .class_ 3)] 3

/-- java/lang/Cloneable -/
def k6 : Class := { plain "java/lang/Cloneable" (some 0) with
  accessFlags := 1537
  interfaces := #[]
  cf := some (fileOf pool6 2 #[] #[] 1537 4 #[] #[])
  fields := #[]
  methods := #[]
  instanceTypes := #[]
  staticTypes := #[]
  resolved := Array.replicate 8 none
  statics := none }

def pool7 : Array CpInfo := pool [(1, u "java/io/Serializable"), (0, .class_ 1), (0, u "java/lang/Object"), (0, .class_ 3)] 3

/-- java/io/Serializable -/
def k7 : Class := { plain "java/io/Serializable" (some 0) with
  accessFlags := 1537
  interfaces := #[]
  cf := some (fileOf pool7 2 #[] #[] 1537 4 #[] #[])
  fields := #[]
  methods := #[]
  instanceTypes := #[]
  staticTypes := #[]
  resolved := Array.replicate 8 none
  statics := none }

/-- the primitive byte -/
def k8 : Class := { plain "byte" none with kind := .primitive 'B', accessFlags := 0x411 }
/-- [B -/
def k9 : Class := { plain "[B" (some 0) with kind := .array 8 .byte, interfaces := #[6, 7], accessFlags := 1041 }

/-- the primitive int -/
def k10 : Class := { plain "int" none with kind := .primitive 'I', accessFlags := 0x411 }
/-- [I -/
def k11 : Class := { plain "[I" (some 0) with kind := .array 10 .int, interfaces := #[6, 7], accessFlags := 1041 }

def heap : Heap := #[]
def classes : Array Class := #[k0, k1, k2, k3, k4, k5, k6, k7, k8, k9, k10, k11]
def interned : List (Array UInt16 × Addr) := []
def slotsUsed : Nat := 0
def theMethod : MethodId := ⟨1, 1⟩
def args0 : Array Value := #[.long 5, .int 300, .int 7]
def aboutOver (below : List Frame) : State where
  vm := { classes := classes, interned := interned.toArray }
  heap := heap
  slotsUsed := slotsUsed
  threads := #[{ frames := .invoking theMethod args0 :: below }]
def below0 : List Frame := [.native { method := ⟨0, 0⟩, args := #[] }]
def about1 : State := aboutOver below0
def p0 : Program := .bare "" "" ""
def e0 : Env := launch0.env 0 0 0
theorem w_frames : about1.frames = Frame.invoking theMethod args0 :: below0 := rfl
set_option maxRecDepth 65536 in
theorem w_args : argsFit about1.vm theMethod args0 = true := by decide +kernel
set_option maxRecDepth 65536 in
theorem w_heap : heapFits about1 = true := by decide +kernel
set_option maxRecDepth 65536 in
theorem w_runnable : about1.curStatus? = some .runnable := by decide +kernel
set_option maxRecDepth 65536 in
theorem w_alone : about1.alone = true := by decide +kernel
set_option maxRecDepth 65536 in
theorem w_named : about1.methodNamed? x = some theMethod := by decide +kernel
set_option maxRecDepth 65536 in
theorem w_hears : about1.hears theMethod below0 = true := by decide +kernel
set_option maxRecDepth 65536 in
theorem w_ripe : about1.ripe theMethod args0 below0 = true := by decide +kernel
theorem w_running : about1.status = .running := rfl
set_option maxRecDepth 65536 in
theorem w_room : about1.hasRoom e0.platform room_1 = true :=
  launch0.hasRoom_least _ room_1 (by decide +kernel) (by decide +kernel) (by decide +kernel) (by decide +kernel) (by decide +kernel) (by decide +kernel)
theorem allAtoms_all (ts : List Jvm.Cond) (a : Array Jvm.Value) (st : Jvm.State) : (allAtoms ts).before a st = ts.all (fun c => c.before a st) := by
  induction ts with
  | nil => rfl
  | cons c t ih =>
    show (Jvm.Cond.and c (allAtoms t)).before a st = _
    rw [Jvm.Cond.before_and, ih, List.all_cons]
def words1 : List Jvm.Cond := Jvm.Cond.code x code maxLocals ret :: tables_1
/-- a 'code' word, met by the world's own term for the bytes: nothing is compared byte by byte -/
theorem code_word {y : MethodName} {bytes : ByteArray} {mx : Nat} {rt : Option FieldType} {a : Array Value} {s : State} {m : MethodId} {meth : Method} {c : Code} (h1 : s.methodNamed? y = some m) (h2 : s.vm.method? m = some meth) (h3 : meth.code = some c) (h4 : c.code = bytes)
    (h5 : (c.maxLocals == mx && c.exceptionTable.isEmpty && decide (c.maxStack ≤ mostOperands) && decide (meth.sig.returnType = rt) && !meth.locks && decide (parseMethodDescriptor y.desc = some meth.sig)) = true) : (Jvm.Cond.code y bytes mx rt).before a s = true := by
  simp only [Bool.and_eq_true, beq_iff_eq, Bool.not_eq_true', decide_eq_true_eq] at h5
  obtain ⟨⟨⟨⟨⟨g1, g2⟩, g3⟩, g4⟩, g5⟩, g6⟩ := h5
  simp [Cond.before, Cond.holds, Cond.value, h1, h2, h3, h4, g1, g2, g3, g4, g5, g6]
def isCode : Jvm.Cond → Bool
  | .code _ _ _ _ => true
  | _ => false
theorem all_split {L : List Jvm.Cond} {P : Jvm.Cond → Bool} (h1 : L.all (fun c => isCode c || P c) = true) (h2 : ∀ c ∈ L.filter isCode, P c = true) : L.all P = true := by
  refine List.all_eq_true.mpr fun c hc => ?_
  have h := List.all_eq_true.mp h1 c hc
  rcases Bool.eq_false_or_eq_true (isCode c) with hi | hi
  · exact h2 c (List.mem_filter.mpr ⟨hc, hi⟩)
  · simpa [hi] using h
set_option maxRecDepth 65536 in
theorem w_c0 : (Jvm.Cond.code x code maxLocals ret).before args0 about1 = true := code_word (m := ⟨1, 1⟩) (meth := k1m1) (c := k1c1) (by decide +kernel) rfl rfl rfl (by decide +kernel)
set_option maxRecDepth 65536 in
theorem w_c1 : (Jvm.Cond.code ({ cls := "com/example/reckoner/reckoner/Bytes", name := "<init>", desc := "()V" } : Jvm.MethodName) prog_9_method_1_code (1 : Nat) (Option.none : Option Jvm.ClassFile.FieldType)).before args0 about1 = true := code_word (m := ⟨2, 0⟩) (meth := k2m0) (c := k2c0) (by decide +kernel) rfl rfl rfl (by decide +kernel)
set_option maxRecDepth 65536 in
theorem w_c2 : (Jvm.Cond.code ({ cls := "java/lang/Object", name := "<init>", desc := "()V" } : Jvm.MethodName) object_method_1_code (1 : Nat) (Option.none : Option Jvm.ClassFile.FieldType)).before args0 about1 = true := code_word (m := ⟨0, 0⟩) (meth := k0m0) (c := k0c0) (by decide +kernel) rfl rfl rfl (by decide +kernel)
set_option maxRecDepth 65536 in
theorem w_c3 : (Jvm.Cond.code ({ cls := "com/example/reckoner/reckoner/Bytes", name := "u8", desc := "(J)Lcom/example/reckoner/reckoner/Bytes;" } : Jvm.MethodName) prog_9_method_6_code (3 : Nat) (Option.some (Jvm.ClassFile.FieldType.object "com/example/reckoner/reckoner/Bytes"))).before args0 about1 = true := code_word (m := ⟨2, 3⟩) (meth := k2m3) (c := k2c3) (by decide +kernel) rfl rfl rfl (by decide +kernel)
set_option maxRecDepth 65536 in
theorem w_c4 : (Jvm.Cond.code ({ cls := "com/example/reckoner/reckoner/Bytes", name := "u4", desc := "(I)Lcom/example/reckoner/reckoner/Bytes;" } : Jvm.MethodName) prog_9_method_5_code (3 : Nat) (Option.some (Jvm.ClassFile.FieldType.object "com/example/reckoner/reckoner/Bytes"))).before args0 about1 = true := code_word (m := ⟨2, 2⟩) (meth := k2m2) (c := k2c2) (by decide +kernel) rfl rfl rfl (by decide +kernel)
set_option maxRecDepth 65536 in
theorem w_c5 : (Jvm.Cond.code ({ cls := "com/example/reckoner/reckoner/Bytes", name := "reserve", desc := "(I)V" } : Jvm.MethodName) prog_9_method_11_code (2 : Nat) (Option.none : Option Jvm.ClassFile.FieldType)).before args0 about1 = true := code_word (m := ⟨2, 6⟩) (meth := k2m6) (c := k2c6) (by decide +kernel) rfl rfl rfl (by decide +kernel)
set_option maxRecDepth 65536 in
theorem w_c6 : (Jvm.Cond.code ({ cls := "com/example/reckoner/reckoner/Bytes", name := "setU2", desc := "(II)V" } : Jvm.MethodName) prog_9_method_9_code (3 : Nat) (Option.none : Option Jvm.ClassFile.FieldType)).before args0 about1 = true := code_word (m := ⟨2, 4⟩) (meth := k2m4) (c := k2c4) (by decide +kernel) rfl rfl rfl (by decide +kernel)
set_option maxRecDepth 65536 in
theorem w_c7 : (Jvm.Cond.code ({ cls := "com/example/reckoner/reckoner/Bytes", name := "toArray", desc := "()[B" } : Jvm.MethodName) prog_9_method_10_code (1 : Nat) (Option.some (Jvm.ClassFile.FieldType.array Jvm.ClassFile.FieldType.byte))).before args0 about1 = true := code_word (m := ⟨2, 5⟩) (meth := k2m5) (c := k2c5) (by decide +kernel) rfl rfl rfl (by decide +kernel)
set_option maxRecDepth 65536 in
theorem w_c8 : (Jvm.Cond.code ({ cls := "java/util/Arrays", name := "copyOf", desc := "([BI)[B" } : Jvm.MethodName) jdk_65_method_121_code (3 : Nat) (Option.some (Jvm.ClassFile.FieldType.array Jvm.ClassFile.FieldType.byte))).before args0 about1 = true := code_word (m := ⟨3, 1⟩) (meth := k3m1) (c := k3c1) (by decide +kernel) rfl rfl rfl (by decide +kernel)
set_option maxRecDepth 65536 in
theorem w_c9 : (Jvm.Cond.code ({ cls := "java/lang/Math", name := "min", desc := "(II)I" } : Jvm.MethodName) jdk_29_method_69_code (2 : Nat) (Option.some Jvm.ClassFile.FieldType.int)).before args0 about1 = true := code_word (m := ⟨4, 1⟩) (meth := k4m1) (c := k4c1) (by decide +kernel) rfl rfl rfl (by decide +kernel)
set_option maxRecDepth 65536 in
theorem w_c10 : (Jvm.Cond.code ({ cls := "com/example/reckoner/reckoner/Bytes", name := "length", desc := "()I" } : Jvm.MethodName) prog_9_method_2_code (1 : Nat) (Option.some Jvm.ClassFile.FieldType.int)).before args0 about1 = true := code_word (m := ⟨2, 1⟩) (meth := k2m1) (c := k2c1) (by decide +kernel) rfl rfl rfl (by decide +kernel)
set_option maxRecDepth 65536 in
theorem w_c11 : (Jvm.Cond.code ({ cls := "com/example/reckoner/reckoner/BytesSetU2PinLaw", name := "at", desc := "([BIIIJ)Z" } : Jvm.MethodName) method_3_code (7 : Nat) (Option.some Jvm.ClassFile.FieldType.boolean)).before args0 about1 = true := code_word (m := ⟨1, 2⟩) (meth := k1m2) (c := k1c2) (by decide +kernel) rfl rfl rfl (by decide +kernel)
def codes1 : List Jvm.Cond := [Jvm.Cond.code x code maxLocals ret, Jvm.Cond.code ({ cls := "com/example/reckoner/reckoner/Bytes", name := "<init>", desc := "()V" } : Jvm.MethodName) prog_9_method_1_code (1 : Nat) (Option.none : Option Jvm.ClassFile.FieldType), Jvm.Cond.code ({ cls := "java/lang/Object", name := "<init>", desc := "()V" } : Jvm.MethodName) object_method_1_code (1 : Nat) (Option.none : Option Jvm.ClassFile.FieldType), Jvm.Cond.code ({ cls := "com/example/reckoner/reckoner/Bytes", name := "u8", desc := "(J)Lcom/example/reckoner/reckoner/Bytes;" } : Jvm.MethodName) prog_9_method_6_code (3 : Nat) (Option.some (Jvm.ClassFile.FieldType.object "com/example/reckoner/reckoner/Bytes")), Jvm.Cond.code ({ cls := "com/example/reckoner/reckoner/Bytes", name := "u4", desc := "(I)Lcom/example/reckoner/reckoner/Bytes;" } : Jvm.MethodName) prog_9_method_5_code (3 : Nat) (Option.some (Jvm.ClassFile.FieldType.object "com/example/reckoner/reckoner/Bytes")), Jvm.Cond.code ({ cls := "com/example/reckoner/reckoner/Bytes", name := "reserve", desc := "(I)V" } : Jvm.MethodName) prog_9_method_11_code (2 : Nat) (Option.none : Option Jvm.ClassFile.FieldType), Jvm.Cond.code ({ cls := "com/example/reckoner/reckoner/Bytes", name := "setU2", desc := "(II)V" } : Jvm.MethodName) prog_9_method_9_code (3 : Nat) (Option.none : Option Jvm.ClassFile.FieldType), Jvm.Cond.code ({ cls := "com/example/reckoner/reckoner/Bytes", name := "toArray", desc := "()[B" } : Jvm.MethodName) prog_9_method_10_code (1 : Nat) (Option.some (Jvm.ClassFile.FieldType.array Jvm.ClassFile.FieldType.byte)), Jvm.Cond.code ({ cls := "java/util/Arrays", name := "copyOf", desc := "([BI)[B" } : Jvm.MethodName) jdk_65_method_121_code (3 : Nat) (Option.some (Jvm.ClassFile.FieldType.array Jvm.ClassFile.FieldType.byte)), Jvm.Cond.code ({ cls := "java/lang/Math", name := "min", desc := "(II)I" } : Jvm.MethodName) jdk_29_method_69_code (2 : Nat) (Option.some Jvm.ClassFile.FieldType.int), Jvm.Cond.code ({ cls := "com/example/reckoner/reckoner/Bytes", name := "length", desc := "()I" } : Jvm.MethodName) prog_9_method_2_code (1 : Nat) (Option.some Jvm.ClassFile.FieldType.int), Jvm.Cond.code ({ cls := "com/example/reckoner/reckoner/BytesSetU2PinLaw", name := "at", desc := "([BIIIJ)Z" } : Jvm.MethodName) method_3_code (7 : Nat) (Option.some Jvm.ClassFile.FieldType.boolean)]
set_option maxRecDepth 65536 in
theorem codes_eq : words1.filter isCode = codes1 := rfl
theorem w_codes : ∀ c ∈ words1.filter isCode, c.before args0 about1 = true := by
  rw [codes_eq]
  intro c hc
  simp only [codes1, List.mem_cons, List.not_mem_nil, or_false] at hc
  rcases hc with rfl | rfl | rfl | rfl | rfl | rfl | rfl | rfl | rfl | rfl | rfl | rfl
  · exact w_c0
  · exact w_c1
  · exact w_c2
  · exact w_c3
  · exact w_c4
  · exact w_c5
  · exact w_c6
  · exact w_c7
  · exact w_c8
  · exact w_c9
  · exact w_c10
  · exact w_c11
set_option maxRecDepth 65536 in
theorem w_t1 : (words1.take 24).all (fun c => isCode c || c.before args0 about1) = true := by decide +kernel
set_option maxRecDepth 65536 in
theorem w_t2 : ((words1.drop 24).take 24).all (fun c => isCode c || c.before args0 about1) = true := by decide +kernel
set_option maxRecDepth 65536 in
theorem w_t3 : ((words1.drop 24).drop 24).all (fun c => isCode c || c.before args0 about1) = true := by decide +kernel
theorem w_tables : (allAtoms (Jvm.Cond.code x code maxLocals ret :: tables_1)).before args0 about1 = true := by
  rw [allAtoms_all]
  show words1.all (fun c => c.before args0 about1) = true
  refine all_split ?_ w_codes
  rw [← List.take_append_drop 24 words1, List.all_append, w_t1, ← List.take_append_drop 24 (words1.drop 24), List.all_append, w_t2, w_t3]
  rfl
set_option maxRecDepth 65536 in
theorem w_case : (Jvm.Cond.and given_1 narrow_1).before args0 about1 = true := by decide +kernel
theorem w_applies : (headSpec (Jvm.Cond.code x code maxLocals ret :: tables_1) room_1).applies x e0.platform about1 = true :=
  (Spec.applies_iff w_frames).mpr ⟨w_running, w_runnable, w_alone, w_named, w_hears, w_ripe, w_room, w_tables⟩
theorem atStart : AtStart classFile x code maxLocals ret World_1 tables_1 room_1 Calls_1 rest_1 Pre_1 launch0 p0 e0 about1 theMethod args0 below0 :=
  ⟨lists_1, trivial, launch0.admits_env _ _ _, launch0.least_env, fairChoices_fair.cas, fairChoices_fair.clock, w_frames, w_args, w_heap, w_applies, trivial, trivial, w_case⟩
end start1
theorem witness_1 : WitnessClaimed_1 := ⟨start1.p0, start1.e0, start1.about1, start1.theMethod, start1.args0, start1.below0, start1.atStart⟩
end Jvm.Pilot.@@N@@
