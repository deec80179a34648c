import JvmDerived
import JvmDerived.Pilot.@@N@@Statement
import JvmDerived.Pilot.@@N@@Code
set_option linter.unusedVariables false
set_option linter.unusedSimpArgs false
@@BLOCK:HandJ.lean.txt@@
@@BLOCK:SymMore.lean.txt@@
namespace Jvm.RoadKit
open Sem ClassFile Op Lib Jvm.Stand Jvm.Free Jvm.LawKit
section New
variable {p : Program} {l : Launch} {e : Env} {R : Room} {s : State} {m : MethodId} {args : Array Value} {below : List Frame} {meth : Method} {c : Code} {T : State} {locs : List Loc} {cells slots : Nat}
theorem retI (X : Stand p l e R s m args below meth c T locs cells slots) (hx : p.tables.exec = Jvm.exec) {pc : Nat} {Ls : Array Slot} {z : Int32} {rest : List Value} (hret : meth.sig.returnType = some .int) (hd : decode c.code pc = .ok (.ireturn, 1)) {fs : List Frame}
    (hl : ∀ (f : JFrame) (acts : List Action), f.method = m → f.locked = none → f.entered = [] → (doReturn e (T.setTop f) acts (some (.int z))).1 = T.setFrames fs) : Steps p.tables e below (T.setTop (mkF m pc Ls (.int z :: rest))) (T.setFrames fs) := by
  have hm' : T.vm.method? m = some meth := X.method'
  have hn : narrow .int (.int z) = .int z := rfl
  show Steps p.tables e below (T.setTop { method := m, pc := pc, locals := Ls, stack := _ :: rest, locked := none }) _
  jvm_step X.here [X.here.top, hx, hd, hm', hret, hn]
  first | (intro acts; rw [hl _ acts rfl rfl rfl]) | rw [hl _ _ rfl rfl rfl]
  exact Steps.refl _
end New
end Jvm.RoadKit
namespace Jvm.Pilot.@@N@@
open Jvm Jvm.ClassFile Sem Op Lib Jvm.Free Jvm.Stand Jvm.LawKit Jvm.RoadKit Bundle Jvm.Pilot.@@N@@.Jvm.D

theorem own_d4_0 : decode prog_69_method_1_code 0 = .ok (.aload_n 0, 1) := by decide +kernel
theorem own_d4_1 : decode prog_69_method_1_code 1 = .ok (.invokespecial 1, 3) := by decide +kernel
theorem own_d4_4 : decode prog_69_method_1_code 4 = .ok (.aload_n 0, 1) := by decide +kernel
theorem own_d4_5 : decode prog_69_method_1_code 5 = .ok (.aload_n 1, 1) := by decide +kernel
theorem own_d4_6 : decode prog_69_method_1_code 6 = .ok (.putfield 7, 3) := by decide +kernel
theorem own_d4_9 : decode prog_69_method_1_code 9 = .ok (.aload_n 0, 1) := by decide +kernel
theorem own_d4_10 : decode prog_69_method_1_code 10 = .ok (.lload_n 2, 1) := by decide +kernel
theorem own_d4_11 : decode prog_69_method_1_code 11 = .ok (.putfield 13, 3) := by decide +kernel
theorem own_d4_14 : decode prog_69_method_1_code 14 = .ok (.aload_n 0, 1) := by decide +kernel
theorem own_d4_15 : decode prog_69_method_1_code 15 = .ok (.dload 4, 2) := by decide +kernel
theorem own_d4_17 : decode prog_69_method_1_code 17 = .ok (.putfield 17, 3) := by decide +kernel
theorem own_d4_20 : decode prog_69_method_1_code 20 = .ok (.return_, 1) := by decide +kernel
theorem own_pn0 : plainName "com/example/reckoner/reckoner/Value" = true := by first | (simp [plainName, overriddenIn]; done) | decide +kernel
theorem own_efvi (m : MethodId) (x0 : Addr) (x1 : Addr) (x2 : Int64) (x3 : UInt64) : entryFrame m #[(.ref x0), (.ref x1), (.long x2), (.double x3)] 6 = mkF m 0 #[.val (.ref x0), .val (.ref x1), .val (.long x2), .second, .val (.double x3), .second] [] := by first | (simp [entryFrame, mkF, argsToLocals, Value.category]; done) | rfl
def own_Qvi (Z : State) (a : Addr) (p1 : Addr) (p2 : Int64) (p3 : UInt64) (u1 : Value) (u2 : Value) (u3 : Value) (h0 : Heap) (n0 : Nat) (v : Option Value) (h : Heap) (L : List Loc) : Prop := v = none ∧ Fr n0 L ∧ Keep h0 h [a] ∧ Exa Z h a "com/example/reckoner/reckoner/Value" ∧ Fld Z h a "com/example/reckoner/reckoner/Value" "type" "Lcom/example/reckoner/reckoner/Value$Type;" (.ref p1) ∧ Fld Z h a "com/example/reckoner/reckoner/Value" "integerValue" "J" (.long p2) ∧ Fld Z h a "com/example/reckoner/reckoner/Value" "realValue" "D" (.double p3)
set_option maxRecDepth 65536 in
set_option maxHeartbeats 40000000 in
theorem own_rmvi (l : Launch) (Z : State) (a0 : Array Value) (hw : ∀ d ∈ tables_1, d.before a0 Z = true) (ws : List Jvm.Cond) (a : Addr) (p1 : Addr) (p2 : Int64) (p3 : UInt64) (u1 : Value) (u2 : Value) (u3 : Value) (h0 : Heap) (n0 : Nat) (Z0 : n0 ≤ h0.size) (P0 : Exa Z h0 a "com/example/reckoner/reckoner/Value") (P1 : Fld Z h0 a "com/example/reckoner/reckoner/Value" "type" "Lcom/example/reckoner/reckoner/Value$Type;" u1) (P2 : Fld Z h0 a "com/example/reckoner/reckoner/Value" "integerValue" "J" u2) (P3 : Fld Z h0 a "com/example/reckoner/reckoner/Value" "realValue" "D" u3) (ge_a : n0 ≤ a) :
    MetFree l (⟨"com/example/reckoner/reckoner/Value", "<init>", "(Lcom/example/reckoner/reckoner/Value$Type;JD)V"⟩ : MethodName) (head1 (Jvm.Cond.code (⟨"com/example/reckoner/reckoner/Value", "<init>", "(Lcom/example/reckoner/reckoner/Value$Type;JD)V"⟩ : MethodName) prog_69_method_1_code 6 none :: ws) ({ frames := 1, cells := 0, slots := 0, locals := 12 } : Room)) (fun aa U => aa = #[(.ref a), (.ref p1), (.long p2), (.double p3)] ∧ Z.Warmed39 U.vm ∧ U.heap = h0) (fun _ _ _ _ _ => True) (fun _ U o U' => ∃ v L, o = .returned v ∧ own_Qvi Z a p1 p2 p3 u1 u2 u3 h0 n0 v U'.heap L ∧ FrameEnd U o U' L ({ frames := 1, cells := 0, slots := 0, locals := 12 } : Room).cells ({ frames := 1, cells := 0, slots := 0, locals := 12 } : Room).slots) := by
  refine MetFree.of_bodySF (plainFor_of_name own_pn0) hisR ?_
  intro p e s m args below meth c s₁ Bd hml0 hP hK
  obtain ⟨rfl, hZ, hh⟩ := hP
  have hx := Bd.exec
  have hby := Bd.bytes
  have hml : c.maxLocals = 6 := hml0
  have hown : s.vm.findClass "com/example/reckoner/reckoner/Value" = some m.cls := findClass_of_methodNamed Bd.named
  have hnm := (name_of_methodNamed Bd.named Bd.method).1
  have X0 : Stand p l e ({ frames := 1, cells := 0, slots := 0, locals := 12 } : Room) s m #[(.ref a), (.ref p1), (.long p2), (.double p3)] below meth c s₁ [] 0 0 := Stand.of_body Bd
  have e0 : s₁.heap = h0 := by rw [← hh, Bd.state]; rfl
  have N0 := Fr.nil n0
  have pre0 : ∀ t, Steps p.tables e below (s₁.setTop (mkF m 0 #[.val (.ref a), .val (.ref p1), .val (.long p2), .second, .val (.double p3), .second] [])) t → Steps p.tables e below (s₁.setTop (entryFrame m #[(.ref a), (.ref p1), (.long p2), (.double p3)] 6)) t := fun t k => castTop (own_efvi m a p1 p2 p3) k
  have k1 : ∀ t, Steps p.tables e below (s₁.setTop (mkF m 1 #[.val (.ref a), .val (.ref p1), .val (.long p2), .second, .val (.double p3), .second] [(.ref a)])) t → Steps p.tables e below (s₁.setTop (entryFrame m #[(.ref a), (.ref p1), (.long p2), (.double p3)] 6)) t := by
    intro t k
    refine pre0 t ?_
    show Steps p.tables e below (s₁.setTop (mkF m 0 #[.val (.ref a), .val (.ref p1), .val (.long p2), .second, .val (.double p3), .second] [])) _
    refine XS.aloadN X0.here hx rfl (hb hby own_d4_0) rfl rfl ?_
    exact k
  obtain ⟨T2, X2, e2, st2⟩ := initO X0 hx hZ hown (hw _ (List.mem_of_getElem? (i := 28) rfl)) (hw _ (List.mem_of_getElem? (i := 7) rfl)) (hw _ (List.mem_of_getElem? (i := 8) rfl)) e0 (g := (mkF m 1 #[.val (.ref a), .val (.ref p1), .val (.long p2), .second, .val (.double p3), .second] [(.ref a)])) rfl (by rw [hml]; rfl) rfl (hb hby own_d4_1) (by decide) (W := 0) (by show 2 * 0 + _ ≤ _; exact Nat.le_of_eq rfl) (by decide)
  have k3 : ∀ t, Steps p.tables e below (T2.setTop (mkF m 4 #[.val (.ref a), .val (.ref p1), .val (.long p2), .second, .val (.double p3), .second] [])) t → Steps p.tables e below (s₁.setTop (entryFrame m #[(.ref a), (.ref p1), (.long p2), (.double p3)] 6)) t := fun t k => k1 t (st2 t k)
  have k4 : ∀ t, Steps p.tables e below (T2.setTop (mkF m 6 #[.val (.ref a), .val (.ref p1), .val (.long p2), .second, .val (.double p3), .second] [(.ref p1), (.ref a)])) t → Steps p.tables e below (s₁.setTop (entryFrame m #[(.ref a), (.ref p1), (.long p2), (.double p3)] 6)) t := by
    intro t k
    refine k3 t ?_
    show Steps p.tables e below (T2.setTop (mkF m 4 #[.val (.ref a), .val (.ref p1), .val (.long p2), .second, .val (.double p3), .second] [])) _
    refine XS.aloadN X2.here hx rfl (hb hby own_d4_4) rfl rfl ?_
    show Steps p.tables e below (T2.setTop (mkF m 5 #[.val (.ref a), .val (.ref p1), .val (.long p2), .second, .val (.double p3), .second] [(.ref a)])) _
    refine XS.aloadN X2.here hx rfl (hb hby own_d4_5) rfl rfl ?_
    exact k
  obtain ⟨T5, h5, X5, e5, W5, st5⟩ := putF X2 hx hZ hown (host := "") (Or.inl (hw _ (List.mem_of_getElem? (i := 29) rfl))) Via.refl e2 P1 P0 (Or.inr ⟨(hw _ (List.mem_of_getElem? (i := 30) rfl)), rfl, hnm⟩) (hw _ (List.mem_of_getElem? (i := 21) rfl)) (ty := (.object "com/example/reckoner/reckoner/Value$Type")) (by decide) rfl rfl (g := (mkF m 6 #[.val (.ref a), .val (.ref p1), .val (.long p2), .second, .val (.double p3), .second] [(.ref p1), (.ref a)])) rfl rfl (hb hby own_d4_6)
  have f6 := P0.wr W5
  have f7 := P2.other W5 (Or.inr (slot_ne (Or.inr (hw _ (List.mem_of_getElem? (i := 32) rfl))) (Or.inr (hw _ (List.mem_of_getElem? (i := 30) rfl))) (by decide) (t := .long) (t' := (.object "com/example/reckoner/reckoner/Value$Type")) (by decide) (by decide)))
  have f8 := P3.other W5 (Or.inr (slot_ne (Or.inr (hw _ (List.mem_of_getElem? (i := 34) rfl))) (Or.inr (hw _ (List.mem_of_getElem? (i := 30) rfl))) (by decide) (t := .double) (t' := (.object "com/example/reckoner/reckoner/Value$Type")) (by decide) (by decide)))
  have f9 := P1.same W5
  have N5 := Fr.snoc X5 N0 ge_a
  have K5 : Keep h0 h5 [a] := (Keep.refl h0 [a]).wr W5 (Or.inl (List.mem_of_getElem? (i := 0) rfl))
  have Z5 : n0 ≤ h5.size := Nat.le_trans Z0 (Keep.of_wr W5).1
  have k10 : ∀ t, Steps p.tables e below (T5.setTop (mkF m 9 #[.val (.ref a), .val (.ref p1), .val (.long p2), .second, .val (.double p3), .second] [])) t → Steps p.tables e below (s₁.setTop (entryFrame m #[(.ref a), (.ref p1), (.long p2), (.double p3)] 6)) t := fun t k => k4 t (st5 t k)
  have k11 : ∀ t, Steps p.tables e below (T5.setTop (mkF m 11 #[.val (.ref a), .val (.ref p1), .val (.long p2), .second, .val (.double p3), .second] [(.long p2), (.ref a)])) t → Steps p.tables e below (s₁.setTop (entryFrame m #[(.ref a), (.ref p1), (.long p2), (.double p3)] 6)) t := by
    intro t k
    refine k10 t ?_
    show Steps p.tables e below (T5.setTop (mkF m 9 #[.val (.ref a), .val (.ref p1), .val (.long p2), .second, .val (.double p3), .second] [])) _
    refine XS.aloadN X5.here hx rfl (hb hby own_d4_9) rfl rfl ?_
    show Steps p.tables e below (T5.setTop (mkF m 10 #[.val (.ref a), .val (.ref p1), .val (.long p2), .second, .val (.double p3), .second] [(.ref a)])) _
    refine XS.lloadN X5.here hx rfl (hb hby own_d4_10) rfl ?_
    exact k
  obtain ⟨T12, h12, X12, e12, W12, st12⟩ := putF X5 hx hZ hown (host := "") (Or.inl (hw _ (List.mem_of_getElem? (i := 31) rfl))) Via.refl e5 f7 f6 (Or.inr ⟨(hw _ (List.mem_of_getElem? (i := 32) rfl)), rfl, hnm⟩) (hw _ (List.mem_of_getElem? (i := 21) rfl)) (ty := .long) (by decide) rfl rfl (g := (mkF m 11 #[.val (.ref a), .val (.ref p1), .val (.long p2), .second, .val (.double p3), .second] [(.long p2), (.ref a)])) rfl rfl (hb hby own_d4_11)
  have f13 := f6.wr W12
  have f14 := f9.other W12 (Or.inr (slot_ne (Or.inr (hw _ (List.mem_of_getElem? (i := 30) rfl))) (Or.inr (hw _ (List.mem_of_getElem? (i := 32) rfl))) (by decide) (t := (.object "com/example/reckoner/reckoner/Value$Type")) (t' := .long) (by decide) (by decide)))
  have f15 := f8.other W12 (Or.inr (slot_ne (Or.inr (hw _ (List.mem_of_getElem? (i := 34) rfl))) (Or.inr (hw _ (List.mem_of_getElem? (i := 32) rfl))) (by decide) (t := .double) (t' := .long) (by decide) (by decide)))
  have f16 := f7.same W12
  have N12 := Fr.snoc X12 N5 ge_a
  have K12 : Keep h0 h12 [a] := K5.wr W12 (Or.inl (List.mem_of_getElem? (i := 0) rfl))
  have Z12 : n0 ≤ h12.size := Nat.le_trans Z5 (Keep.of_wr W12).1
  have k17 : ∀ t, Steps p.tables e below (T12.setTop (mkF m 14 #[.val (.ref a), .val (.ref p1), .val (.long p2), .second, .val (.double p3), .second] [])) t → Steps p.tables e below (s₁.setTop (entryFrame m #[(.ref a), (.ref p1), (.long p2), (.double p3)] 6)) t := fun t k => k11 t (st12 t k)
  have k18 : ∀ t, Steps p.tables e below (T12.setTop (mkF m 17 #[.val (.ref a), .val (.ref p1), .val (.long p2), .second, .val (.double p3), .second] [(.double p3), (.ref a)])) t → Steps p.tables e below (s₁.setTop (entryFrame m #[(.ref a), (.ref p1), (.long p2), (.double p3)] 6)) t := by
    intro t k
    refine k17 t ?_
    show Steps p.tables e below (T12.setTop (mkF m 14 #[.val (.ref a), .val (.ref p1), .val (.long p2), .second, .val (.double p3), .second] [])) _
    refine XS.aloadN X12.here hx rfl (hb hby own_d4_14) rfl rfl ?_
    show Steps p.tables e below (T12.setTop (mkF m 15 #[.val (.ref a), .val (.ref p1), .val (.long p2), .second, .val (.double p3), .second] [(.ref a)])) _
    refine XS.dload X12.here hx rfl (hb hby own_d4_15) rfl ?_
    exact k
  obtain ⟨T19, h19, X19, e19, W19, st19⟩ := putF X12 hx hZ hown (host := "") (Or.inl (hw _ (List.mem_of_getElem? (i := 33) rfl))) Via.refl e12 f15 f13 (Or.inr ⟨(hw _ (List.mem_of_getElem? (i := 34) rfl)), rfl, hnm⟩) (hw _ (List.mem_of_getElem? (i := 21) rfl)) (ty := .double) (by decide) rfl rfl (g := (mkF m 17 #[.val (.ref a), .val (.ref p1), .val (.long p2), .second, .val (.double p3), .second] [(.double p3), (.ref a)])) rfl rfl (hb hby own_d4_17)
  have f20 := f13.wr W19
  have f21 := f14.other W19 (Or.inr (slot_ne (Or.inr (hw _ (List.mem_of_getElem? (i := 30) rfl))) (Or.inr (hw _ (List.mem_of_getElem? (i := 34) rfl))) (by decide) (t := (.object "com/example/reckoner/reckoner/Value$Type")) (t' := .double) (by decide) (by decide)))
  have f22 := f16.other W19 (Or.inr (slot_ne (Or.inr (hw _ (List.mem_of_getElem? (i := 32) rfl))) (Or.inr (hw _ (List.mem_of_getElem? (i := 34) rfl))) (by decide) (t := .long) (t' := .double) (by decide) (by decide)))
  have f23 := f15.same W19
  have N19 := Fr.snoc X19 N12 ge_a
  have K19 : Keep h0 h19 [a] := K12.wr W19 (Or.inl (List.mem_of_getElem? (i := 0) rfl))
  have Z19 : n0 ≤ h19.size := Nat.le_trans Z12 (Keep.of_wr W19).1
  have k24 : ∀ t, Steps p.tables e below (T19.setTop (mkF m 20 #[.val (.ref a), .val (.ref p1), .val (.long p2), .second, .val (.double p3), .second] [])) t → Steps p.tables e below (s₁.setTop (entryFrame m #[(.ref a), (.ref p1), (.long p2), (.double p3)] 6)) t := fun t k => k18 t (st19 t k)
  obtain ⟨fs, hr, hrun, hended, hW, hsame⟩ := X19.leave (v := none) (fun _ => rfl)
  refine ⟨_, _, k24 _ ?_, hrun, hended, _, _, rfl, ?_, ⟨_, rfl⟩, hW, hsame.mono (by decide) (by decide)⟩
  · exact X19.returnOut hx Bd.returns (hb hby own_d4_20) hr
  · show own_Qvi Z a p1 p2 p3 u1 u2 u3 h0 n0 _ T19.heap _
    rw [e19]
    exact ⟨rfl, N19, K19, f20, f21, f22, f23⟩
theorem own_d3_0 : decode prog_69_method_2_code 0 = .ok (.new 8, 3) := by decide +kernel
theorem own_d3_3 : decode prog_69_method_2_code 3 = .ok (.dup, 1) := by decide +kernel
theorem own_d3_4 : decode prog_69_method_2_code 4 = .ok (.getstatic 21, 3) := by decide +kernel
theorem own_d3_7 : decode prog_69_method_2_code 7 = .ok (.lload_n 0, 1) := by decide +kernel
theorem own_d3_8 : decode prog_69_method_2_code 8 = .ok (.dconst 0, 1) := by decide +kernel
theorem own_d3_9 : decode prog_69_method_2_code 9 = .ok (.invokespecial 26, 3) := by decide +kernel
theorem own_d3_12 : decode prog_69_method_2_code 12 = .ok (.areturn, 1) := by decide +kernel
theorem own_pd0 : parseMethodDescriptor "(Lcom/example/reckoner/reckoner/Value$Type;JD)V" = some ⟨[(.object "com/example/reckoner/reckoner/Value$Type"), .long, .double], none⟩ := by decide +kernel
theorem own_efig (m : MethodId) (x0 : Int64) : entryFrame m #[(.long x0)] 2 = mkF m 0 #[.val (.long x0), .second] [] := by first | (simp [entryFrame, mkF, argsToLocals, Value.category]; done) | rfl
def own_Qig (Z : State) (p1 : Int64) (sI : Addr) (h0 : Heap) (n0 : Nat) (v : Option Value) (h : Heap) (L : List Loc) : Prop := ∃ b1, v = some (.ref b1) ∧ Fr n0 L ∧ Keep h0 h [] ∧ h0.size ≤ b1 ∧ Exa Z h b1 "com/example/reckoner/reckoner/Value" ∧ Fld Z h b1 "com/example/reckoner/reckoner/Value" "type" "Lcom/example/reckoner/reckoner/Value$Type;" (.ref sI) ∧ Fld Z h b1 "com/example/reckoner/reckoner/Value" "integerValue" "J" (.long p1) ∧ Fld Z h b1 "com/example/reckoner/reckoner/Value" "realValue" "D" (.double FP.dconst0)
set_option maxRecDepth 65536 in
set_option maxHeartbeats 40000000 in
theorem own_rmig (l : Launch) (Z : State) (a0 : Array Value) (hw : ∀ d ∈ tables_1, d.before a0 Z = true) (ws : List Jvm.Cond) (p1 : Int64) (sI : Addr) (h0 : Heap) (n0 : Nat) (Z0 : n0 ≤ h0.size) (Xo : Old Z n0 h0) (SI : Sta Z Z.heap "com/example/reckoner/reckoner/Value$Type" "INTEGER" "Lcom/example/reckoner/reckoner/Value$Type;" (.ref sI)) :
    MetFree l (⟨"com/example/reckoner/reckoner/Value", "integer", "(J)Lcom/example/reckoner/reckoner/Value;"⟩ : MethodName) (head1 (Jvm.Cond.code (⟨"com/example/reckoner/reckoner/Value", "integer", "(J)Lcom/example/reckoner/reckoner/Value;"⟩ : MethodName) prog_69_method_2_code 2 (some (.object "com/example/reckoner/reckoner/Value")) :: ws) ({ frames := 2, cells := 1, slots := 3, locals := 30 } : Room)) (fun aa U => aa = #[(.long p1)] ∧ Z.Warmed39 U.vm ∧ U.heap = h0) (fun _ _ _ _ _ => True) (fun _ U o U' => ∃ v L, o = .returned v ∧ own_Qig Z p1 sI h0 n0 v U'.heap L ∧ FrameEnd U o U' L ({ frames := 2, cells := 1, slots := 3, locals := 30 } : Room).cells ({ frames := 2, cells := 1, slots := 3, locals := 30 } : Room).slots) := by
  refine MetFree.of_bodySF (plainFor_of_name own_pn0) hisR ?_
  intro p e s m args below meth c s₁ Bd hml0 hP hK
  obtain ⟨rfl, hZ, hh⟩ := hP
  have hx := Bd.exec
  have hby := Bd.bytes
  have hml : c.maxLocals = 2 := hml0
  have hown : s.vm.findClass "com/example/reckoner/reckoner/Value" = some m.cls := findClass_of_methodNamed Bd.named
  have hnm := (name_of_methodNamed Bd.named Bd.method).1
  have X0 : Stand p l e ({ frames := 2, cells := 1, slots := 3, locals := 30 } : Room) s m #[(.long p1)] below meth c s₁ [] 0 0 := Stand.of_body Bd
  have e0 : s₁.heap = h0 := by rw [← hh, Bd.state]; rfl
  have N0 := Fr.nil n0
  have pre0 : ∀ t, Steps p.tables e below (s₁.setTop (mkF m 0 #[.val (.long p1), .second] [])) t → Steps p.tables e below (s₁.setTop (entryFrame m #[(.long p1)] 2)) t := fun t k => castTop (own_efig m p1) k
  obtain ⟨T1, h1, X1, e1, E1, A1, D1, -, st1⟩ := newO X0 hx hZ hown (hw _ (List.mem_of_getElem? (i := 20) rfl)) (hw _ (List.mem_of_getElem? (i := 21) rfl)) (hw _ (List.mem_of_getElem? (i := 18) rfl)) e0 (g := (mkF m 0 #[.val (.long p1), .second] [])) rfl (hb hby own_d3_0) (by decide) (by decide)
  obtain ⟨b1, g1⟩ : ∃ z, z = h0.size := ⟨_, rfl⟩
  rw [← g1] at A1 D1 st1
  have ge1 : n0 ≤ b1 := Nat.le_trans Z0 (Nat.le_of_eq g1.symm)
  have bo1 : h0.size ≤ b1 := Nat.le_trans (Keep.refl h0 []).1 (Nat.le_of_eq g1.symm)
  have Z1 : n0 ≤ h1.size := Nat.le_trans Z0 E1.1
  have K1 : Keep h0 h1 [] := (Keep.refl h0 []).ext E1
  have Xo1 := Xo.ext E1
  have f2 : Fld Z h1 b1 "com/example/reckoner/reckoner/Value" "type" "Lcom/example/reckoner/reckoner/Value$Type;" .null := D1 (Or.inr (hw _ (List.mem_of_getElem? (i := 30) rfl))) (ty := (.object "com/example/reckoner/reckoner/Value$Type")) (by decide)
  have f3 : Fld Z h1 b1 "com/example/reckoner/reckoner/Value" "integerValue" "J" (.long (0 : Int64)) := D1 (Or.inr (hw _ (List.mem_of_getElem? (i := 32) rfl))) (ty := .long) (by decide)
  have f4 : Fld Z h1 b1 "com/example/reckoner/reckoner/Value" "realValue" "D" (.double (0 : UInt64)) := D1 (Or.inr (hw _ (List.mem_of_getElem? (i := 34) rfl))) (ty := .double) (by decide)
  have k5 : ∀ t, Steps p.tables e below (T1.setTop (mkF m 3 #[.val (.long p1), .second] [(.ref b1)])) t → Steps p.tables e below (s₁.setTop (entryFrame m #[(.long p1)] 2)) t := fun t k => pre0 t (st1 t k)
  have k6 : ∀ t, Steps p.tables e below (T1.setTop (mkF m 4 #[.val (.long p1), .second] [(.ref b1), (.ref b1)])) t → Steps p.tables e below (s₁.setTop (entryFrame m #[(.long p1)] 2)) t := by
    intro t k
    refine k5 t ?_
    show Steps p.tables e below (T1.setTop (mkF m 3 #[.val (.long p1), .second] [(.ref b1)])) _
    refine XS.dup X1.here hx rfl (hb hby own_d3_3) rfl rfl ?_
    exact k
  obtain ⟨T7, X7, e7, st7⟩ := getS2 X1 hx hZ hown (host := "") (Or.inl (hw _ (List.mem_of_getElem? (i := 22) rfl))) Via.refl e1 (SI.ext Xo1.2) (g := (mkF m 4 #[.val (.long p1), .second] [(.ref b1), (.ref b1)])) rfl (hb hby own_d3_4)
  have k8 : ∀ t, Steps p.tables e below (T7.setTop (mkF m 7 #[.val (.long p1), .second] [(.ref sI), (.ref b1), (.ref b1)])) t → Steps p.tables e below (s₁.setTop (entryFrame m #[(.long p1)] 2)) t := fun t k => k6 t (st7 t k)
  have k9 : ∀ t, Steps p.tables e below (T7.setTop (mkF m 9 #[.val (.long p1), .second] [(.double FP.dconst0), (.long p1), (.ref sI), (.ref b1), (.ref b1)])) t → Steps p.tables e below (s₁.setTop (entryFrame m #[(.long p1)] 2)) t := by
    intro t k
    refine k8 t ?_
    show Steps p.tables e below (T7.setTop (mkF m 7 #[.val (.long p1), .second] [(.ref sI), (.ref b1), (.ref b1)])) _
    refine XS.lloadN X7.here hx rfl (hb hby own_d3_7) rfl ?_
    show Steps p.tables e below (T7.setTop (mkF m 8 #[.val (.long p1), .second] [(.long p1), (.ref sI), (.ref b1), (.ref b1)])) _
    refine XS.dconst0 X7.here hx rfl (hb hby own_d3_8) rfl ?_
    exact k
  obtain ⟨_, _, ⟨T10, L10, k10c, n10⟩, -, X10, ⟨Lc10, hQ10, l10, y10, z10⟩, st10⟩ := X7.specialBack hx (y := (⟨"com/example/reckoner/reckoner/Value", "<init>", "(Lcom/example/reckoner/reckoner/Value$Type;JD)V"⟩ : MethodName)) rfl hown (mvT hZ (hw _ (List.mem_of_getElem? (i := 25) rfl))) (mvT hZ (hw _ (List.mem_of_getElem? (i := 26) rfl))) (mvT hZ (hw _ (List.mem_of_getElem? (i := 27) rfl))) (by decide) (backOf (W := 1) (own_rmvi l Z a0 hw [] b1 sI p1 FP.dconst0 .null (.long (0 : Int64)) (.double (0 : UInt64)) h1 n0 Z1 A1 f2 f3 f4 ge1) hZ (hw _ (List.mem_of_getElem? (i := 27) rfl)) (hw _ (List.mem_of_getElem? (i := 18) rfl)) (by decide) (by decide)) (g := (mkF m 9 #[.val (.long p1), .second] [(.double FP.dconst0), (.long p1), (.ref sI), (.ref b1), (.ref b1)])) rfl (by rw [hml]; rfl) (Steps.refl _) (a := b1) (argsL := [(.ref sI), (.long p1), (.double FP.dconst0)]) (rest := [(.ref b1)]) (lenOf own_pd0 rfl) rfl (by show 2 * 0 + _ ≤ _; exact Nat.le_of_eq rfl) (hb hby own_d3_9) (fun _ _ => ⟨rfl, e7, (by decide : 1 + 0 ≤ _), (by decide : 3 + 0 ≤ _)⟩)
  dsimp only [Pt.U, Pt.locs, Pt.cells, Pt.slots] at X10 l10 y10 z10 st10 hQ10
  subst l10 y10 z10
  obtain ⟨rfl, N10q, Kq10, fq10_0, fq10_1, fq10_2, fq10_3⟩ := hQ10
  have N10 := Fr.app N0 N10q
  have Z10 : n0 ≤ T10.heap.size := Nat.le_trans Z1 Kq10.1
  have K10 : Keep h0 T10.heap [] := K1.trans Kq10 (fun x hx => by rcases List.mem_cons.mp hx with rfl | hx; exact Or.inr bo1; exact nomatch hx)
  have Xo10 := Xo1.keep Kq10 (allS ge1 all0)
  have k11 : ∀ t, Steps p.tables e below (T10.setTop (mkF m 12 #[.val (.long p1), .second] [(.ref b1)])) t → Steps p.tables e below (s₁.setTop (entryFrame m #[(.long p1)] 2)) t := fun t k => k9 t (st10.trans k)
  obtain ⟨fs, hr, hrun, hended, hW, hsame⟩ := X10.leave (v := (some (.ref b1))) (fun h => by rw [Bd.returns] at h; cases h)
  refine ⟨_, _, k11 _ ?_, hrun, hended, _, _, rfl, ?_, ⟨_, rfl⟩, hW, hsame.mono (by decide) (by decide)⟩
  · exact retOut X10 hx Bd.returns rfl (Or.inr (Or.inr (Or.inr (Or.inr ⟨rfl, rfl, rfl⟩)))) (hb hby own_d3_12) hr
  · show own_Qig Z p1 sI h0 n0 _ T10.heap _
    exact ⟨b1, rfl, N10, K10, bo1, fq10_0, fq10_1, fq10_2, fq10_3⟩
theorem own_d12_0 : decode prog_69_method_3_code 0 = .ok (.new 8, 3) := by decide +kernel
theorem own_d12_3 : decode prog_69_method_3_code 3 = .ok (.dup, 1) := by decide +kernel
theorem own_d12_4 : decode prog_69_method_3_code 4 = .ok (.getstatic 29, 3) := by decide +kernel
theorem own_d12_7 : decode prog_69_method_3_code 7 = .ok (.lconst 0, 1) := by decide +kernel
theorem own_d12_8 : decode prog_69_method_3_code 8 = .ok (.dload_n 0, 1) := by decide +kernel
theorem own_d12_9 : decode prog_69_method_3_code 9 = .ok (.invokespecial 26, 3) := by decide +kernel
theorem own_d12_12 : decode prog_69_method_3_code 12 = .ok (.areturn, 1) := by decide +kernel
theorem own_efre (m : MethodId) (x0 : UInt64) : entryFrame m #[(.double x0)] 2 = mkF m 0 #[.val (.double x0), .second] [] := by first | (simp [entryFrame, mkF, argsToLocals, Value.category]; done) | rfl
def own_Qre (Z : State) (p1 : UInt64) (sR : Addr) (h0 : Heap) (n0 : Nat) (v : Option Value) (h : Heap) (L : List Loc) : Prop := ∃ b1, v = some (.ref b1) ∧ Fr n0 L ∧ Keep h0 h [] ∧ h0.size ≤ b1 ∧ Exa Z h b1 "com/example/reckoner/reckoner/Value" ∧ Fld Z h b1 "com/example/reckoner/reckoner/Value" "type" "Lcom/example/reckoner/reckoner/Value$Type;" (.ref sR) ∧ Fld Z h b1 "com/example/reckoner/reckoner/Value" "integerValue" "J" (.long (0 : Int64)) ∧ Fld Z h b1 "com/example/reckoner/reckoner/Value" "realValue" "D" (.double p1)
set_option maxRecDepth 65536 in
set_option maxHeartbeats 40000000 in
theorem own_rmre (l : Launch) (Z : State) (a0 : Array Value) (hw : ∀ d ∈ tables_1, d.before a0 Z = true) (ws : List Jvm.Cond) (p1 : UInt64) (sR : Addr) (h0 : Heap) (n0 : Nat) (Z0 : n0 ≤ h0.size) (Xo : Old Z n0 h0) (SR : Sta Z Z.heap "com/example/reckoner/reckoner/Value$Type" "REAL" "Lcom/example/reckoner/reckoner/Value$Type;" (.ref sR)) :
    MetFree l (⟨"com/example/reckoner/reckoner/Value", "real", "(D)Lcom/example/reckoner/reckoner/Value;"⟩ : MethodName) (head1 (Jvm.Cond.code (⟨"com/example/reckoner/reckoner/Value", "real", "(D)Lcom/example/reckoner/reckoner/Value;"⟩ : MethodName) prog_69_method_3_code 2 (some (.object "com/example/reckoner/reckoner/Value")) :: ws) ({ frames := 2, cells := 1, slots := 3, locals := 30 } : Room)) (fun aa U => aa = #[(.double p1)] ∧ Z.Warmed39 U.vm ∧ U.heap = h0) (fun _ _ _ _ _ => True) (fun _ U o U' => ∃ v L, o = .returned v ∧ own_Qre Z p1 sR h0 n0 v U'.heap L ∧ FrameEnd U o U' L ({ frames := 2, cells := 1, slots := 3, locals := 30 } : Room).cells ({ frames := 2, cells := 1, slots := 3, locals := 30 } : Room).slots) := by
  refine MetFree.of_bodySF (plainFor_of_name own_pn0) hisR ?_
  intro p e s m args below meth c s₁ Bd hml0 hP hK
  obtain ⟨rfl, hZ, hh⟩ := hP
  have hx := Bd.exec
  have hby := Bd.bytes
  have hml : c.maxLocals = 2 := hml0
  have hown : s.vm.findClass "com/example/reckoner/reckoner/Value" = some m.cls := findClass_of_methodNamed Bd.named
  have hnm := (name_of_methodNamed Bd.named Bd.method).1
  have X0 : Stand p l e ({ frames := 2, cells := 1, slots := 3, locals := 30 } : Room) s m #[(.double p1)] below meth c s₁ [] 0 0 := Stand.of_body Bd
  have e0 : s₁.heap = h0 := by rw [← hh, Bd.state]; rfl
  have N0 := Fr.nil n0
  have pre0 : ∀ t, Steps p.tables e below (s₁.setTop (mkF m 0 #[.val (.double p1), .second] [])) t → Steps p.tables e below (s₁.setTop (entryFrame m #[(.double p1)] 2)) t := fun t k => castTop (own_efre m p1) k
  obtain ⟨T1, h1, X1, e1, E1, A1, D1, -, st1⟩ := newO X0 hx hZ hown (hw _ (List.mem_of_getElem? (i := 20) rfl)) (hw _ (List.mem_of_getElem? (i := 21) rfl)) (hw _ (List.mem_of_getElem? (i := 18) rfl)) e0 (g := (mkF m 0 #[.val (.double p1), .second] [])) rfl (hb hby own_d12_0) (by decide) (by decide)
  obtain ⟨b1, g1⟩ : ∃ z, z = h0.size := ⟨_, rfl⟩
  rw [← g1] at A1 D1 st1
  have ge1 : n0 ≤ b1 := Nat.le_trans Z0 (Nat.le_of_eq g1.symm)
  have bo1 : h0.size ≤ b1 := Nat.le_trans (Keep.refl h0 []).1 (Nat.le_of_eq g1.symm)
  have Z1 : n0 ≤ h1.size := Nat.le_trans Z0 E1.1
  have K1 : Keep h0 h1 [] := (Keep.refl h0 []).ext E1
  have Xo1 := Xo.ext E1
  have f2 : Fld Z h1 b1 "com/example/reckoner/reckoner/Value" "type" "Lcom/example/reckoner/reckoner/Value$Type;" .null := D1 (Or.inr (hw _ (List.mem_of_getElem? (i := 30) rfl))) (ty := (.object "com/example/reckoner/reckoner/Value$Type")) (by decide)
  have f3 : Fld Z h1 b1 "com/example/reckoner/reckoner/Value" "integerValue" "J" (.long (0 : Int64)) := D1 (Or.inr (hw _ (List.mem_of_getElem? (i := 32) rfl))) (ty := .long) (by decide)
  have f4 : Fld Z h1 b1 "com/example/reckoner/reckoner/Value" "realValue" "D" (.double (0 : UInt64)) := D1 (Or.inr (hw _ (List.mem_of_getElem? (i := 34) rfl))) (ty := .double) (by decide)
  have k5 : ∀ t, Steps p.tables e below (T1.setTop (mkF m 3 #[.val (.double p1), .second] [(.ref b1)])) t → Steps p.tables e below (s₁.setTop (entryFrame m #[(.double p1)] 2)) t := fun t k => pre0 t (st1 t k)
  have k6 : ∀ t, Steps p.tables e below (T1.setTop (mkF m 4 #[.val (.double p1), .second] [(.ref b1), (.ref b1)])) t → Steps p.tables e below (s₁.setTop (entryFrame m #[(.double p1)] 2)) t := by
    intro t k
    refine k5 t ?_
    show Steps p.tables e below (T1.setTop (mkF m 3 #[.val (.double p1), .second] [(.ref b1)])) _
    refine XS.dup X1.here hx rfl (hb hby own_d12_3) rfl rfl ?_
    exact k
  obtain ⟨T7, X7, e7, st7⟩ := getS2 X1 hx hZ hown (host := "") (Or.inl (hw _ (List.mem_of_getElem? (i := 75) rfl))) Via.refl e1 (SR.ext Xo1.2) (g := (mkF m 4 #[.val (.double p1), .second] [(.ref b1), (.ref b1)])) rfl (hb hby own_d12_4)
  have k8 : ∀ t, Steps p.tables e below (T7.setTop (mkF m 7 #[.val (.double p1), .second] [(.ref sR), (.ref b1), (.ref b1)])) t → Steps p.tables e below (s₁.setTop (entryFrame m #[(.double p1)] 2)) t := fun t k => k6 t (st7 t k)
  have k9 : ∀ t, Steps p.tables e below (T7.setTop (mkF m 9 #[.val (.double p1), .second] [(.double p1), (.long (0 : Int64)), (.ref sR), (.ref b1), (.ref b1)])) t → Steps p.tables e below (s₁.setTop (entryFrame m #[(.double p1)] 2)) t := by
    intro t k
    refine k8 t ?_
    show Steps p.tables e below (T7.setTop (mkF m 7 #[.val (.double p1), .second] [(.ref sR), (.ref b1), (.ref b1)])) _
    refine XS.lconst X7.here hx rfl (hb hby own_d12_7) ?_
    show Steps p.tables e below (T7.setTop (mkF m 8 #[.val (.double p1), .second] [(.long (0 : Int64)), (.ref sR), (.ref b1), (.ref b1)])) _
    refine XS.dloadN X7.here hx rfl (hb hby own_d12_8) rfl ?_
    exact k
  obtain ⟨_, _, ⟨T10, L10, k10c, n10⟩, -, X10, ⟨Lc10, hQ10, l10, y10, z10⟩, st10⟩ := X7.specialBack hx (y := (⟨"com/example/reckoner/reckoner/Value", "<init>", "(Lcom/example/reckoner/reckoner/Value$Type;JD)V"⟩ : MethodName)) rfl hown (mvT hZ (hw _ (List.mem_of_getElem? (i := 25) rfl))) (mvT hZ (hw _ (List.mem_of_getElem? (i := 26) rfl))) (mvT hZ (hw _ (List.mem_of_getElem? (i := 27) rfl))) (by decide) (backOf (W := 1) (own_rmvi l Z a0 hw [] b1 sR (0 : Int64) p1 .null (.long (0 : Int64)) (.double (0 : UInt64)) h1 n0 Z1 A1 f2 f3 f4 ge1) hZ (hw _ (List.mem_of_getElem? (i := 27) rfl)) (hw _ (List.mem_of_getElem? (i := 18) rfl)) (by decide) (by decide)) (g := (mkF m 9 #[.val (.double p1), .second] [(.double p1), (.long (0 : Int64)), (.ref sR), (.ref b1), (.ref b1)])) rfl (by rw [hml]; rfl) (Steps.refl _) (a := b1) (argsL := [(.ref sR), (.long (0 : Int64)), (.double p1)]) (rest := [(.ref b1)]) (lenOf own_pd0 rfl) rfl (by show 2 * 0 + _ ≤ _; exact Nat.le_of_eq rfl) (hb hby own_d12_9) (fun _ _ => ⟨rfl, e7, (by decide : 1 + 0 ≤ _), (by decide : 3 + 0 ≤ _)⟩)
  dsimp only [Pt.U, Pt.locs, Pt.cells, Pt.slots] at X10 l10 y10 z10 st10 hQ10
  subst l10 y10 z10
  obtain ⟨rfl, N10q, Kq10, fq10_0, fq10_1, fq10_2, fq10_3⟩ := hQ10
  have N10 := Fr.app N0 N10q
  have Z10 : n0 ≤ T10.heap.size := Nat.le_trans Z1 Kq10.1
  have K10 : Keep h0 T10.heap [] := K1.trans Kq10 (fun x hx => by rcases List.mem_cons.mp hx with rfl | hx; exact Or.inr bo1; exact nomatch hx)
  have Xo10 := Xo1.keep Kq10 (allS ge1 all0)
  have k11 : ∀ t, Steps p.tables e below (T10.setTop (mkF m 12 #[.val (.double p1), .second] [(.ref b1)])) t → Steps p.tables e below (s₁.setTop (entryFrame m #[(.double p1)] 2)) t := fun t k => k9 t (st10.trans k)
  obtain ⟨fs, hr, hrun, hended, hW, hsame⟩ := X10.leave (v := (some (.ref b1))) (fun h => by rw [Bd.returns] at h; cases h)
  refine ⟨_, _, k11 _ ?_, hrun, hended, _, _, rfl, ?_, ⟨_, rfl⟩, hW, hsame.mono (by decide) (by decide)⟩
  · exact retOut X10 hx Bd.returns rfl (Or.inr (Or.inr (Or.inr (Or.inr ⟨rfl, rfl, rfl⟩)))) (hb hby own_d12_12) hr
  · show own_Qre Z p1 sR h0 n0 _ T10.heap _
    exact ⟨b1, rfl, N10, K10, bo1, fq10_0, fq10_1, fq10_2, fq10_3⟩
theorem own_d1_0 : decode prog_48_method_1_code 0 = .ok (.aload_n 0, 1) := by decide +kernel
theorem own_d1_1 : decode prog_48_method_1_code 1 = .ok (.invokespecial 1, 3) := by decide +kernel
theorem own_d1_4 : decode prog_48_method_1_code 4 = .ok (.aload_n 0, 1) := by decide +kernel
theorem own_d1_5 : decode prog_48_method_1_code 5 = .ok (.iload_n 1, 1) := by decide +kernel
theorem own_d1_6 : decode prog_48_method_1_code 6 = .ok (.anewarray 7, 3) := by decide +kernel
theorem own_d1_9 : decode prog_48_method_1_code 9 = .ok (.putfield 9, 3) := by decide +kernel
theorem own_d1_12 : decode prog_48_method_1_code 12 = .ok (.aload_n 0, 1) := by decide +kernel
theorem own_d1_13 : decode prog_48_method_1_code 13 = .ok (.iload_n 1, 1) := by decide +kernel
theorem own_d1_14 : decode prog_48_method_1_code 14 = .ok (.newarray .double, 2) := by decide +kernel
theorem own_d1_16 : decode prog_48_method_1_code 16 = .ok (.putfield 15, 3) := by decide +kernel
theorem own_d1_19 : decode prog_48_method_1_code 19 = .ok (.return_, 1) := by decide +kernel
theorem own_pn1 : plainName "com/example/reckoner/reckoner/OperandStack" = true := by first | (simp [plainName, overriddenIn]; done) | decide +kernel
theorem own_efoi (m : MethodId) (x0 : Addr) : entryFrame m #[(.ref x0), (.int (3 : Int32))] 2 = mkF m 0 #[.val (.ref x0), .val (.int (3 : Int32))] [] := by first | (simp [entryFrame, mkF, argsToLocals, Value.category]; done) | rfl
def own_Qoi (Z : State) (a : Addr) (u1 : Value) (u2 : Value) (h0 : Heap) (n0 : Nat) (v : Option Value) (h : Heap) (L : List Loc) : Prop := ∃ b5 b20 c5 c20, v = none ∧ Fr n0 L ∧ Keep h0 h [a] ∧ h0.size ≤ b5 ∧ h0.size ≤ b20 ∧ b5 ≠ b20 ∧ Exa Z h a "com/example/reckoner/reckoner/OperandStack" ∧ Fld Z h a "com/example/reckoner/reckoner/OperandStack" "values" "[Lcom/example/reckoner/reckoner/Value;" (.ref b5) ∧ Fld Z h a "com/example/reckoner/reckoner/OperandStack" "reals" "[D" (.ref b20) ∧ Fld Z h a "com/example/reckoner/reckoner/OperandStack" "height" "I" (.int (0 : Int32)) ∧ Arv Z h b5 c5 (.object "com/example/reckoner/reckoner/Value") (3 : Int32) [.null, .null, .null] .null ∧ Ovr Z c5 "com/example/reckoner/reckoner/Value" ∧ Arv Z h b20 c20 .double (3 : Int32) [(.double (0 : UInt64)), (.double (0 : UInt64)), (.double (0 : UInt64))] (.double (0 : UInt64))
set_option maxRecDepth 65536 in
set_option maxHeartbeats 40000000 in
theorem own_rmoi (l : Launch) (Z : State) (a0 : Array Value) (hw : ∀ d ∈ tables_1, d.before a0 Z = true) (ws : List Jvm.Cond) (a : Addr) (u1 : Value) (u2 : Value) (h0 : Heap) (n0 : Nat) (Z0 : n0 ≤ h0.size) (P0 : Exa Z h0 a "com/example/reckoner/reckoner/OperandStack") (P1 : Fld Z h0 a "com/example/reckoner/reckoner/OperandStack" "values" "[Lcom/example/reckoner/reckoner/Value;" u1) (P2 : Fld Z h0 a "com/example/reckoner/reckoner/OperandStack" "reals" "[D" u2) (P3 : Fld Z h0 a "com/example/reckoner/reckoner/OperandStack" "height" "I" (.int (0 : Int32))) (ge_a : n0 ≤ a) :
    MetFree l (⟨"com/example/reckoner/reckoner/OperandStack", "<init>", "(I)V"⟩ : MethodName) (head1 (Jvm.Cond.code (⟨"com/example/reckoner/reckoner/OperandStack", "<init>", "(I)V"⟩ : MethodName) prog_48_method_1_code 2 none :: ws) ({ frames := 1, cells := 2, slots := 6, locals := 12 } : Room)) (fun aa U => aa = #[(.ref a), (.int (3 : Int32))] ∧ Z.Warmed39 U.vm ∧ U.heap = h0) (fun _ _ _ _ _ => True) (fun _ U o U' => ∃ v L, o = .returned v ∧ own_Qoi Z a u1 u2 h0 n0 v U'.heap L ∧ FrameEnd U o U' L ({ frames := 1, cells := 2, slots := 6, locals := 12 } : Room).cells ({ frames := 1, cells := 2, slots := 6, locals := 12 } : Room).slots) := by
  refine MetFree.of_bodySF (plainFor_of_name own_pn1) hisR ?_
  intro p e s m args below meth c s₁ Bd hml0 hP hK
  obtain ⟨rfl, hZ, hh⟩ := hP
  have hx := Bd.exec
  have hby := Bd.bytes
  have hml : c.maxLocals = 2 := hml0
  have hown : s.vm.findClass "com/example/reckoner/reckoner/OperandStack" = some m.cls := findClass_of_methodNamed Bd.named
  have hnm := (name_of_methodNamed Bd.named Bd.method).1
  have X0 : Stand p l e ({ frames := 1, cells := 2, slots := 6, locals := 12 } : Room) s m #[(.ref a), (.int (3 : Int32))] below meth c s₁ [] 0 0 := Stand.of_body Bd
  have e0 : s₁.heap = h0 := by rw [← hh, Bd.state]; rfl
  have N0 := Fr.nil n0
  have pre0 : ∀ t, Steps p.tables e below (s₁.setTop (mkF m 0 #[.val (.ref a), .val (.int (3 : Int32))] [])) t → Steps p.tables e below (s₁.setTop (entryFrame m #[(.ref a), (.int (3 : Int32))] 2)) t := fun t k => castTop (own_efoi m a) k
  have k1 : ∀ t, Steps p.tables e below (s₁.setTop (mkF m 1 #[.val (.ref a), .val (.int (3 : Int32))] [(.ref a)])) t → Steps p.tables e below (s₁.setTop (entryFrame m #[(.ref a), (.int (3 : Int32))] 2)) t := by
    intro t k
    refine pre0 t ?_
    show Steps p.tables e below (s₁.setTop (mkF m 0 #[.val (.ref a), .val (.int (3 : Int32))] [])) _
    refine XS.aloadN X0.here hx rfl (hb hby own_d1_0) rfl rfl ?_
    exact k
  obtain ⟨T2, X2, e2, st2⟩ := initO X0 hx hZ hown (hw _ (List.mem_of_getElem? (i := 6) rfl)) (hw _ (List.mem_of_getElem? (i := 7) rfl)) (hw _ (List.mem_of_getElem? (i := 8) rfl)) e0 (g := (mkF m 1 #[.val (.ref a), .val (.int (3 : Int32))] [(.ref a)])) rfl (by rw [hml]; rfl) rfl (hb hby own_d1_1) (by decide) (W := 0) (by show 2 * 0 + _ ≤ _; exact Nat.le_of_eq rfl) (by decide)
  have k3 : ∀ t, Steps p.tables e below (T2.setTop (mkF m 4 #[.val (.ref a), .val (.int (3 : Int32))] [])) t → Steps p.tables e below (s₁.setTop (entryFrame m #[(.ref a), (.int (3 : Int32))] 2)) t := fun t k => k1 t (st2 t k)
  have k4 : ∀ t, Steps p.tables e below (T2.setTop (mkF m 6 #[.val (.ref a), .val (.int (3 : Int32))] [(.int (3 : Int32)), (.ref a)])) t → Steps p.tables e below (s₁.setTop (entryFrame m #[(.ref a), (.int (3 : Int32))] 2)) t := by
    intro t k
    refine k3 t ?_
    show Steps p.tables e below (T2.setTop (mkF m 4 #[.val (.ref a), .val (.int (3 : Int32))] [])) _
    refine XS.aloadN X2.here hx rfl (hb hby own_d1_4) rfl rfl ?_
    show Steps p.tables e below (T2.setTop (mkF m 5 #[.val (.ref a), .val (.int (3 : Int32))] [(.ref a)])) _
    refine XS.iloadN X2.here hx rfl (hb hby own_d1_5) rfl ?_
    exact k
  obtain ⟨T5, h5, c5, X5, e5, E5, A5, O5, st5⟩ := newR X2 hx hZ hown (hw _ (List.mem_of_getElem? (i := 9) rfl)) (hw _ (List.mem_of_getElem? (i := 10) rfl)) e2 (g := (mkF m 6 #[.val (.ref a), .val (.int (3 : Int32))] [(.int (3 : Int32)), (.ref a)])) rfl (hb hby own_d1_6) rfl (by decide) (cap := 3) (by decide) (by decide) (by decide) (by decide)
  obtain ⟨b5, g5⟩ : ∃ z, z = h0.size := ⟨_, rfl⟩
  rw [← g5] at A5 st5
  have ge5 : n0 ≤ b5 := Nat.le_trans Z0 (Nat.le_of_eq g5.symm)
  have bo5 : h0.size ≤ b5 := Nat.le_trans (Keep.refl h0 [a]).1 (Nat.le_of_eq g5.symm)
  have ne6 : a ≠ b5 := Nat.ne_of_lt (Nat.lt_of_lt_of_le P0.lt (Nat.le_of_eq g5.symm))
  have Z5 : n0 ≤ h5.size := Nat.le_trans Z0 E5.1
  have K5 : Keep h0 h5 [a] := (Keep.refl h0 [a]).ext E5
  have f7 := P0.ext E5
  have f8 := P1.ext E5
  have f9 := P2.ext E5
  have f10 := P3.ext E5
  have V5 : Arv Z h5 b5 c5 (.object "com/example/reckoner/reckoner/Value") (3 : Int32) [.null, .null, .null] .null := (Arv.new A5 (by decide)).pad (pad_rep [] .null 3)
  have k11 : ∀ t, Steps p.tables e below (T5.setTop (mkF m 9 #[.val (.ref a), .val (.int (3 : Int32))] [(.ref b5), (.ref a)])) t → Steps p.tables e below (s₁.setTop (entryFrame m #[(.ref a), (.int (3 : Int32))] 2)) t := fun t k => k4 t (st5 t k)
  obtain ⟨T12, h12, X12, e12, W12, st12⟩ := putF X5 hx hZ hown (host := "") (Or.inl (hw _ (List.mem_of_getElem? (i := 11) rfl))) Via.refl e5 f8 f7 (Or.inr ⟨(hw _ (List.mem_of_getElem? (i := 12) rfl)), rfl, hnm⟩) (hw _ (List.mem_of_getElem? (i := 1) rfl)) (ty := (.array (.object "com/example/reckoner/reckoner/Value"))) (by decide) rfl rfl (g := (mkF m 9 #[.val (.ref a), .val (.int (3 : Int32))] [(.ref b5), (.ref a)])) rfl rfl (hb hby own_d1_9)
  have f13 := f7.wr W12
  have f14 := f9.other W12 (Or.inr (slot_ne (Or.inr (hw _ (List.mem_of_getElem? (i := 15) rfl))) (Or.inr (hw _ (List.mem_of_getElem? (i := 12) rfl))) (by decide) (t := (.array .double)) (t' := (.array (.object "com/example/reckoner/reckoner/Value"))) (by decide) (by decide)))
  have f15 := f10.other W12 (Or.inr (slot_ne (Or.inl (hw _ (List.mem_of_getElem? (i := 41) rfl))) (Or.inr (hw _ (List.mem_of_getElem? (i := 12) rfl))) (by decide) (t := .int) (t' := (.array (.object "com/example/reckoner/reckoner/Value"))) (by decide) (by decide)))
  have f16 := V5.other W12 (Ne.symm ne6)
  have f17 := f8.same W12
  have N12 := Fr.snoc X12 N0 ge_a
  have K12 : Keep h0 h12 [a] := K5.wr W12 (Or.inl (List.mem_of_getElem? (i := 0) rfl))
  have Z12 : n0 ≤ h12.size := Nat.le_trans Z5 (Keep.of_wr W12).1
  have k18 : ∀ t, Steps p.tables e below (T12.setTop (mkF m 12 #[.val (.ref a), .val (.int (3 : Int32))] [])) t → Steps p.tables e below (s₁.setTop (entryFrame m #[(.ref a), (.int (3 : Int32))] 2)) t := fun t k => k11 t (st12 t k)
  have k19 : ∀ t, Steps p.tables e below (T12.setTop (mkF m 14 #[.val (.ref a), .val (.int (3 : Int32))] [(.int (3 : Int32)), (.ref a)])) t → Steps p.tables e below (s₁.setTop (entryFrame m #[(.ref a), (.int (3 : Int32))] 2)) t := by
    intro t k
    refine k18 t ?_
    show Steps p.tables e below (T12.setTop (mkF m 12 #[.val (.ref a), .val (.int (3 : Int32))] [])) _
    refine XS.aloadN X12.here hx rfl (hb hby own_d1_12) rfl rfl ?_
    show Steps p.tables e below (T12.setTop (mkF m 13 #[.val (.ref a), .val (.int (3 : Int32))] [(.ref a)])) _
    refine XS.iloadN X12.here hx rfl (hb hby own_d1_13) rfl ?_
    exact k
  obtain ⟨T20, h20, c20, X20, e20, E20, A20, st20⟩ := newP X12 hx hZ (hw _ (List.mem_of_getElem? (i := 13) rfl)) e12 (g := (mkF m 14 #[.val (.ref a), .val (.int (3 : Int32))] [(.int (3 : Int32)), (.ref a)])) rfl (hb hby own_d1_14) rfl (by decide) (cap := 3) (by decide) (by decide) (by decide) (by decide)
  obtain ⟨b20, g20⟩ : ∃ z, z = h12.size := ⟨_, rfl⟩
  rw [← g20] at A20 st20
  have ge20 : n0 ≤ b20 := Nat.le_trans Z12 (Nat.le_of_eq g20.symm)
  have bo20 : h0.size ≤ b20 := Nat.le_trans K12.1 (Nat.le_of_eq g20.symm)
  have ne21 : a ≠ b20 := Nat.ne_of_lt (Nat.lt_of_lt_of_le f13.lt (Nat.le_of_eq g20.symm))
  have ne22 : b5 ≠ b20 := Nat.ne_of_lt (Nat.lt_of_lt_of_le f16.lt (Nat.le_of_eq g20.symm))
  have Z20 : n0 ≤ h20.size := Nat.le_trans Z12 E20.1
  have K20 : Keep h0 h20 [a] := K12.ext E20
  have f23 := f13.ext E20
  have f24 := f17.ext E20
  have f25 := f14.ext E20
  have f26 := f15.ext E20
  have f27 := f16.ext E20
  have V20 : Arv Z h20 b20 c20 .double (3 : Int32) [(.double (0 : UInt64)), (.double (0 : UInt64)), (.double (0 : UInt64))] (.double (0 : UInt64)) := (Arv.new A20 (by decide)).pad (pad_rep [] (.double (0 : UInt64)) 3)
  have k28 : ∀ t, Steps p.tables e below (T20.setTop (mkF m 16 #[.val (.ref a), .val (.int (3 : Int32))] [(.ref b20), (.ref a)])) t → Steps p.tables e below (s₁.setTop (entryFrame m #[(.ref a), (.int (3 : Int32))] 2)) t := fun t k => k19 t (st20 t k)
  obtain ⟨T29, h29, X29, e29, W29, st29⟩ := putF X20 hx hZ hown (host := "") (Or.inl (hw _ (List.mem_of_getElem? (i := 14) rfl))) Via.refl e20 f25 f23 (Or.inr ⟨(hw _ (List.mem_of_getElem? (i := 15) rfl)), rfl, hnm⟩) (hw _ (List.mem_of_getElem? (i := 1) rfl)) (ty := (.array .double)) (by decide) rfl rfl (g := (mkF m 16 #[.val (.ref a), .val (.int (3 : Int32))] [(.ref b20), (.ref a)])) rfl rfl (hb hby own_d1_16)
  have f30 := f23.wr W29
  have f31 := f24.other W29 (Or.inr (slot_ne (Or.inr (hw _ (List.mem_of_getElem? (i := 12) rfl))) (Or.inr (hw _ (List.mem_of_getElem? (i := 15) rfl))) (by decide) (t := (.array (.object "com/example/reckoner/reckoner/Value"))) (t' := (.array .double)) (by decide) (by decide)))
  have f32 := f26.other W29 (Or.inr (slot_ne (Or.inl (hw _ (List.mem_of_getElem? (i := 41) rfl))) (Or.inr (hw _ (List.mem_of_getElem? (i := 15) rfl))) (by decide) (t := .int) (t' := (.array .double)) (by decide) (by decide)))
  have f33 := f27.other W29 (Ne.symm ne6)
  have f34 := V20.other W29 (Ne.symm ne21)
  have f35 := f25.same W29
  have N29 := Fr.snoc X29 N12 ge_a
  have K29 : Keep h0 h29 [a] := K20.wr W29 (Or.inl (List.mem_of_getElem? (i := 0) rfl))
  have Z29 : n0 ≤ h29.size := Nat.le_trans Z20 (Keep.of_wr W29).1
  have k36 : ∀ t, Steps p.tables e below (T29.setTop (mkF m 19 #[.val (.ref a), .val (.int (3 : Int32))] [])) t → Steps p.tables e below (s₁.setTop (entryFrame m #[(.ref a), (.int (3 : Int32))] 2)) t := fun t k => k28 t (st29 t k)
  obtain ⟨fs, hr, hrun, hended, hW, hsame⟩ := X29.leave (v := none) (fun _ => rfl)
  refine ⟨_, _, k36 _ ?_, hrun, hended, _, _, rfl, ?_, ⟨_, rfl⟩, hW, hsame.mono (by decide) (by decide)⟩
  · exact X29.returnOut hx Bd.returns (hb hby own_d1_19) hr
  · show own_Qoi Z a u1 u2 h0 n0 _ T29.heap _
    rw [e29]
    exact ⟨b5, b20, c5, c20, rfl, N29, K29, bo5, bo20, ne22, f30, f31, f35, f32, f33, O5, f34⟩
theorem own_d5_0 : decode prog_48_method_2_code 0 = .ok (.aload_n 0, 1) := by decide +kernel
theorem own_d5_1 : decode prog_48_method_2_code 1 = .ok (.getfield 9, 3) := by decide +kernel
theorem own_d5_4 : decode prog_48_method_2_code 4 = .ok (.aload_n 0, 1) := by decide +kernel
theorem own_d5_5 : decode prog_48_method_2_code 5 = .ok (.dup, 1) := by decide +kernel
theorem own_d5_6 : decode prog_48_method_2_code 6 = .ok (.getfield 19, 3) := by decide +kernel
theorem own_d5_9 : decode prog_48_method_2_code 9 = .ok (.dup_x1, 1) := by decide +kernel
theorem own_d5_10 : decode prog_48_method_2_code 10 = .ok (.iconst 1, 1) := by decide +kernel
theorem own_d5_11 : decode prog_48_method_2_code 11 = .ok (.iadd, 1) := by decide +kernel
theorem own_d5_12 : decode prog_48_method_2_code 12 = .ok (.putfield 19, 3) := by decide +kernel
theorem own_d5_15 : decode prog_48_method_2_code 15 = .ok (.aload_n 1, 1) := by decide +kernel
theorem own_d5_16 : decode prog_48_method_2_code 16 = .ok (.aastore, 1) := by decide +kernel
theorem own_d5_17 : decode prog_48_method_2_code 17 = .ok (.return_, 1) := by decide +kernel
theorem own_efpu0 (m : MethodId) (x0 : Addr) (x1 : Addr) : entryFrame m #[(.ref x0), (.ref x1)] 2 = mkF m 0 #[.val (.ref x0), .val (.ref x1)] [] := by first | (simp [entryFrame, mkF, argsToLocals, Value.category]; done) | rfl
def own_Qpu0 (Z : State) (a : Addr) (p1 : Addr) (vs : Addr) (rs : Addr) (cv : ClassId) (cr : ClassId) (el0 : Value) (el1 : Value) (el2 : Value) (d0 : UInt64) (d1 : UInt64) (d2 : UInt64) (h0 : Heap) (n0 : Nat) (v : Option Value) (h : Heap) (L : List Loc) : Prop := v = none ∧ Fr n0 L ∧ Keep h0 h [a, vs] ∧ Exa Z h a "com/example/reckoner/reckoner/OperandStack" ∧ Fld Z h a "com/example/reckoner/reckoner/OperandStack" "values" "[Lcom/example/reckoner/reckoner/Value;" (.ref vs) ∧ Fld Z h a "com/example/reckoner/reckoner/OperandStack" "reals" "[D" (.ref rs) ∧ Fld Z h a "com/example/reckoner/reckoner/OperandStack" "height" "I" (.int (1 : Int32)) ∧ Arv Z h vs cv (.object "com/example/reckoner/reckoner/Value") (3 : Int32) [(.ref p1), el1, el2] .null ∧ Ovr Z cv "com/example/reckoner/reckoner/Value" ∧ Arv Z h rs cr .double (3 : Int32) [(.double d0), (.double d1), (.double d2)] (.double (0 : UInt64)) ∧ Exa Z h p1 "com/example/reckoner/reckoner/Value"
set_option maxRecDepth 65536 in
set_option maxHeartbeats 40000000 in
theorem own_rmpu0 (l : Launch) (Z : State) (a0 : Array Value) (hw : ∀ d ∈ tables_1, d.before a0 Z = true) (ws : List Jvm.Cond) (a : Addr) (p1 : Addr) (vs : Addr) (rs : Addr) (cv : ClassId) (cr : ClassId) (el0 : Value) (el1 : Value) (el2 : Value) (d0 : UInt64) (d1 : UInt64) (d2 : UInt64) (h0 : Heap) (n0 : Nat) (Z0 : n0 ≤ h0.size) (P0 : Exa Z h0 a "com/example/reckoner/reckoner/OperandStack") (P1 : Fld Z h0 a "com/example/reckoner/reckoner/OperandStack" "values" "[Lcom/example/reckoner/reckoner/Value;" (.ref vs)) (P2 : Fld Z h0 a "com/example/reckoner/reckoner/OperandStack" "reals" "[D" (.ref rs)) (P3 : Fld Z h0 a "com/example/reckoner/reckoner/OperandStack" "height" "I" (.int (0 : Int32))) (P4 : Arv Z h0 vs cv (.object "com/example/reckoner/reckoner/Value") (3 : Int32) [el0, el1, el2] .null) (P5 : Ovr Z cv "com/example/reckoner/reckoner/Value") (P6 : Arv Z h0 rs cr .double (3 : Int32) [(.double d0), (.double d1), (.double d2)] (.double (0 : UInt64))) (P7 : Exa Z h0 p1 "com/example/reckoner/reckoner/Value") (ge_a : n0 ≤ a) (ge_vs : n0 ≤ vs) (ge_rs : n0 ≤ rs) (ne_a_vs : a ≠ vs) (ne_a_rs : a ≠ rs) (ne_vs_rs : vs ≠ rs) :
    MetFree l (⟨"com/example/reckoner/reckoner/OperandStack", "push", "(Lcom/example/reckoner/reckoner/Value;)V"⟩ : MethodName) (head1 (Jvm.Cond.code (⟨"com/example/reckoner/reckoner/OperandStack", "push", "(Lcom/example/reckoner/reckoner/Value;)V"⟩ : MethodName) prog_48_method_2_code 2 none :: ws) ({ frames := 0, cells := 0, slots := 0, locals := 0 } : Room)) (fun aa U => aa = #[(.ref a), (.ref p1)] ∧ Z.Warmed39 U.vm ∧ U.heap = h0) (fun _ _ _ _ _ => True) (fun _ U o U' => ∃ v L, o = .returned v ∧ own_Qpu0 Z a p1 vs rs cv cr el0 el1 el2 d0 d1 d2 h0 n0 v U'.heap L ∧ FrameEnd U o U' L ({ frames := 0, cells := 0, slots := 0, locals := 0 } : Room).cells ({ frames := 0, cells := 0, slots := 0, locals := 0 } : Room).slots) := by
  refine MetFree.of_bodySF (plainFor_of_name own_pn1) hisR ?_
  intro p e s m args below meth c s₁ Bd hml0 hP hK
  obtain ⟨rfl, hZ, hh⟩ := hP
  have hx := Bd.exec
  have hby := Bd.bytes
  have hml : c.maxLocals = 2 := hml0
  have hown : s.vm.findClass "com/example/reckoner/reckoner/OperandStack" = some m.cls := findClass_of_methodNamed Bd.named
  have hnm := (name_of_methodNamed Bd.named Bd.method).1
  have X0 : Stand p l e ({ frames := 0, cells := 0, slots := 0, locals := 0 } : Room) s m #[(.ref a), (.ref p1)] below meth c s₁ [] 0 0 := Stand.of_body Bd
  have e0 : s₁.heap = h0 := by rw [← hh, Bd.state]; rfl
  have N0 := Fr.nil n0
  have pre0 : ∀ t, Steps p.tables e below (s₁.setTop (mkF m 0 #[.val (.ref a), .val (.ref p1)] [])) t → Steps p.tables e below (s₁.setTop (entryFrame m #[(.ref a), (.ref p1)] 2)) t := fun t k => castTop (own_efpu0 m a p1) k
  have k1 : ∀ t, Steps p.tables e below (s₁.setTop (mkF m 1 #[.val (.ref a), .val (.ref p1)] [(.ref a)])) t → Steps p.tables e below (s₁.setTop (entryFrame m #[(.ref a), (.ref p1)] 2)) t := by
    intro t k
    refine pre0 t ?_
    show Steps p.tables e below (s₁.setTop (mkF m 0 #[.val (.ref a), .val (.ref p1)] [])) _
    refine XS.aloadN X0.here hx rfl (hb hby own_d5_0) rfl rfl ?_
    exact k
  obtain ⟨T2, X2, e2, st2⟩ := getF X0 hx hZ hown (host := "") (Or.inl (hw _ (List.mem_of_getElem? (i := 11) rfl))) Via.refl e0 P1 (g := (mkF m 1 #[.val (.ref a), .val (.ref p1)] [(.ref a)])) rfl rfl (hb hby own_d5_1)
  have k3 : ∀ t, Steps p.tables e below (T2.setTop (mkF m 4 #[.val (.ref a), .val (.ref p1)] [(.ref vs)])) t → Steps p.tables e below (s₁.setTop (entryFrame m #[(.ref a), (.ref p1)] 2)) t := fun t k => k1 t (st2 t k)
  have k4 : ∀ t, Steps p.tables e below (T2.setTop (mkF m 6 #[.val (.ref a), .val (.ref p1)] [(.ref a), (.ref a), (.ref vs)])) t → Steps p.tables e below (s₁.setTop (entryFrame m #[(.ref a), (.ref p1)] 2)) t := by
    intro t k
    refine k3 t ?_
    show Steps p.tables e below (T2.setTop (mkF m 4 #[.val (.ref a), .val (.ref p1)] [(.ref vs)])) _
    refine XS.aloadN X2.here hx rfl (hb hby own_d5_4) rfl rfl ?_
    show Steps p.tables e below (T2.setTop (mkF m 5 #[.val (.ref a), .val (.ref p1)] [(.ref a), (.ref vs)])) _
    refine XS.dup X2.here hx rfl (hb hby own_d5_5) rfl rfl ?_
    exact k
  obtain ⟨T5, X5, e5, st5⟩ := getF X2 hx hZ hown (host := "") (Or.inl (hw _ (List.mem_of_getElem? (i := 40) rfl))) Via.refl e2 P3 (g := (mkF m 6 #[.val (.ref a), .val (.ref p1)] [(.ref a), (.ref a), (.ref vs)])) rfl rfl (hb hby own_d5_6)
  have k6 : ∀ t, Steps p.tables e below (T5.setTop (mkF m 9 #[.val (.ref a), .val (.ref p1)] [(.int (0 : Int32)), (.ref a), (.ref vs)])) t → Steps p.tables e below (s₁.setTop (entryFrame m #[(.ref a), (.ref p1)] 2)) t := fun t k => k4 t (st5 t k)
  have k7 : ∀ t, Steps p.tables e below (T5.setTop (mkF m 12 #[.val (.ref a), .val (.ref p1)] [(.int (1 : Int32)), (.ref a), (.int (0 : Int32)), (.ref vs)])) t → Steps p.tables e below (s₁.setTop (entryFrame m #[(.ref a), (.ref p1)] 2)) t := by
    intro t k
    refine k6 t ?_
    show Steps p.tables e below (T5.setTop (mkF m 9 #[.val (.ref a), .val (.ref p1)] [(.int (0 : Int32)), (.ref a), (.ref vs)])) _
    refine XS.dupX1 X5.here hx rfl (hb hby own_d5_9) rfl rfl rfl ?_
    show Steps p.tables e below (T5.setTop (mkF m 10 #[.val (.ref a), .val (.ref p1)] [(.int (0 : Int32)), (.ref a), (.int (0 : Int32)), (.ref vs)])) _
    refine XS.iconst X5.here hx rfl (hb hby own_d5_10) ?_
    show Steps p.tables e below (T5.setTop (mkF m 11 #[.val (.ref a), .val (.ref p1)] [(.int (1 : Int32)), (.int (0 : Int32)), (.ref a), (.int (0 : Int32)), (.ref vs)])) _
    refine XS.iadd X5.here hx rfl (hb hby own_d5_11) rfl ?_
    exact k
  obtain ⟨T8, h8, X8, e8, W8, st8⟩ := putF X5 hx hZ hown (host := "") (Or.inl (hw _ (List.mem_of_getElem? (i := 40) rfl))) Via.refl e5 P3 P0 (Or.inl (hw _ (List.mem_of_getElem? (i := 41) rfl))) (hw _ (List.mem_of_getElem? (i := 1) rfl)) (ty := .int) (by decide) rfl rfl (g := (mkF m 12 #[.val (.ref a), .val (.ref p1)] [(.int (1 : Int32)), (.ref a), (.int (0 : Int32)), (.ref vs)])) rfl rfl (hb hby own_d5_12)
  have f9 := P0.wr W8
  have f10 := P1.other W8 (Or.inr (slot_ne (Or.inr (hw _ (List.mem_of_getElem? (i := 12) rfl))) (Or.inl (hw _ (List.mem_of_getElem? (i := 41) rfl))) (by decide) (t := (.array (.object "com/example/reckoner/reckoner/Value"))) (t' := .int) (by decide) (by decide)))
  have f11 := P2.other W8 (Or.inr (slot_ne (Or.inr (hw _ (List.mem_of_getElem? (i := 15) rfl))) (Or.inl (hw _ (List.mem_of_getElem? (i := 41) rfl))) (by decide) (t := (.array .double)) (t' := .int) (by decide) (by decide)))
  have f12 := P4.other W8 (Ne.symm ne_a_vs)
  have f13 := P6.other W8 (Ne.symm ne_a_rs)
  have f14 := P7.wr W8
  have f15 := P3.same W8
  have N8 := Fr.snoc X8 N0 ge_a
  have K8 : Keep h0 h8 [a, vs] := (Keep.refl h0 [a, vs]).wr W8 (Or.inl (List.mem_of_getElem? (i := 0) rfl))
  have Z8 : n0 ≤ h8.size := Nat.le_trans Z0 (Keep.of_wr W8).1
  have k16 : ∀ t, Steps p.tables e below (T8.setTop (mkF m 15 #[.val (.ref a), .val (.ref p1)] [(.int (0 : Int32)), (.ref vs)])) t → Steps p.tables e below (s₁.setTop (entryFrame m #[(.ref a), (.ref p1)] 2)) t := fun t k => k7 t (st8 t k)
  have k17 : ∀ t, Steps p.tables e below (T8.setTop (mkF m 16 #[.val (.ref a), .val (.ref p1)] [(.ref p1), (.int (0 : Int32)), (.ref vs)])) t → Steps p.tables e below (s₁.setTop (entryFrame m #[(.ref a), (.ref p1)] 2)) t := by
    intro t k
    refine k16 t ?_
    show Steps p.tables e below (T8.setTop (mkF m 15 #[.val (.ref a), .val (.ref p1)] [(.int (0 : Int32)), (.ref vs)])) _
    refine XS.aloadN X8.here hx rfl (hb hby own_d5_15) rfl rfl ?_
    exact k
  obtain ⟨cl18, Ar18, qa18, Sa18, Na18, Ha18, Ga18⟩ := id f12
  have hin19 : ¬ ((0 : Int32) < 0 ∨ cl18.slots.size ≤ ((0 : Int32)).toNatClampNeg) := inb_of Sa18 ⟨by decide, by decide⟩
  obtain ⟨T20, h20, X20, e20, W20, st20⟩ := stR X8 hx hZ e8 Ar18 (j := (0 : Int32)) hin19 rfl (Sto.ofV Ar18 qa18 P5 (Ins.self f14)) (g := (mkF m 16 #[.val (.ref a), .val (.ref p1)] [(.ref p1), (.int (0 : Int32)), (.ref vs)])) rfl rfl (hb hby own_d5_16)
  have f21 := f9.wr W20
  have f22 := f10.other W20 (Or.inl ne_a_vs)
  have f23 := f11.other W20 (Or.inl ne_a_vs)
  have f24 := f15.other W20 (Or.inl ne_a_vs)
  have f25 := f13.other W20 (Ne.symm ne_vs_rs)
  have f26 := f14.wr W20
  have V20 : Arv Z h20 vs cv (.object "com/example/reckoner/reckoner/Value") (3 : Int32) [(.ref p1), el1, el2] .null := Arv.set Ar18 qa18 Sa18 Na18 Ha18 Ga18 rfl W20 0 rfl (Nat.le_of_ble_eq_true rfl)
  have N20 := Fr.snoc X20 N8 ge_vs
  have K20 : Keep h0 h20 [a, vs] := K8.wr W20 (Or.inl (List.mem_of_getElem? (i := 1) rfl))
  have Z20 : n0 ≤ h20.size := Nat.le_trans Z8 (Keep.of_wr W20).1
  have k27 : ∀ t, Steps p.tables e below (T20.setTop (mkF m 17 #[.val (.ref a), .val (.ref p1)] [])) t → Steps p.tables e below (s₁.setTop (entryFrame m #[(.ref a), (.ref p1)] 2)) t := fun t k => k17 t (st20 t k)
  obtain ⟨fs, hr, hrun, hended, hW, hsame⟩ := X20.leave (v := none) (fun _ => rfl)
  refine ⟨_, _, k27 _ ?_, hrun, hended, _, _, rfl, ?_, ⟨_, rfl⟩, hW, hsame.mono (by decide) (by decide)⟩
  · exact X20.returnOut hx Bd.returns (hb hby own_d5_17) hr
  · show own_Qpu0 Z a p1 vs rs cv cr el0 el1 el2 d0 d1 d2 h0 n0 _ T20.heap _
    rw [e20]
    exact ⟨rfl, N20, K20, f21, f22, f23, f24, V20, P5, f25, f26⟩
theorem own_efpu1 (m : MethodId) (x0 : Addr) (x1 : Addr) : entryFrame m #[(.ref x0), (.ref x1)] 2 = mkF m 0 #[.val (.ref x0), .val (.ref x1)] [] := by first | (simp [entryFrame, mkF, argsToLocals, Value.category]; done) | rfl
def own_Qpu1 (Z : State) (a : Addr) (p1 : Addr) (vs : Addr) (rs : Addr) (cv : ClassId) (cr : ClassId) (el0 : Value) (el1 : Value) (el2 : Value) (d0 : UInt64) (d1 : UInt64) (d2 : UInt64) (h0 : Heap) (n0 : Nat) (v : Option Value) (h : Heap) (L : List Loc) : Prop := v = none ∧ Fr n0 L ∧ Keep h0 h [a, vs] ∧ Exa Z h a "com/example/reckoner/reckoner/OperandStack" ∧ Fld Z h a "com/example/reckoner/reckoner/OperandStack" "values" "[Lcom/example/reckoner/reckoner/Value;" (.ref vs) ∧ Fld Z h a "com/example/reckoner/reckoner/OperandStack" "reals" "[D" (.ref rs) ∧ Fld Z h a "com/example/reckoner/reckoner/OperandStack" "height" "I" (.int (2 : Int32)) ∧ Arv Z h vs cv (.object "com/example/reckoner/reckoner/Value") (3 : Int32) [el0, (.ref p1), el2] .null ∧ Ovr Z cv "com/example/reckoner/reckoner/Value" ∧ Arv Z h rs cr .double (3 : Int32) [(.double d0), (.double d1), (.double d2)] (.double (0 : UInt64)) ∧ Exa Z h p1 "com/example/reckoner/reckoner/Value"
set_option maxRecDepth 65536 in
set_option maxHeartbeats 40000000 in
theorem own_rmpu1 (l : Launch) (Z : State) (a0 : Array Value) (hw : ∀ d ∈ tables_1, d.before a0 Z = true) (ws : List Jvm.Cond) (a : Addr) (p1 : Addr) (vs : Addr) (rs : Addr) (cv : ClassId) (cr : ClassId) (el0 : Value) (el1 : Value) (el2 : Value) (d0 : UInt64) (d1 : UInt64) (d2 : UInt64) (h0 : Heap) (n0 : Nat) (Z0 : n0 ≤ h0.size) (P0 : Exa Z h0 a "com/example/reckoner/reckoner/OperandStack") (P1 : Fld Z h0 a "com/example/reckoner/reckoner/OperandStack" "values" "[Lcom/example/reckoner/reckoner/Value;" (.ref vs)) (P2 : Fld Z h0 a "com/example/reckoner/reckoner/OperandStack" "reals" "[D" (.ref rs)) (P3 : Fld Z h0 a "com/example/reckoner/reckoner/OperandStack" "height" "I" (.int (1 : Int32))) (P4 : Arv Z h0 vs cv (.object "com/example/reckoner/reckoner/Value") (3 : Int32) [el0, el1, el2] .null) (P5 : Ovr Z cv "com/example/reckoner/reckoner/Value") (P6 : Arv Z h0 rs cr .double (3 : Int32) [(.double d0), (.double d1), (.double d2)] (.double (0 : UInt64))) (P7 : Exa Z h0 p1 "com/example/reckoner/reckoner/Value") (ge_a : n0 ≤ a) (ge_vs : n0 ≤ vs) (ge_rs : n0 ≤ rs) (ne_a_vs : a ≠ vs) (ne_a_rs : a ≠ rs) (ne_vs_rs : vs ≠ rs) :
    MetFree l (⟨"com/example/reckoner/reckoner/OperandStack", "push", "(Lcom/example/reckoner/reckoner/Value;)V"⟩ : MethodName) (head1 (Jvm.Cond.code (⟨"com/example/reckoner/reckoner/OperandStack", "push", "(Lcom/example/reckoner/reckoner/Value;)V"⟩ : MethodName) prog_48_method_2_code 2 none :: ws) ({ frames := 0, cells := 0, slots := 0, locals := 0 } : Room)) (fun aa U => aa = #[(.ref a), (.ref p1)] ∧ Z.Warmed39 U.vm ∧ U.heap = h0) (fun _ _ _ _ _ => True) (fun _ U o U' => ∃ v L, o = .returned v ∧ own_Qpu1 Z a p1 vs rs cv cr el0 el1 el2 d0 d1 d2 h0 n0 v U'.heap L ∧ FrameEnd U o U' L ({ frames := 0, cells := 0, slots := 0, locals := 0 } : Room).cells ({ frames := 0, cells := 0, slots := 0, locals := 0 } : Room).slots) := by
  refine MetFree.of_bodySF (plainFor_of_name own_pn1) hisR ?_
  intro p e s m args below meth c s₁ Bd hml0 hP hK
  obtain ⟨rfl, hZ, hh⟩ := hP
  have hx := Bd.exec
  have hby := Bd.bytes
  have hml : c.maxLocals = 2 := hml0
  have hown : s.vm.findClass "com/example/reckoner/reckoner/OperandStack" = some m.cls := findClass_of_methodNamed Bd.named
  have hnm := (name_of_methodNamed Bd.named Bd.method).1
  have X0 : Stand p l e ({ frames := 0, cells := 0, slots := 0, locals := 0 } : Room) s m #[(.ref a), (.ref p1)] below meth c s₁ [] 0 0 := Stand.of_body Bd
  have e0 : s₁.heap = h0 := by rw [← hh, Bd.state]; rfl
  have N0 := Fr.nil n0
  have pre0 : ∀ t, Steps p.tables e below (s₁.setTop (mkF m 0 #[.val (.ref a), .val (.ref p1)] [])) t → Steps p.tables e below (s₁.setTop (entryFrame m #[(.ref a), (.ref p1)] 2)) t := fun t k => castTop (own_efpu1 m a p1) k
  have k1 : ∀ t, Steps p.tables e below (s₁.setTop (mkF m 1 #[.val (.ref a), .val (.ref p1)] [(.ref a)])) t → Steps p.tables e below (s₁.setTop (entryFrame m #[(.ref a), (.ref p1)] 2)) t := by
    intro t k
    refine pre0 t ?_
    show Steps p.tables e below (s₁.setTop (mkF m 0 #[.val (.ref a), .val (.ref p1)] [])) _
    refine XS.aloadN X0.here hx rfl (hb hby own_d5_0) rfl rfl ?_
    exact k
  obtain ⟨T2, X2, e2, st2⟩ := getF X0 hx hZ hown (host := "") (Or.inl (hw _ (List.mem_of_getElem? (i := 11) rfl))) Via.refl e0 P1 (g := (mkF m 1 #[.val (.ref a), .val (.ref p1)] [(.ref a)])) rfl rfl (hb hby own_d5_1)
  have k3 : ∀ t, Steps p.tables e below (T2.setTop (mkF m 4 #[.val (.ref a), .val (.ref p1)] [(.ref vs)])) t → Steps p.tables e below (s₁.setTop (entryFrame m #[(.ref a), (.ref p1)] 2)) t := fun t k => k1 t (st2 t k)
  have k4 : ∀ t, Steps p.tables e below (T2.setTop (mkF m 6 #[.val (.ref a), .val (.ref p1)] [(.ref a), (.ref a), (.ref vs)])) t → Steps p.tables e below (s₁.setTop (entryFrame m #[(.ref a), (.ref p1)] 2)) t := by
    intro t k
    refine k3 t ?_
    show Steps p.tables e below (T2.setTop (mkF m 4 #[.val (.ref a), .val (.ref p1)] [(.ref vs)])) _
    refine XS.aloadN X2.here hx rfl (hb hby own_d5_4) rfl rfl ?_
    show Steps p.tables e below (T2.setTop (mkF m 5 #[.val (.ref a), .val (.ref p1)] [(.ref a), (.ref vs)])) _
    refine XS.dup X2.here hx rfl (hb hby own_d5_5) rfl rfl ?_
    exact k
  obtain ⟨T5, X5, e5, st5⟩ := getF X2 hx hZ hown (host := "") (Or.inl (hw _ (List.mem_of_getElem? (i := 40) rfl))) Via.refl e2 P3 (g := (mkF m 6 #[.val (.ref a), .val (.ref p1)] [(.ref a), (.ref a), (.ref vs)])) rfl rfl (hb hby own_d5_6)
  have k6 : ∀ t, Steps p.tables e below (T5.setTop (mkF m 9 #[.val (.ref a), .val (.ref p1)] [(.int (1 : Int32)), (.ref a), (.ref vs)])) t → Steps p.tables e below (s₁.setTop (entryFrame m #[(.ref a), (.ref p1)] 2)) t := fun t k => k4 t (st5 t k)
  have k7 : ∀ t, Steps p.tables e below (T5.setTop (mkF m 12 #[.val (.ref a), .val (.ref p1)] [(.int (2 : Int32)), (.ref a), (.int (1 : Int32)), (.ref vs)])) t → Steps p.tables e below (s₁.setTop (entryFrame m #[(.ref a), (.ref p1)] 2)) t := by
    intro t k
    refine k6 t ?_
    show Steps p.tables e below (T5.setTop (mkF m 9 #[.val (.ref a), .val (.ref p1)] [(.int (1 : Int32)), (.ref a), (.ref vs)])) _
    refine XS.dupX1 X5.here hx rfl (hb hby own_d5_9) rfl rfl rfl ?_
    show Steps p.tables e below (T5.setTop (mkF m 10 #[.val (.ref a), .val (.ref p1)] [(.int (1 : Int32)), (.ref a), (.int (1 : Int32)), (.ref vs)])) _
    refine XS.iconst X5.here hx rfl (hb hby own_d5_10) ?_
    show Steps p.tables e below (T5.setTop (mkF m 11 #[.val (.ref a), .val (.ref p1)] [(.int (1 : Int32)), (.int (1 : Int32)), (.ref a), (.int (1 : Int32)), (.ref vs)])) _
    refine XS.iadd X5.here hx rfl (hb hby own_d5_11) rfl ?_
    exact k
  obtain ⟨T8, h8, X8, e8, W8, st8⟩ := putF X5 hx hZ hown (host := "") (Or.inl (hw _ (List.mem_of_getElem? (i := 40) rfl))) Via.refl e5 P3 P0 (Or.inl (hw _ (List.mem_of_getElem? (i := 41) rfl))) (hw _ (List.mem_of_getElem? (i := 1) rfl)) (ty := .int) (by decide) rfl rfl (g := (mkF m 12 #[.val (.ref a), .val (.ref p1)] [(.int (2 : Int32)), (.ref a), (.int (1 : Int32)), (.ref vs)])) rfl rfl (hb hby own_d5_12)
  have f9 := P0.wr W8
  have f10 := P1.other W8 (Or.inr (slot_ne (Or.inr (hw _ (List.mem_of_getElem? (i := 12) rfl))) (Or.inl (hw _ (List.mem_of_getElem? (i := 41) rfl))) (by decide) (t := (.array (.object "com/example/reckoner/reckoner/Value"))) (t' := .int) (by decide) (by decide)))
  have f11 := P2.other W8 (Or.inr (slot_ne (Or.inr (hw _ (List.mem_of_getElem? (i := 15) rfl))) (Or.inl (hw _ (List.mem_of_getElem? (i := 41) rfl))) (by decide) (t := (.array .double)) (t' := .int) (by decide) (by decide)))
  have f12 := P4.other W8 (Ne.symm ne_a_vs)
  have f13 := P6.other W8 (Ne.symm ne_a_rs)
  have f14 := P7.wr W8
  have f15 := P3.same W8
  have N8 := Fr.snoc X8 N0 ge_a
  have K8 : Keep h0 h8 [a, vs] := (Keep.refl h0 [a, vs]).wr W8 (Or.inl (List.mem_of_getElem? (i := 0) rfl))
  have Z8 : n0 ≤ h8.size := Nat.le_trans Z0 (Keep.of_wr W8).1
  have k16 : ∀ t, Steps p.tables e below (T8.setTop (mkF m 15 #[.val (.ref a), .val (.ref p1)] [(.int (1 : Int32)), (.ref vs)])) t → Steps p.tables e below (s₁.setTop (entryFrame m #[(.ref a), (.ref p1)] 2)) t := fun t k => k7 t (st8 t k)
  have k17 : ∀ t, Steps p.tables e below (T8.setTop (mkF m 16 #[.val (.ref a), .val (.ref p1)] [(.ref p1), (.int (1 : Int32)), (.ref vs)])) t → Steps p.tables e below (s₁.setTop (entryFrame m #[(.ref a), (.ref p1)] 2)) t := by
    intro t k
    refine k16 t ?_
    show Steps p.tables e below (T8.setTop (mkF m 15 #[.val (.ref a), .val (.ref p1)] [(.int (1 : Int32)), (.ref vs)])) _
    refine XS.aloadN X8.here hx rfl (hb hby own_d5_15) rfl rfl ?_
    exact k
  obtain ⟨cl18, Ar18, qa18, Sa18, Na18, Ha18, Ga18⟩ := id f12
  have hin19 : ¬ ((1 : Int32) < 0 ∨ cl18.slots.size ≤ ((1 : Int32)).toNatClampNeg) := inb_of Sa18 ⟨by decide, by decide⟩
  obtain ⟨T20, h20, X20, e20, W20, st20⟩ := stR X8 hx hZ e8 Ar18 (j := (1 : Int32)) hin19 rfl (Sto.ofV Ar18 qa18 P5 (Ins.self f14)) (g := (mkF m 16 #[.val (.ref a), .val (.ref p1)] [(.ref p1), (.int (1 : Int32)), (.ref vs)])) rfl rfl (hb hby own_d5_16)
  have f21 := f9.wr W20
  have f22 := f10.other W20 (Or.inl ne_a_vs)
  have f23 := f11.other W20 (Or.inl ne_a_vs)
  have f24 := f15.other W20 (Or.inl ne_a_vs)
  have f25 := f13.other W20 (Ne.symm ne_vs_rs)
  have f26 := f14.wr W20
  have V20 : Arv Z h20 vs cv (.object "com/example/reckoner/reckoner/Value") (3 : Int32) [el0, (.ref p1), el2] .null := Arv.set Ar18 qa18 Sa18 Na18 Ha18 Ga18 rfl W20 1 rfl (Nat.le_of_ble_eq_true rfl)
  have N20 := Fr.snoc X20 N8 ge_vs
  have K20 : Keep h0 h20 [a, vs] := K8.wr W20 (Or.inl (List.mem_of_getElem? (i := 1) rfl))
  have Z20 : n0 ≤ h20.size := Nat.le_trans Z8 (Keep.of_wr W20).1
  have k27 : ∀ t, Steps p.tables e below (T20.setTop (mkF m 17 #[.val (.ref a), .val (.ref p1)] [])) t → Steps p.tables e below (s₁.setTop (entryFrame m #[(.ref a), (.ref p1)] 2)) t := fun t k => k17 t (st20 t k)
  obtain ⟨fs, hr, hrun, hended, hW, hsame⟩ := X20.leave (v := none) (fun _ => rfl)
  refine ⟨_, _, k27 _ ?_, hrun, hended, _, _, rfl, ?_, ⟨_, rfl⟩, hW, hsame.mono (by decide) (by decide)⟩
  · exact X20.returnOut hx Bd.returns (hb hby own_d5_17) hr
  · show own_Qpu1 Z a p1 vs rs cv cr el0 el1 el2 d0 d1 d2 h0 n0 _ T20.heap _
    rw [e20]
    exact ⟨rfl, N20, K20, f21, f22, f23, f24, V20, P5, f25, f26⟩
theorem own_d7_0 : decode prog_48_method_7_code 0 = .ok (.aload_n 0, 1) := by decide +kernel
theorem own_d7_1 : decode prog_48_method_7_code 1 = .ok (.getfield 9, 3) := by decide +kernel
theorem own_d7_4 : decode prog_48_method_7_code 4 = .ok (.iload_n 1, 1) := by decide +kernel
theorem own_d7_5 : decode prog_48_method_7_code 5 = .ok (.aaload, 1) := by decide +kernel
theorem own_d7_6 : decode prog_48_method_7_code 6 = .ok (.astore_n 2, 1) := by decide +kernel
theorem own_d7_7 : decode prog_48_method_7_code 7 = .ok (.aload_n 2, 1) := by decide +kernel
theorem own_d7_8 : decode prog_48_method_7_code 8 = .ok (.ifnull 7, 3) := by decide +kernel
theorem own_d7_11 : decode prog_48_method_7_code 11 = .ok (.aload_n 2, 1) := by decide +kernel
theorem own_d7_12 : decode prog_48_method_7_code 12 = .ok (.goto 12, 3) := by decide +kernel
theorem own_d7_24 : decode prog_48_method_7_code 24 = .ok (.areturn, 1) := by decide +kernel
theorem own_efva0o0 (m : MethodId) (x0 : Addr) : entryFrame m #[(.ref x0), (.int (0 : Int32))] 3 = mkF m 0 #[.val (.ref x0), .val (.int (0 : Int32)), .unset] [] := by first | (simp [entryFrame, mkF, argsToLocals, Value.category]; done) | rfl
def own_Qva0o0 (Z : State) (a : Addr) (vs : Addr) (rs : Addr) (cv : ClassId) (cr : ClassId) (x0 : Addr) (el1 : Value) (el2 : Value) (d0 : UInt64) (d1 : UInt64) (d2 : UInt64) (h0 : Heap) (n0 : Nat) (v : Option Value) (h : Heap) (L : List Loc) : Prop := v = some (.ref x0) ∧ Fr n0 L ∧ Keep h0 h [] ∧ Exa Z h a "com/example/reckoner/reckoner/OperandStack" ∧ Fld Z h a "com/example/reckoner/reckoner/OperandStack" "values" "[Lcom/example/reckoner/reckoner/Value;" (.ref vs) ∧ Fld Z h a "com/example/reckoner/reckoner/OperandStack" "reals" "[D" (.ref rs) ∧ Fld Z h a "com/example/reckoner/reckoner/OperandStack" "height" "I" (.int (0 : Int32)) ∧ Arv Z h vs cv (.object "com/example/reckoner/reckoner/Value") (3 : Int32) [(.ref x0), el1, el2] .null ∧ Ovr Z cv "com/example/reckoner/reckoner/Value" ∧ Arv Z h rs cr .double (3 : Int32) [(.double d0), (.double d1), (.double d2)] (.double (0 : UInt64))
set_option maxRecDepth 65536 in
set_option maxHeartbeats 40000000 in
theorem own_rmva0o0 (l : Launch) (Z : State) (a0 : Array Value) (hw : ∀ d ∈ tables_1, d.before a0 Z = true) (ws : List Jvm.Cond) (a : Addr) (vs : Addr) (rs : Addr) (cv : ClassId) (cr : ClassId) (x0 : Addr) (el1 : Value) (el2 : Value) (d0 : UInt64) (d1 : UInt64) (d2 : UInt64) (h0 : Heap) (n0 : Nat) (Z0 : n0 ≤ h0.size) (P0 : Exa Z h0 a "com/example/reckoner/reckoner/OperandStack") (P1 : Fld Z h0 a "com/example/reckoner/reckoner/OperandStack" "values" "[Lcom/example/reckoner/reckoner/Value;" (.ref vs)) (P2 : Fld Z h0 a "com/example/reckoner/reckoner/OperandStack" "reals" "[D" (.ref rs)) (P3 : Fld Z h0 a "com/example/reckoner/reckoner/OperandStack" "height" "I" (.int (0 : Int32))) (P4 : Arv Z h0 vs cv (.object "com/example/reckoner/reckoner/Value") (3 : Int32) [(.ref x0), el1, el2] .null) (P5 : Ovr Z cv "com/example/reckoner/reckoner/Value") (P6 : Arv Z h0 rs cr .double (3 : Int32) [(.double d0), (.double d1), (.double d2)] (.double (0 : UInt64))) (ge_a : n0 ≤ a) (ge_vs : n0 ≤ vs) (ge_rs : n0 ≤ rs) (ne_a_vs : a ≠ vs) (ne_a_rs : a ≠ rs) (ne_vs_rs : vs ≠ rs) :
    MetFree l (⟨"com/example/reckoner/reckoner/OperandStack", "valueAt", "(I)Lcom/example/reckoner/reckoner/Value;"⟩ : MethodName) (head1 (Jvm.Cond.code (⟨"com/example/reckoner/reckoner/OperandStack", "valueAt", "(I)Lcom/example/reckoner/reckoner/Value;"⟩ : MethodName) prog_48_method_7_code 3 (some (.object "com/example/reckoner/reckoner/Value")) :: ws) ({ frames := 0, cells := 0, slots := 0, locals := 0 } : Room)) (fun aa U => aa = #[(.ref a), (.int (0 : Int32))] ∧ Z.Warmed39 U.vm ∧ U.heap = h0) (fun _ _ _ _ _ => True) (fun _ U o U' => ∃ v L, o = .returned v ∧ own_Qva0o0 Z a vs rs cv cr x0 el1 el2 d0 d1 d2 h0 n0 v U'.heap L ∧ FrameEnd U o U' L ({ frames := 0, cells := 0, slots := 0, locals := 0 } : Room).cells ({ frames := 0, cells := 0, slots := 0, locals := 0 } : Room).slots) := by
  refine MetFree.of_bodySF (plainFor_of_name own_pn1) hisR ?_
  intro p e s m args below meth c s₁ Bd hml0 hP hK
  obtain ⟨rfl, hZ, hh⟩ := hP
  have hx := Bd.exec
  have hby := Bd.bytes
  have hml : c.maxLocals = 3 := hml0
  have hown : s.vm.findClass "com/example/reckoner/reckoner/OperandStack" = some m.cls := findClass_of_methodNamed Bd.named
  have hnm := (name_of_methodNamed Bd.named Bd.method).1
  have X0 : Stand p l e ({ frames := 0, cells := 0, slots := 0, locals := 0 } : Room) s m #[(.ref a), (.int (0 : Int32))] below meth c s₁ [] 0 0 := Stand.of_body Bd
  have e0 : s₁.heap = h0 := by rw [← hh, Bd.state]; rfl
  have N0 := Fr.nil n0
  have pre0 : ∀ t, Steps p.tables e below (s₁.setTop (mkF m 0 #[.val (.ref a), .val (.int (0 : Int32)), .unset] [])) t → Steps p.tables e below (s₁.setTop (entryFrame m #[(.ref a), (.int (0 : Int32))] 3)) t := fun t k => castTop (own_efva0o0 m a) k
  have k1 : ∀ t, Steps p.tables e below (s₁.setTop (mkF m 1 #[.val (.ref a), .val (.int (0 : Int32)), .unset] [(.ref a)])) t → Steps p.tables e below (s₁.setTop (entryFrame m #[(.ref a), (.int (0 : Int32))] 3)) t := by
    intro t k
    refine pre0 t ?_
    show Steps p.tables e below (s₁.setTop (mkF m 0 #[.val (.ref a), .val (.int (0 : Int32)), .unset] [])) _
    refine XS.aloadN X0.here hx rfl (hb hby own_d7_0) rfl rfl ?_
    exact k
  obtain ⟨T2, X2, e2, st2⟩ := getF X0 hx hZ hown (host := "") (Or.inl (hw _ (List.mem_of_getElem? (i := 11) rfl))) Via.refl e0 P1 (g := (mkF m 1 #[.val (.ref a), .val (.int (0 : Int32)), .unset] [(.ref a)])) rfl rfl (hb hby own_d7_1)
  have k3 : ∀ t, Steps p.tables e below (T2.setTop (mkF m 4 #[.val (.ref a), .val (.int (0 : Int32)), .unset] [(.ref vs)])) t → Steps p.tables e below (s₁.setTop (entryFrame m #[(.ref a), (.int (0 : Int32))] 3)) t := fun t k => k1 t (st2 t k)
  obtain ⟨cl4, Ar4, qa4, Sa4, Na4, Ha4, Ga4⟩ := id P4
  have hin5 : ¬ ((0 : Int32) < 0 ∨ cl4.slots.size ≤ ((0 : Int32)).toNatClampNeg) := inb_of Sa4 ⟨by decide, by decide⟩
  have hat6 : cl4.slots[((0 : Int32)).toNatClampNeg]? = some (.ref x0) := Ha4 0 (Nat.lt_of_not_le fun q => hin5 (Or.inr q))
  have k7 : ∀ t, Steps p.tables e below (T2.setTop (mkF m 24 #[.val (.ref a), .val (.int (0 : Int32)), .val (.ref x0)] [(.ref x0)])) t → Steps p.tables e below (s₁.setTop (entryFrame m #[(.ref a), (.int (0 : Int32))] 3)) t := by
    intro t k
    refine k3 t ?_
    show Steps p.tables e below (T2.setTop (mkF m 4 #[.val (.ref a), .val (.int (0 : Int32)), .unset] [(.ref vs)])) _
    refine XS.iloadN X2.here hx rfl (hb hby own_d7_4) rfl ?_
    show Steps p.tables e below (T2.setTop (mkF m 5 #[.val (.ref a), .val (.int (0 : Int32)), .unset] [(.int (0 : Int32)), (.ref vs)])) _
    refine X2.aaload hx (j := (0 : Int32)) (v := (.ref x0)) (by rw [e2]; exact Ar4.1) (State.isArrayOf_alike hZ.alike Ar4.2.1) rfl Ar4.2.2 hin5 hat6 (g := (mkF m 5 #[.val (.ref a), .val (.int (0 : Int32)), .unset] [(.int (0 : Int32)), (.ref vs)])) rfl rfl (hb hby own_d7_5) _ ?_
    show Steps p.tables e below (T2.setTop (mkF m 6 #[.val (.ref a), .val (.int (0 : Int32)), .unset] [(.ref x0)])) _
    refine XS.astoreN X2.here hx rfl (hb hby own_d7_6) rfl rfl (l' := #[.val (.ref a), .val (.int (0 : Int32)), .val (.ref x0)]) rfl ?_
    show Steps p.tables e below (T2.setTop (mkF m 7 #[.val (.ref a), .val (.int (0 : Int32)), .val (.ref x0)] [])) _
    refine XS.aloadN X2.here hx rfl (hb hby own_d7_7) rfl rfl ?_
    show Steps p.tables e below (T2.setTop (mkF m 8 #[.val (.ref a), .val (.int (0 : Int32)), .val (.ref x0)] [(.ref x0)])) _
    refine XS.ifnullNo X2.here hx rfl (hb hby own_d7_8) rfl ?_
    show Steps p.tables e below (T2.setTop (mkF m 11 #[.val (.ref a), .val (.int (0 : Int32)), .val (.ref x0)] [])) _
    refine XS.aloadN X2.here hx rfl (hb hby own_d7_11) rfl rfl ?_
    show Steps p.tables e below (T2.setTop (mkF m 12 #[.val (.ref a), .val (.int (0 : Int32)), .val (.ref x0)] [(.ref x0)])) _
    refine XS.goto X2.here hx rfl (pc0 := 12) (pc' := 24) rfl (hb hby own_d7_12) (by decide) (by decide) ?_
    exact k
  obtain ⟨fs, hr, hrun, hended, hW, hsame⟩ := X2.leave (v := (some (.ref x0))) (fun h => by rw [Bd.returns] at h; cases h)
  refine ⟨_, _, k7 _ ?_, hrun, hended, _, _, rfl, ?_, ⟨_, rfl⟩, hW, hsame.mono (by decide) (by decide)⟩
  · exact retOut X2 hx Bd.returns rfl (Or.inr (Or.inr (Or.inr (Or.inr ⟨rfl, rfl, rfl⟩)))) (hb hby own_d7_24) hr
  · show own_Qva0o0 Z a vs rs cv cr x0 el1 el2 d0 d1 d2 h0 n0 _ T2.heap _
    rw [e2]
    exact ⟨rfl, N0, (Keep.refl h0 []), P0, P1, P2, P3, P4, P5, P6⟩
theorem own_d7_15 : decode prog_48_method_7_code 15 = .ok (.aload_n 0, 1) := by decide +kernel
theorem own_d7_16 : decode prog_48_method_7_code 16 = .ok (.getfield 15, 3) := by decide +kernel
theorem own_d7_19 : decode prog_48_method_7_code 19 = .ok (.iload_n 1, 1) := by decide +kernel
theorem own_d7_20 : decode prog_48_method_7_code 20 = .ok (.daload, 1) := by decide +kernel
theorem own_d7_21 : decode prog_48_method_7_code 21 = .ok (.invokestatic 31, 3) := by decide +kernel
theorem own_pd1 : parseMethodDescriptor "(D)Lcom/example/reckoner/reckoner/Value;" = some ⟨[.double], some (.object "com/example/reckoner/reckoner/Value")⟩ := by decide +kernel
theorem own_efva0n0 (m : MethodId) (x0 : Addr) : entryFrame m #[(.ref x0), (.int (0 : Int32))] 3 = mkF m 0 #[.val (.ref x0), .val (.int (0 : Int32)), .unset] [] := by first | (simp [entryFrame, mkF, argsToLocals, Value.category]; done) | rfl
def own_Qva0n0 (Z : State) (a : Addr) (vs : Addr) (rs : Addr) (cv : ClassId) (cr : ClassId) (el1 : Value) (el2 : Value) (d0 : UInt64) (d1 : UInt64) (d2 : UInt64)  (sR : Addr) (h0 : Heap) (n0 : Nat) (v : Option Value) (h : Heap) (L : List Loc) : Prop := ∃ rb1_14, v = some (.ref rb1_14) ∧ Fr n0 L ∧ Keep h0 h [] ∧ h0.size ≤ rb1_14 ∧ Exa Z h a "com/example/reckoner/reckoner/OperandStack" ∧ Fld Z h a "com/example/reckoner/reckoner/OperandStack" "values" "[Lcom/example/reckoner/reckoner/Value;" (.ref vs) ∧ Fld Z h a "com/example/reckoner/reckoner/OperandStack" "reals" "[D" (.ref rs) ∧ Fld Z h a "com/example/reckoner/reckoner/OperandStack" "height" "I" (.int (0 : Int32)) ∧ Arv Z h vs cv (.object "com/example/reckoner/reckoner/Value") (3 : Int32) [.null, el1, el2] .null ∧ Ovr Z cv "com/example/reckoner/reckoner/Value" ∧ Arv Z h rs cr .double (3 : Int32) [(.double d0), (.double d1), (.double d2)] (.double (0 : UInt64)) ∧ Exa Z h rb1_14 "com/example/reckoner/reckoner/Value" ∧ Fld Z h rb1_14 "com/example/reckoner/reckoner/Value" "type" "Lcom/example/reckoner/reckoner/Value$Type;" (.ref sR) ∧ Fld Z h rb1_14 "com/example/reckoner/reckoner/Value" "integerValue" "J" (.long (0 : Int64)) ∧ Fld Z h rb1_14 "com/example/reckoner/reckoner/Value" "realValue" "D" (.double d0)
set_option maxRecDepth 65536 in
set_option maxHeartbeats 40000000 in
theorem own_rmva0n0 (l : Launch) (Z : State) (a0 : Array Value) (hw : ∀ d ∈ tables_1, d.before a0 Z = true) (ws : List Jvm.Cond) (a : Addr) (vs : Addr) (rs : Addr) (cv : ClassId) (cr : ClassId) (el1 : Value) (el2 : Value) (d0 : UInt64) (d1 : UInt64) (d2 : UInt64)  (sR : Addr) (h0 : Heap) (n0 : Nat) (Z0 : n0 ≤ h0.size) (P0 : Exa Z h0 a "com/example/reckoner/reckoner/OperandStack") (P1 : Fld Z h0 a "com/example/reckoner/reckoner/OperandStack" "values" "[Lcom/example/reckoner/reckoner/Value;" (.ref vs)) (P2 : Fld Z h0 a "com/example/reckoner/reckoner/OperandStack" "reals" "[D" (.ref rs)) (P3 : Fld Z h0 a "com/example/reckoner/reckoner/OperandStack" "height" "I" (.int (0 : Int32))) (P4 : Arv Z h0 vs cv (.object "com/example/reckoner/reckoner/Value") (3 : Int32) [.null, el1, el2] .null) (P5 : Ovr Z cv "com/example/reckoner/reckoner/Value") (P6 : Arv Z h0 rs cr .double (3 : Int32) [(.double d0), (.double d1), (.double d2)] (.double (0 : UInt64))) (ge_a : n0 ≤ a) (ge_vs : n0 ≤ vs) (ge_rs : n0 ≤ rs) (ne_a_vs : a ≠ vs) (ne_a_rs : a ≠ rs) (ne_vs_rs : vs ≠ rs) (Xo : Old Z n0 h0) (SR : Sta Z Z.heap "com/example/reckoner/reckoner/Value$Type" "REAL" "Lcom/example/reckoner/reckoner/Value$Type;" (.ref sR)) :
    MetFree l (⟨"com/example/reckoner/reckoner/OperandStack", "valueAt", "(I)Lcom/example/reckoner/reckoner/Value;"⟩ : MethodName) (head1 (Jvm.Cond.code (⟨"com/example/reckoner/reckoner/OperandStack", "valueAt", "(I)Lcom/example/reckoner/reckoner/Value;"⟩ : MethodName) prog_48_method_7_code 3 (some (.object "com/example/reckoner/reckoner/Value")) :: ws) ({ frames := 3, cells := 1, slots := 3, locals := 43 } : Room)) (fun aa U => aa = #[(.ref a), (.int (0 : Int32))] ∧ Z.Warmed39 U.vm ∧ U.heap = h0) (fun _ _ _ _ _ => True) (fun _ U o U' => ∃ v L, o = .returned v ∧ own_Qva0n0 Z a vs rs cv cr el1 el2 d0 d1 d2 sR h0 n0 v U'.heap L ∧ FrameEnd U o U' L ({ frames := 3, cells := 1, slots := 3, locals := 43 } : Room).cells ({ frames := 3, cells := 1, slots := 3, locals := 43 } : Room).slots) := by
  refine MetFree.of_bodySF (plainFor_of_name own_pn1) hisR ?_
  intro p e s m args below meth c s₁ Bd hml0 hP hK
  obtain ⟨rfl, hZ, hh⟩ := hP
  have hx := Bd.exec
  have hby := Bd.bytes
  have hml : c.maxLocals = 3 := hml0
  have hown : s.vm.findClass "com/example/reckoner/reckoner/OperandStack" = some m.cls := findClass_of_methodNamed Bd.named
  have hnm := (name_of_methodNamed Bd.named Bd.method).1
  have X0 : Stand p l e ({ frames := 3, cells := 1, slots := 3, locals := 43 } : Room) s m #[(.ref a), (.int (0 : Int32))] below meth c s₁ [] 0 0 := Stand.of_body Bd
  have e0 : s₁.heap = h0 := by rw [← hh, Bd.state]; rfl
  have N0 := Fr.nil n0
  have pre0 : ∀ t, Steps p.tables e below (s₁.setTop (mkF m 0 #[.val (.ref a), .val (.int (0 : Int32)), .unset] [])) t → Steps p.tables e below (s₁.setTop (entryFrame m #[(.ref a), (.int (0 : Int32))] 3)) t := fun t k => castTop (own_efva0n0 m a) k
  have k1 : ∀ t, Steps p.tables e below (s₁.setTop (mkF m 1 #[.val (.ref a), .val (.int (0 : Int32)), .unset] [(.ref a)])) t → Steps p.tables e below (s₁.setTop (entryFrame m #[(.ref a), (.int (0 : Int32))] 3)) t := by
    intro t k
    refine pre0 t ?_
    show Steps p.tables e below (s₁.setTop (mkF m 0 #[.val (.ref a), .val (.int (0 : Int32)), .unset] [])) _
    refine XS.aloadN X0.here hx rfl (hb hby own_d7_0) rfl rfl ?_
    exact k
  obtain ⟨T2, X2, e2, st2⟩ := getF X0 hx hZ hown (host := "") (Or.inl (hw _ (List.mem_of_getElem? (i := 11) rfl))) Via.refl e0 P1 (g := (mkF m 1 #[.val (.ref a), .val (.int (0 : Int32)), .unset] [(.ref a)])) rfl rfl (hb hby own_d7_1)
  have k3 : ∀ t, Steps p.tables e below (T2.setTop (mkF m 4 #[.val (.ref a), .val (.int (0 : Int32)), .unset] [(.ref vs)])) t → Steps p.tables e below (s₁.setTop (entryFrame m #[(.ref a), (.int (0 : Int32))] 3)) t := fun t k => k1 t (st2 t k)
  obtain ⟨cl4, Ar4, qa4, Sa4, Na4, Ha4, Ga4⟩ := id P4
  have hin5 : ¬ ((0 : Int32) < 0 ∨ cl4.slots.size ≤ ((0 : Int32)).toNatClampNeg) := inb_of Sa4 ⟨by decide, by decide⟩
  have hat6 : cl4.slots[((0 : Int32)).toNatClampNeg]? = some .null := Ha4 0 (Nat.lt_of_not_le fun q => hin5 (Or.inr q))
  have k7 : ∀ t, Steps p.tables e below (T2.setTop (mkF m 16 #[.val (.ref a), .val (.int (0 : Int32)), .val .null] [(.ref a)])) t → Steps p.tables e below (s₁.setTop (entryFrame m #[(.ref a), (.int (0 : Int32))] 3)) t := by
    intro t k
    refine k3 t ?_
    show Steps p.tables e below (T2.setTop (mkF m 4 #[.val (.ref a), .val (.int (0 : Int32)), .unset] [(.ref vs)])) _
    refine XS.iloadN X2.here hx rfl (hb hby own_d7_4) rfl ?_
    show Steps p.tables e below (T2.setTop (mkF m 5 #[.val (.ref a), .val (.int (0 : Int32)), .unset] [(.int (0 : Int32)), (.ref vs)])) _
    refine X2.aaload hx (j := (0 : Int32)) (v := .null) (by rw [e2]; exact Ar4.1) (State.isArrayOf_alike hZ.alike Ar4.2.1) rfl Ar4.2.2 hin5 hat6 (g := (mkF m 5 #[.val (.ref a), .val (.int (0 : Int32)), .unset] [(.int (0 : Int32)), (.ref vs)])) rfl rfl (hb hby own_d7_5) _ ?_
    show Steps p.tables e below (T2.setTop (mkF m 6 #[.val (.ref a), .val (.int (0 : Int32)), .unset] [.null])) _
    refine XS.astoreN X2.here hx rfl (hb hby own_d7_6) rfl rfl (l' := #[.val (.ref a), .val (.int (0 : Int32)), .val .null]) rfl ?_
    show Steps p.tables e below (T2.setTop (mkF m 7 #[.val (.ref a), .val (.int (0 : Int32)), .val .null] [])) _
    refine XS.aloadN X2.here hx rfl (hb hby own_d7_7) rfl rfl ?_
    show Steps p.tables e below (T2.setTop (mkF m 8 #[.val (.ref a), .val (.int (0 : Int32)), .val .null] [.null])) _
    refine XS.ifnullYes X2.here hx rfl (pc0 := 8) (pc' := 15) rfl (hb hby own_d7_8) rfl (by decide) (by decide) ?_
    show Steps p.tables e below (T2.setTop (mkF m 15 #[.val (.ref a), .val (.int (0 : Int32)), .val .null] [])) _
    refine XS.aloadN X2.here hx rfl (hb hby own_d7_15) rfl rfl ?_
    exact k
  obtain ⟨T8, X8, e8, st8⟩ := getF X2 hx hZ hown (host := "") (Or.inl (hw _ (List.mem_of_getElem? (i := 14) rfl))) Via.refl e2 P2 (g := (mkF m 16 #[.val (.ref a), .val (.int (0 : Int32)), .val .null] [(.ref a)])) rfl rfl (hb hby own_d7_16)
  have k9 : ∀ t, Steps p.tables e below (T8.setTop (mkF m 19 #[.val (.ref a), .val (.int (0 : Int32)), .val .null] [(.ref rs)])) t → Steps p.tables e below (s₁.setTop (entryFrame m #[(.ref a), (.int (0 : Int32))] 3)) t := fun t k => k7 t (st8 t k)
  obtain ⟨cl10, Ar10, qa10, Sa10, Na10, Ha10, Ga10⟩ := id P6
  have hin11 : ¬ ((0 : Int32) < 0 ∨ cl10.slots.size ≤ ((0 : Int32)).toNatClampNeg) := inb_of Sa10 ⟨by decide, by decide⟩
  have hat12 : cl10.slots[((0 : Int32)).toNatClampNeg]? = some (.double d0) := Ha10 0 (Nat.lt_of_not_le fun q => hin11 (Or.inr q))
  have k13 : ∀ t, Steps p.tables e below (T8.setTop (mkF m 21 #[.val (.ref a), .val (.int (0 : Int32)), .val .null] [(.double d0)])) t → Steps p.tables e below (s₁.setTop (entryFrame m #[(.ref a), (.int (0 : Int32))] 3)) t := by
    intro t k
    refine k9 t ?_
    show Steps p.tables e below (T8.setTop (mkF m 19 #[.val (.ref a), .val (.int (0 : Int32)), .val .null] [(.ref rs)])) _
    refine XS.iloadN X8.here hx rfl (hb hby own_d7_19) rfl ?_
    show Steps p.tables e below (T8.setTop (mkF m 20 #[.val (.ref a), .val (.int (0 : Int32)), .val .null] [(.int (0 : Int32)), (.ref rs)])) _
    refine X8.daload hx (j := (0 : Int32)) (v := (.double d0)) (by rw [e8]; exact Ar10.1) (State.isArrayOf_alike hZ.alike Ar10.2.1) Ar10.2.2 hin11 hat12 (g := (mkF m 20 #[.val (.ref a), .val (.int (0 : Int32)), .val .null] [(.int (0 : Int32)), (.ref rs)])) rfl rfl (hb hby own_d7_20) _ ?_
    exact k
  obtain ⟨_, _, ⟨T14, L14, k14c, n14⟩, -, X14, ⟨Lc14, hQ14, l14, y14, z14⟩, st14⟩ := Jvm.LawKit.callS X8 hx (y := (⟨"com/example/reckoner/reckoner/Value", "real", "(D)Lcom/example/reckoner/reckoner/Value;"⟩ : MethodName)) hown (mvT hZ (hw _ (List.mem_of_getElem? (i := 72) rfl))) (mvT hZ (hw _ (List.mem_of_getElem? (i := 73) rfl))) (mvT hZ (hw _ (List.mem_of_getElem? (i := 18) rfl))) (mvT hZ (hw _ (List.mem_of_getElem? (i := 74) rfl))) (by decide) (backOf (W := 0) (own_rmre l Z a0 hw [] d0 sR h0 n0 Z0 Xo SR) hZ (hw _ (List.mem_of_getElem? (i := 74) rfl)) (hw _ (List.mem_of_getElem? (i := 18) rfl)) (by decide) (by decide)) (g := (mkF m 21 #[.val (.ref a), .val (.int (0 : Int32)), .val .null] [(.double d0)])) rfl (by rw [hml]; rfl) (argsL := [(.double d0)]) (rest := []) (lenOf own_pd1 rfl) rfl (by show 2 * 0 + _ ≤ _; exact Nat.le_of_eq rfl) (hb hby own_d7_21) (fun _ _ => ⟨rfl, e8, (by decide : 0 + 1 ≤ _), (by decide : 0 + 3 ≤ _)⟩)
  dsimp only [Pt.U, Pt.locs, Pt.cells, Pt.slots] at X14 l14 y14 z14 st14 hQ14
  subst l14 y14 z14
  obtain ⟨rb1_14, rfl, N14q, Kq14, gz14_b1, fq14_0, fq14_1, fq14_2, fq14_3⟩ := hQ14
  have N14 := Fr.app N0 N14q
  have ge14_b1 : n0 ≤ rb1_14 := Nat.le_trans Z0 gz14_b1
  have bo14_b1 : h0.size ≤ rb1_14 := Nat.le_trans (Keep.refl h0 []).1 gz14_b1
  have ne15 : a ≠ rb1_14 := Nat.ne_of_lt (Nat.lt_of_lt_of_le P0.lt gz14_b1)
  have ne16 : rs ≠ rb1_14 := Nat.ne_of_lt (Nat.lt_of_lt_of_le P6.lt gz14_b1)
  have ne17 : vs ≠ rb1_14 := Nat.ne_of_lt (Nat.lt_of_lt_of_le P4.lt gz14_b1)
  have f18 := P0.keep Kq14
  have f19 := P1.keep Kq14 List.not_mem_nil
  have f20 := P2.keep Kq14 List.not_mem_nil
  have f21 := P3.keep Kq14 List.not_mem_nil
  have f22 := P4.keep Kq14 List.not_mem_nil
  have f23 := P6.keep Kq14 List.not_mem_nil
  have Z14 : n0 ≤ T14.heap.size := Nat.le_trans Z0 Kq14.1
  have K14 : Keep h0 T14.heap [] := (Keep.refl h0 []).trans Kq14 (fun x hx => nomatch hx)
  have Xo14 := Xo.keep Kq14 all0
  have k24 : ∀ t, Steps p.tables e below (T14.setTop (mkF m 24 #[.val (.ref a), .val (.int (0 : Int32)), .val .null] [(.ref rb1_14)])) t → Steps p.tables e below (s₁.setTop (entryFrame m #[(.ref a), (.int (0 : Int32))] 3)) t := fun t k => k13 t (st14 t k)
  obtain ⟨fs, hr, hrun, hended, hW, hsame⟩ := X14.leave (v := (some (.ref rb1_14))) (fun h => by rw [Bd.returns] at h; cases h)
  refine ⟨_, _, k24 _ ?_, hrun, hended, _, _, rfl, ?_, ⟨_, rfl⟩, hW, hsame.mono (by decide) (by decide)⟩
  · exact retOut X14 hx Bd.returns rfl (Or.inr (Or.inr (Or.inr (Or.inr ⟨rfl, rfl, rfl⟩)))) (hb hby own_d7_24) hr
  · show own_Qva0n0 Z a vs rs cv cr el1 el2 d0 d1 d2 sR h0 n0 _ T14.heap _
    exact ⟨rb1_14, rfl, N14, K14, bo14_b1, f18, f19, f20, f21, f22, P5, f23, fq14_0, fq14_1, fq14_2, fq14_3⟩
theorem own_efva1o1 (m : MethodId) (x0 : Addr) : entryFrame m #[(.ref x0), (.int (1 : Int32))] 3 = mkF m 0 #[.val (.ref x0), .val (.int (1 : Int32)), .unset] [] := by first | (simp [entryFrame, mkF, argsToLocals, Value.category]; done) | rfl
def own_Qva1o1 (Z : State) (a : Addr) (vs : Addr) (rs : Addr) (cv : ClassId) (cr : ClassId) (el0 : Value) (x1 : Addr) (el2 : Value) (d0 : UInt64) (d1 : UInt64) (d2 : UInt64) (h0 : Heap) (n0 : Nat) (v : Option Value) (h : Heap) (L : List Loc) : Prop := v = some (.ref x1) ∧ Fr n0 L ∧ Keep h0 h [] ∧ Exa Z h a "com/example/reckoner/reckoner/OperandStack" ∧ Fld Z h a "com/example/reckoner/reckoner/OperandStack" "values" "[Lcom/example/reckoner/reckoner/Value;" (.ref vs) ∧ Fld Z h a "com/example/reckoner/reckoner/OperandStack" "reals" "[D" (.ref rs) ∧ Fld Z h a "com/example/reckoner/reckoner/OperandStack" "height" "I" (.int (1 : Int32)) ∧ Arv Z h vs cv (.object "com/example/reckoner/reckoner/Value") (3 : Int32) [el0, (.ref x1), el2] .null ∧ Ovr Z cv "com/example/reckoner/reckoner/Value" ∧ Arv Z h rs cr .double (3 : Int32) [(.double d0), (.double d1), (.double d2)] (.double (0 : UInt64))
set_option maxRecDepth 65536 in
set_option maxHeartbeats 40000000 in
theorem own_rmva1o1 (l : Launch) (Z : State) (a0 : Array Value) (hw : ∀ d ∈ tables_1, d.before a0 Z = true) (ws : List Jvm.Cond) (a : Addr) (vs : Addr) (rs : Addr) (cv : ClassId) (cr : ClassId) (el0 : Value) (x1 : Addr) (el2 : Value) (d0 : UInt64) (d1 : UInt64) (d2 : UInt64) (h0 : Heap) (n0 : Nat) (Z0 : n0 ≤ h0.size) (P0 : Exa Z h0 a "com/example/reckoner/reckoner/OperandStack") (P1 : Fld Z h0 a "com/example/reckoner/reckoner/OperandStack" "values" "[Lcom/example/reckoner/reckoner/Value;" (.ref vs)) (P2 : Fld Z h0 a "com/example/reckoner/reckoner/OperandStack" "reals" "[D" (.ref rs)) (P3 : Fld Z h0 a "com/example/reckoner/reckoner/OperandStack" "height" "I" (.int (1 : Int32))) (P4 : Arv Z h0 vs cv (.object "com/example/reckoner/reckoner/Value") (3 : Int32) [el0, (.ref x1), el2] .null) (P5 : Ovr Z cv "com/example/reckoner/reckoner/Value") (P6 : Arv Z h0 rs cr .double (3 : Int32) [(.double d0), (.double d1), (.double d2)] (.double (0 : UInt64))) (ge_a : n0 ≤ a) (ge_vs : n0 ≤ vs) (ge_rs : n0 ≤ rs) (ne_a_vs : a ≠ vs) (ne_a_rs : a ≠ rs) (ne_vs_rs : vs ≠ rs) :
    MetFree l (⟨"com/example/reckoner/reckoner/OperandStack", "valueAt", "(I)Lcom/example/reckoner/reckoner/Value;"⟩ : MethodName) (head1 (Jvm.Cond.code (⟨"com/example/reckoner/reckoner/OperandStack", "valueAt", "(I)Lcom/example/reckoner/reckoner/Value;"⟩ : MethodName) prog_48_method_7_code 3 (some (.object "com/example/reckoner/reckoner/Value")) :: ws) ({ frames := 0, cells := 0, slots := 0, locals := 0 } : Room)) (fun aa U => aa = #[(.ref a), (.int (1 : Int32))] ∧ Z.Warmed39 U.vm ∧ U.heap = h0) (fun _ _ _ _ _ => True) (fun _ U o U' => ∃ v L, o = .returned v ∧ own_Qva1o1 Z a vs rs cv cr el0 x1 el2 d0 d1 d2 h0 n0 v U'.heap L ∧ FrameEnd U o U' L ({ frames := 0, cells := 0, slots := 0, locals := 0 } : Room).cells ({ frames := 0, cells := 0, slots := 0, locals := 0 } : Room).slots) := by
  refine MetFree.of_bodySF (plainFor_of_name own_pn1) hisR ?_
  intro p e s m args below meth c s₁ Bd hml0 hP hK
  obtain ⟨rfl, hZ, hh⟩ := hP
  have hx := Bd.exec
  have hby := Bd.bytes
  have hml : c.maxLocals = 3 := hml0
  have hown : s.vm.findClass "com/example/reckoner/reckoner/OperandStack" = some m.cls := findClass_of_methodNamed Bd.named
  have hnm := (name_of_methodNamed Bd.named Bd.method).1
  have X0 : Stand p l e ({ frames := 0, cells := 0, slots := 0, locals := 0 } : Room) s m #[(.ref a), (.int (1 : Int32))] below meth c s₁ [] 0 0 := Stand.of_body Bd
  have e0 : s₁.heap = h0 := by rw [← hh, Bd.state]; rfl
  have N0 := Fr.nil n0
  have pre0 : ∀ t, Steps p.tables e below (s₁.setTop (mkF m 0 #[.val (.ref a), .val (.int (1 : Int32)), .unset] [])) t → Steps p.tables e below (s₁.setTop (entryFrame m #[(.ref a), (.int (1 : Int32))] 3)) t := fun t k => castTop (own_efva1o1 m a) k
  have k1 : ∀ t, Steps p.tables e below (s₁.setTop (mkF m 1 #[.val (.ref a), .val (.int (1 : Int32)), .unset] [(.ref a)])) t → Steps p.tables e below (s₁.setTop (entryFrame m #[(.ref a), (.int (1 : Int32))] 3)) t := by
    intro t k
    refine pre0 t ?_
    show Steps p.tables e below (s₁.setTop (mkF m 0 #[.val (.ref a), .val (.int (1 : Int32)), .unset] [])) _
    refine XS.aloadN X0.here hx rfl (hb hby own_d7_0) rfl rfl ?_
    exact k
  obtain ⟨T2, X2, e2, st2⟩ := getF X0 hx hZ hown (host := "") (Or.inl (hw _ (List.mem_of_getElem? (i := 11) rfl))) Via.refl e0 P1 (g := (mkF m 1 #[.val (.ref a), .val (.int (1 : Int32)), .unset] [(.ref a)])) rfl rfl (hb hby own_d7_1)
  have k3 : ∀ t, Steps p.tables e below (T2.setTop (mkF m 4 #[.val (.ref a), .val (.int (1 : Int32)), .unset] [(.ref vs)])) t → Steps p.tables e below (s₁.setTop (entryFrame m #[(.ref a), (.int (1 : Int32))] 3)) t := fun t k => k1 t (st2 t k)
  obtain ⟨cl4, Ar4, qa4, Sa4, Na4, Ha4, Ga4⟩ := id P4
  have hin5 : ¬ ((1 : Int32) < 0 ∨ cl4.slots.size ≤ ((1 : Int32)).toNatClampNeg) := inb_of Sa4 ⟨by decide, by decide⟩
  have hat6 : cl4.slots[((1 : Int32)).toNatClampNeg]? = some (.ref x1) := Ha4 1 (Nat.lt_of_not_le fun q => hin5 (Or.inr q))
  have k7 : ∀ t, Steps p.tables e below (T2.setTop (mkF m 24 #[.val (.ref a), .val (.int (1 : Int32)), .val (.ref x1)] [(.ref x1)])) t → Steps p.tables e below (s₁.setTop (entryFrame m #[(.ref a), (.int (1 : Int32))] 3)) t := by
    intro t k
    refine k3 t ?_
    show Steps p.tables e below (T2.setTop (mkF m 4 #[.val (.ref a), .val (.int (1 : Int32)), .unset] [(.ref vs)])) _
    refine XS.iloadN X2.here hx rfl (hb hby own_d7_4) rfl ?_
    show Steps p.tables e below (T2.setTop (mkF m 5 #[.val (.ref a), .val (.int (1 : Int32)), .unset] [(.int (1 : Int32)), (.ref vs)])) _
    refine X2.aaload hx (j := (1 : Int32)) (v := (.ref x1)) (by rw [e2]; exact Ar4.1) (State.isArrayOf_alike hZ.alike Ar4.2.1) rfl Ar4.2.2 hin5 hat6 (g := (mkF m 5 #[.val (.ref a), .val (.int (1 : Int32)), .unset] [(.int (1 : Int32)), (.ref vs)])) rfl rfl (hb hby own_d7_5) _ ?_
    show Steps p.tables e below (T2.setTop (mkF m 6 #[.val (.ref a), .val (.int (1 : Int32)), .unset] [(.ref x1)])) _
    refine XS.astoreN X2.here hx rfl (hb hby own_d7_6) rfl rfl (l' := #[.val (.ref a), .val (.int (1 : Int32)), .val (.ref x1)]) rfl ?_
    show Steps p.tables e below (T2.setTop (mkF m 7 #[.val (.ref a), .val (.int (1 : Int32)), .val (.ref x1)] [])) _
    refine XS.aloadN X2.here hx rfl (hb hby own_d7_7) rfl rfl ?_
    show Steps p.tables e below (T2.setTop (mkF m 8 #[.val (.ref a), .val (.int (1 : Int32)), .val (.ref x1)] [(.ref x1)])) _
    refine XS.ifnullNo X2.here hx rfl (hb hby own_d7_8) rfl ?_
    show Steps p.tables e below (T2.setTop (mkF m 11 #[.val (.ref a), .val (.int (1 : Int32)), .val (.ref x1)] [])) _
    refine XS.aloadN X2.here hx rfl (hb hby own_d7_11) rfl rfl ?_
    show Steps p.tables e below (T2.setTop (mkF m 12 #[.val (.ref a), .val (.int (1 : Int32)), .val (.ref x1)] [(.ref x1)])) _
    refine XS.goto X2.here hx rfl (pc0 := 12) (pc' := 24) rfl (hb hby own_d7_12) (by decide) (by decide) ?_
    exact k
  obtain ⟨fs, hr, hrun, hended, hW, hsame⟩ := X2.leave (v := (some (.ref x1))) (fun h => by rw [Bd.returns] at h; cases h)
  refine ⟨_, _, k7 _ ?_, hrun, hended, _, _, rfl, ?_, ⟨_, rfl⟩, hW, hsame.mono (by decide) (by decide)⟩
  · exact retOut X2 hx Bd.returns rfl (Or.inr (Or.inr (Or.inr (Or.inr ⟨rfl, rfl, rfl⟩)))) (hb hby own_d7_24) hr
  · show own_Qva1o1 Z a vs rs cv cr el0 x1 el2 d0 d1 d2 h0 n0 _ T2.heap _
    rw [e2]
    exact ⟨rfl, N0, (Keep.refl h0 []), P0, P1, P2, P3, P4, P5, P6⟩
theorem own_efva1n1 (m : MethodId) (x0 : Addr) : entryFrame m #[(.ref x0), (.int (1 : Int32))] 3 = mkF m 0 #[.val (.ref x0), .val (.int (1 : Int32)), .unset] [] := by first | (simp [entryFrame, mkF, argsToLocals, Value.category]; done) | rfl
def own_Qva1n1 (Z : State) (a : Addr) (vs : Addr) (rs : Addr) (cv : ClassId) (cr : ClassId) (el0 : Value) (el2 : Value) (d0 : UInt64) (d1 : UInt64) (d2 : UInt64)  (sR : Addr) (h0 : Heap) (n0 : Nat) (v : Option Value) (h : Heap) (L : List Loc) : Prop := ∃ rb1_14, v = some (.ref rb1_14) ∧ Fr n0 L ∧ Keep h0 h [] ∧ h0.size ≤ rb1_14 ∧ Exa Z h a "com/example/reckoner/reckoner/OperandStack" ∧ Fld Z h a "com/example/reckoner/reckoner/OperandStack" "values" "[Lcom/example/reckoner/reckoner/Value;" (.ref vs) ∧ Fld Z h a "com/example/reckoner/reckoner/OperandStack" "reals" "[D" (.ref rs) ∧ Fld Z h a "com/example/reckoner/reckoner/OperandStack" "height" "I" (.int (1 : Int32)) ∧ Arv Z h vs cv (.object "com/example/reckoner/reckoner/Value") (3 : Int32) [el0, .null, el2] .null ∧ Ovr Z cv "com/example/reckoner/reckoner/Value" ∧ Arv Z h rs cr .double (3 : Int32) [(.double d0), (.double d1), (.double d2)] (.double (0 : UInt64)) ∧ Exa Z h rb1_14 "com/example/reckoner/reckoner/Value" ∧ Fld Z h rb1_14 "com/example/reckoner/reckoner/Value" "type" "Lcom/example/reckoner/reckoner/Value$Type;" (.ref sR) ∧ Fld Z h rb1_14 "com/example/reckoner/reckoner/Value" "integerValue" "J" (.long (0 : Int64)) ∧ Fld Z h rb1_14 "com/example/reckoner/reckoner/Value" "realValue" "D" (.double d1)
set_option maxRecDepth 65536 in
set_option maxHeartbeats 40000000 in
theorem own_rmva1n1 (l : Launch) (Z : State) (a0 : Array Value) (hw : ∀ d ∈ tables_1, d.before a0 Z = true) (ws : List Jvm.Cond) (a : Addr) (vs : Addr) (rs : Addr) (cv : ClassId) (cr : ClassId) (el0 : Value) (el2 : Value) (d0 : UInt64) (d1 : UInt64) (d2 : UInt64)  (sR : Addr) (h0 : Heap) (n0 : Nat) (Z0 : n0 ≤ h0.size) (P0 : Exa Z h0 a "com/example/reckoner/reckoner/OperandStack") (P1 : Fld Z h0 a "com/example/reckoner/reckoner/OperandStack" "values" "[Lcom/example/reckoner/reckoner/Value;" (.ref vs)) (P2 : Fld Z h0 a "com/example/reckoner/reckoner/OperandStack" "reals" "[D" (.ref rs)) (P3 : Fld Z h0 a "com/example/reckoner/reckoner/OperandStack" "height" "I" (.int (1 : Int32))) (P4 : Arv Z h0 vs cv (.object "com/example/reckoner/reckoner/Value") (3 : Int32) [el0, .null, el2] .null) (P5 : Ovr Z cv "com/example/reckoner/reckoner/Value") (P6 : Arv Z h0 rs cr .double (3 : Int32) [(.double d0), (.double d1), (.double d2)] (.double (0 : UInt64))) (ge_a : n0 ≤ a) (ge_vs : n0 ≤ vs) (ge_rs : n0 ≤ rs) (ne_a_vs : a ≠ vs) (ne_a_rs : a ≠ rs) (ne_vs_rs : vs ≠ rs) (Xo : Old Z n0 h0) (SR : Sta Z Z.heap "com/example/reckoner/reckoner/Value$Type" "REAL" "Lcom/example/reckoner/reckoner/Value$Type;" (.ref sR)) :
    MetFree l (⟨"com/example/reckoner/reckoner/OperandStack", "valueAt", "(I)Lcom/example/reckoner/reckoner/Value;"⟩ : MethodName) (head1 (Jvm.Cond.code (⟨"com/example/reckoner/reckoner/OperandStack", "valueAt", "(I)Lcom/example/reckoner/reckoner/Value;"⟩ : MethodName) prog_48_method_7_code 3 (some (.object "com/example/reckoner/reckoner/Value")) :: ws) ({ frames := 3, cells := 1, slots := 3, locals := 43 } : Room)) (fun aa U => aa = #[(.ref a), (.int (1 : Int32))] ∧ Z.Warmed39 U.vm ∧ U.heap = h0) (fun _ _ _ _ _ => True) (fun _ U o U' => ∃ v L, o = .returned v ∧ own_Qva1n1 Z a vs rs cv cr el0 el2 d0 d1 d2 sR h0 n0 v U'.heap L ∧ FrameEnd U o U' L ({ frames := 3, cells := 1, slots := 3, locals := 43 } : Room).cells ({ frames := 3, cells := 1, slots := 3, locals := 43 } : Room).slots) := by
  refine MetFree.of_bodySF (plainFor_of_name own_pn1) hisR ?_
  intro p e s m args below meth c s₁ Bd hml0 hP hK
  obtain ⟨rfl, hZ, hh⟩ := hP
  have hx := Bd.exec
  have hby := Bd.bytes
  have hml : c.maxLocals = 3 := hml0
  have hown : s.vm.findClass "com/example/reckoner/reckoner/OperandStack" = some m.cls := findClass_of_methodNamed Bd.named
  have hnm := (name_of_methodNamed Bd.named Bd.method).1
  have X0 : Stand p l e ({ frames := 3, cells := 1, slots := 3, locals := 43 } : Room) s m #[(.ref a), (.int (1 : Int32))] below meth c s₁ [] 0 0 := Stand.of_body Bd
  have e0 : s₁.heap = h0 := by rw [← hh, Bd.state]; rfl
  have N0 := Fr.nil n0
  have pre0 : ∀ t, Steps p.tables e below (s₁.setTop (mkF m 0 #[.val (.ref a), .val (.int (1 : Int32)), .unset] [])) t → Steps p.tables e below (s₁.setTop (entryFrame m #[(.ref a), (.int (1 : Int32))] 3)) t := fun t k => castTop (own_efva1n1 m a) k
  have k1 : ∀ t, Steps p.tables e below (s₁.setTop (mkF m 1 #[.val (.ref a), .val (.int (1 : Int32)), .unset] [(.ref a)])) t → Steps p.tables e below (s₁.setTop (entryFrame m #[(.ref a), (.int (1 : Int32))] 3)) t := by
    intro t k
    refine pre0 t ?_
    show Steps p.tables e below (s₁.setTop (mkF m 0 #[.val (.ref a), .val (.int (1 : Int32)), .unset] [])) _
    refine XS.aloadN X0.here hx rfl (hb hby own_d7_0) rfl rfl ?_
    exact k
  obtain ⟨T2, X2, e2, st2⟩ := getF X0 hx hZ hown (host := "") (Or.inl (hw _ (List.mem_of_getElem? (i := 11) rfl))) Via.refl e0 P1 (g := (mkF m 1 #[.val (.ref a), .val (.int (1 : Int32)), .unset] [(.ref a)])) rfl rfl (hb hby own_d7_1)
  have k3 : ∀ t, Steps p.tables e below (T2.setTop (mkF m 4 #[.val (.ref a), .val (.int (1 : Int32)), .unset] [(.ref vs)])) t → Steps p.tables e below (s₁.setTop (entryFrame m #[(.ref a), (.int (1 : Int32))] 3)) t := fun t k => k1 t (st2 t k)
  obtain ⟨cl4, Ar4, qa4, Sa4, Na4, Ha4, Ga4⟩ := id P4
  have hin5 : ¬ ((1 : Int32) < 0 ∨ cl4.slots.size ≤ ((1 : Int32)).toNatClampNeg) := inb_of Sa4 ⟨by decide, by decide⟩
  have hat6 : cl4.slots[((1 : Int32)).toNatClampNeg]? = some .null := Ha4 1 (Nat.lt_of_not_le fun q => hin5 (Or.inr q))
  have k7 : ∀ t, Steps p.tables e below (T2.setTop (mkF m 16 #[.val (.ref a), .val (.int (1 : Int32)), .val .null] [(.ref a)])) t → Steps p.tables e below (s₁.setTop (entryFrame m #[(.ref a), (.int (1 : Int32))] 3)) t := by
    intro t k
    refine k3 t ?_
    show Steps p.tables e below (T2.setTop (mkF m 4 #[.val (.ref a), .val (.int (1 : Int32)), .unset] [(.ref vs)])) _
    refine XS.iloadN X2.here hx rfl (hb hby own_d7_4) rfl ?_
    show Steps p.tables e below (T2.setTop (mkF m 5 #[.val (.ref a), .val (.int (1 : Int32)), .unset] [(.int (1 : Int32)), (.ref vs)])) _
    refine X2.aaload hx (j := (1 : Int32)) (v := .null) (by rw [e2]; exact Ar4.1) (State.isArrayOf_alike hZ.alike Ar4.2.1) rfl Ar4.2.2 hin5 hat6 (g := (mkF m 5 #[.val (.ref a), .val (.int (1 : Int32)), .unset] [(.int (1 : Int32)), (.ref vs)])) rfl rfl (hb hby own_d7_5) _ ?_
    show Steps p.tables e below (T2.setTop (mkF m 6 #[.val (.ref a), .val (.int (1 : Int32)), .unset] [.null])) _
    refine XS.astoreN X2.here hx rfl (hb hby own_d7_6) rfl rfl (l' := #[.val (.ref a), .val (.int (1 : Int32)), .val .null]) rfl ?_
    show Steps p.tables e below (T2.setTop (mkF m 7 #[.val (.ref a), .val (.int (1 : Int32)), .val .null] [])) _
    refine XS.aloadN X2.here hx rfl (hb hby own_d7_7) rfl rfl ?_
    show Steps p.tables e below (T2.setTop (mkF m 8 #[.val (.ref a), .val (.int (1 : Int32)), .val .null] [.null])) _
    refine XS.ifnullYes X2.here hx rfl (pc0 := 8) (pc' := 15) rfl (hb hby own_d7_8) rfl (by decide) (by decide) ?_
    show Steps p.tables e below (T2.setTop (mkF m 15 #[.val (.ref a), .val (.int (1 : Int32)), .val .null] [])) _
    refine XS.aloadN X2.here hx rfl (hb hby own_d7_15) rfl rfl ?_
    exact k
  obtain ⟨T8, X8, e8, st8⟩ := getF X2 hx hZ hown (host := "") (Or.inl (hw _ (List.mem_of_getElem? (i := 14) rfl))) Via.refl e2 P2 (g := (mkF m 16 #[.val (.ref a), .val (.int (1 : Int32)), .val .null] [(.ref a)])) rfl rfl (hb hby own_d7_16)
  have k9 : ∀ t, Steps p.tables e below (T8.setTop (mkF m 19 #[.val (.ref a), .val (.int (1 : Int32)), .val .null] [(.ref rs)])) t → Steps p.tables e below (s₁.setTop (entryFrame m #[(.ref a), (.int (1 : Int32))] 3)) t := fun t k => k7 t (st8 t k)
  obtain ⟨cl10, Ar10, qa10, Sa10, Na10, Ha10, Ga10⟩ := id P6
  have hin11 : ¬ ((1 : Int32) < 0 ∨ cl10.slots.size ≤ ((1 : Int32)).toNatClampNeg) := inb_of Sa10 ⟨by decide, by decide⟩
  have hat12 : cl10.slots[((1 : Int32)).toNatClampNeg]? = some (.double d1) := Ha10 1 (Nat.lt_of_not_le fun q => hin11 (Or.inr q))
  have k13 : ∀ t, Steps p.tables e below (T8.setTop (mkF m 21 #[.val (.ref a), .val (.int (1 : Int32)), .val .null] [(.double d1)])) t → Steps p.tables e below (s₁.setTop (entryFrame m #[(.ref a), (.int (1 : Int32))] 3)) t := by
    intro t k
    refine k9 t ?_
    show Steps p.tables e below (T8.setTop (mkF m 19 #[.val (.ref a), .val (.int (1 : Int32)), .val .null] [(.ref rs)])) _
    refine XS.iloadN X8.here hx rfl (hb hby own_d7_19) rfl ?_
    show Steps p.tables e below (T8.setTop (mkF m 20 #[.val (.ref a), .val (.int (1 : Int32)), .val .null] [(.int (1 : Int32)), (.ref rs)])) _
    refine X8.daload hx (j := (1 : Int32)) (v := (.double d1)) (by rw [e8]; exact Ar10.1) (State.isArrayOf_alike hZ.alike Ar10.2.1) Ar10.2.2 hin11 hat12 (g := (mkF m 20 #[.val (.ref a), .val (.int (1 : Int32)), .val .null] [(.int (1 : Int32)), (.ref rs)])) rfl rfl (hb hby own_d7_20) _ ?_
    exact k
  obtain ⟨_, _, ⟨T14, L14, k14c, n14⟩, -, X14, ⟨Lc14, hQ14, l14, y14, z14⟩, st14⟩ := Jvm.LawKit.callS X8 hx (y := (⟨"com/example/reckoner/reckoner/Value", "real", "(D)Lcom/example/reckoner/reckoner/Value;"⟩ : MethodName)) hown (mvT hZ (hw _ (List.mem_of_getElem? (i := 72) rfl))) (mvT hZ (hw _ (List.mem_of_getElem? (i := 73) rfl))) (mvT hZ (hw _ (List.mem_of_getElem? (i := 18) rfl))) (mvT hZ (hw _ (List.mem_of_getElem? (i := 74) rfl))) (by decide) (backOf (W := 0) (own_rmre l Z a0 hw [] d1 sR h0 n0 Z0 Xo SR) hZ (hw _ (List.mem_of_getElem? (i := 74) rfl)) (hw _ (List.mem_of_getElem? (i := 18) rfl)) (by decide) (by decide)) (g := (mkF m 21 #[.val (.ref a), .val (.int (1 : Int32)), .val .null] [(.double d1)])) rfl (by rw [hml]; rfl) (argsL := [(.double d1)]) (rest := []) (lenOf own_pd1 rfl) rfl (by show 2 * 0 + _ ≤ _; exact Nat.le_of_eq rfl) (hb hby own_d7_21) (fun _ _ => ⟨rfl, e8, (by decide : 0 + 1 ≤ _), (by decide : 0 + 3 ≤ _)⟩)
  dsimp only [Pt.U, Pt.locs, Pt.cells, Pt.slots] at X14 l14 y14 z14 st14 hQ14
  subst l14 y14 z14
  obtain ⟨rb1_14, rfl, N14q, Kq14, gz14_b1, fq14_0, fq14_1, fq14_2, fq14_3⟩ := hQ14
  have N14 := Fr.app N0 N14q
  have ge14_b1 : n0 ≤ rb1_14 := Nat.le_trans Z0 gz14_b1
  have bo14_b1 : h0.size ≤ rb1_14 := Nat.le_trans (Keep.refl h0 []).1 gz14_b1
  have ne15 : a ≠ rb1_14 := Nat.ne_of_lt (Nat.lt_of_lt_of_le P0.lt gz14_b1)
  have ne16 : rs ≠ rb1_14 := Nat.ne_of_lt (Nat.lt_of_lt_of_le P6.lt gz14_b1)
  have ne17 : vs ≠ rb1_14 := Nat.ne_of_lt (Nat.lt_of_lt_of_le P4.lt gz14_b1)
  have f18 := P0.keep Kq14
  have f19 := P1.keep Kq14 List.not_mem_nil
  have f20 := P2.keep Kq14 List.not_mem_nil
  have f21 := P3.keep Kq14 List.not_mem_nil
  have f22 := P4.keep Kq14 List.not_mem_nil
  have f23 := P6.keep Kq14 List.not_mem_nil
  have Z14 : n0 ≤ T14.heap.size := Nat.le_trans Z0 Kq14.1
  have K14 : Keep h0 T14.heap [] := (Keep.refl h0 []).trans Kq14 (fun x hx => nomatch hx)
  have Xo14 := Xo.keep Kq14 all0
  have k24 : ∀ t, Steps p.tables e below (T14.setTop (mkF m 24 #[.val (.ref a), .val (.int (1 : Int32)), .val .null] [(.ref rb1_14)])) t → Steps p.tables e below (s₁.setTop (entryFrame m #[(.ref a), (.int (1 : Int32))] 3)) t := fun t k => k13 t (st14 t k)
  obtain ⟨fs, hr, hrun, hended, hW, hsame⟩ := X14.leave (v := (some (.ref rb1_14))) (fun h => by rw [Bd.returns] at h; cases h)
  refine ⟨_, _, k24 _ ?_, hrun, hended, _, _, rfl, ?_, ⟨_, rfl⟩, hW, hsame.mono (by decide) (by decide)⟩
  · exact retOut X14 hx Bd.returns rfl (Or.inr (Or.inr (Or.inr (Or.inr ⟨rfl, rfl, rfl⟩)))) (hb hby own_d7_24) hr
  · show own_Qva1n1 Z a vs rs cv cr el0 el2 d0 d1 d2 sR h0 n0 _ T14.heap _
    exact ⟨rb1_14, rfl, N14, K14, bo14_b1, f18, f19, f20, f21, f22, P5, f23, fq14_0, fq14_1, fq14_2, fq14_3⟩
theorem own_efva0n1 (m : MethodId) (x0 : Addr) : entryFrame m #[(.ref x0), (.int (0 : Int32))] 3 = mkF m 0 #[.val (.ref x0), .val (.int (0 : Int32)), .unset] [] := by first | (simp [entryFrame, mkF, argsToLocals, Value.category]; done) | rfl
def own_Qva0n1 (Z : State) (a : Addr) (vs : Addr) (rs : Addr) (cv : ClassId) (cr : ClassId) (el1 : Value) (el2 : Value) (d0 : UInt64) (d1 : UInt64) (d2 : UInt64)  (sR : Addr) (h0 : Heap) (n0 : Nat) (v : Option Value) (h : Heap) (L : List Loc) : Prop := ∃ rb1_14, v = some (.ref rb1_14) ∧ Fr n0 L ∧ Keep h0 h [] ∧ h0.size ≤ rb1_14 ∧ Exa Z h a "com/example/reckoner/reckoner/OperandStack" ∧ Fld Z h a "com/example/reckoner/reckoner/OperandStack" "values" "[Lcom/example/reckoner/reckoner/Value;" (.ref vs) ∧ Fld Z h a "com/example/reckoner/reckoner/OperandStack" "reals" "[D" (.ref rs) ∧ Fld Z h a "com/example/reckoner/reckoner/OperandStack" "height" "I" (.int (1 : Int32)) ∧ Arv Z h vs cv (.object "com/example/reckoner/reckoner/Value") (3 : Int32) [.null, el1, el2] .null ∧ Ovr Z cv "com/example/reckoner/reckoner/Value" ∧ Arv Z h rs cr .double (3 : Int32) [(.double d0), (.double d1), (.double d2)] (.double (0 : UInt64)) ∧ Exa Z h rb1_14 "com/example/reckoner/reckoner/Value" ∧ Fld Z h rb1_14 "com/example/reckoner/reckoner/Value" "type" "Lcom/example/reckoner/reckoner/Value$Type;" (.ref sR) ∧ Fld Z h rb1_14 "com/example/reckoner/reckoner/Value" "integerValue" "J" (.long (0 : Int64)) ∧ Fld Z h rb1_14 "com/example/reckoner/reckoner/Value" "realValue" "D" (.double d0)
set_option maxRecDepth 65536 in
set_option maxHeartbeats 40000000 in
theorem own_rmva0n1 (l : Launch) (Z : State) (a0 : Array Value) (hw : ∀ d ∈ tables_1, d.before a0 Z = true) (ws : List Jvm.Cond) (a : Addr) (vs : Addr) (rs : Addr) (cv : ClassId) (cr : ClassId) (el1 : Value) (el2 : Value) (d0 : UInt64) (d1 : UInt64) (d2 : UInt64)  (sR : Addr) (h0 : Heap) (n0 : Nat) (Z0 : n0 ≤ h0.size) (P0 : Exa Z h0 a "com/example/reckoner/reckoner/OperandStack") (P1 : Fld Z h0 a "com/example/reckoner/reckoner/OperandStack" "values" "[Lcom/example/reckoner/reckoner/Value;" (.ref vs)) (P2 : Fld Z h0 a "com/example/reckoner/reckoner/OperandStack" "reals" "[D" (.ref rs)) (P3 : Fld Z h0 a "com/example/reckoner/reckoner/OperandStack" "height" "I" (.int (1 : Int32))) (P4 : Arv Z h0 vs cv (.object "com/example/reckoner/reckoner/Value") (3 : Int32) [.null, el1, el2] .null) (P5 : Ovr Z cv "com/example/reckoner/reckoner/Value") (P6 : Arv Z h0 rs cr .double (3 : Int32) [(.double d0), (.double d1), (.double d2)] (.double (0 : UInt64))) (ge_a : n0 ≤ a) (ge_vs : n0 ≤ vs) (ge_rs : n0 ≤ rs) (ne_a_vs : a ≠ vs) (ne_a_rs : a ≠ rs) (ne_vs_rs : vs ≠ rs) (Xo : Old Z n0 h0) (SR : Sta Z Z.heap "com/example/reckoner/reckoner/Value$Type" "REAL" "Lcom/example/reckoner/reckoner/Value$Type;" (.ref sR)) :
    MetFree l (⟨"com/example/reckoner/reckoner/OperandStack", "valueAt", "(I)Lcom/example/reckoner/reckoner/Value;"⟩ : MethodName) (head1 (Jvm.Cond.code (⟨"com/example/reckoner/reckoner/OperandStack", "valueAt", "(I)Lcom/example/reckoner/reckoner/Value;"⟩ : MethodName) prog_48_method_7_code 3 (some (.object "com/example/reckoner/reckoner/Value")) :: ws) ({ frames := 3, cells := 1, slots := 3, locals := 43 } : Room)) (fun aa U => aa = #[(.ref a), (.int (0 : Int32))] ∧ Z.Warmed39 U.vm ∧ U.heap = h0) (fun _ _ _ _ _ => True) (fun _ U o U' => ∃ v L, o = .returned v ∧ own_Qva0n1 Z a vs rs cv cr el1 el2 d0 d1 d2 sR h0 n0 v U'.heap L ∧ FrameEnd U o U' L ({ frames := 3, cells := 1, slots := 3, locals := 43 } : Room).cells ({ frames := 3, cells := 1, slots := 3, locals := 43 } : Room).slots) := by
  refine MetFree.of_bodySF (plainFor_of_name own_pn1) hisR ?_
  intro p e s m args below meth c s₁ Bd hml0 hP hK
  obtain ⟨rfl, hZ, hh⟩ := hP
  have hx := Bd.exec
  have hby := Bd.bytes
  have hml : c.maxLocals = 3 := hml0
  have hown : s.vm.findClass "com/example/reckoner/reckoner/OperandStack" = some m.cls := findClass_of_methodNamed Bd.named
  have hnm := (name_of_methodNamed Bd.named Bd.method).1
  have X0 : Stand p l e ({ frames := 3, cells := 1, slots := 3, locals := 43 } : Room) s m #[(.ref a), (.int (0 : Int32))] below meth c s₁ [] 0 0 := Stand.of_body Bd
  have e0 : s₁.heap = h0 := by rw [← hh, Bd.state]; rfl
  have N0 := Fr.nil n0
  have pre0 : ∀ t, Steps p.tables e below (s₁.setTop (mkF m 0 #[.val (.ref a), .val (.int (0 : Int32)), .unset] [])) t → Steps p.tables e below (s₁.setTop (entryFrame m #[(.ref a), (.int (0 : Int32))] 3)) t := fun t k => castTop (own_efva0n1 m a) k
  have k1 : ∀ t, Steps p.tables e below (s₁.setTop (mkF m 1 #[.val (.ref a), .val (.int (0 : Int32)), .unset] [(.ref a)])) t → Steps p.tables e below (s₁.setTop (entryFrame m #[(.ref a), (.int (0 : Int32))] 3)) t := by
    intro t k
    refine pre0 t ?_
    show Steps p.tables e below (s₁.setTop (mkF m 0 #[.val (.ref a), .val (.int (0 : Int32)), .unset] [])) _
    refine XS.aloadN X0.here hx rfl (hb hby own_d7_0) rfl rfl ?_
    exact k
  obtain ⟨T2, X2, e2, st2⟩ := getF X0 hx hZ hown (host := "") (Or.inl (hw _ (List.mem_of_getElem? (i := 11) rfl))) Via.refl e0 P1 (g := (mkF m 1 #[.val (.ref a), .val (.int (0 : Int32)), .unset] [(.ref a)])) rfl rfl (hb hby own_d7_1)
  have k3 : ∀ t, Steps p.tables e below (T2.setTop (mkF m 4 #[.val (.ref a), .val (.int (0 : Int32)), .unset] [(.ref vs)])) t → Steps p.tables e below (s₁.setTop (entryFrame m #[(.ref a), (.int (0 : Int32))] 3)) t := fun t k => k1 t (st2 t k)
  obtain ⟨cl4, Ar4, qa4, Sa4, Na4, Ha4, Ga4⟩ := id P4
  have hin5 : ¬ ((0 : Int32) < 0 ∨ cl4.slots.size ≤ ((0 : Int32)).toNatClampNeg) := inb_of Sa4 ⟨by decide, by decide⟩
  have hat6 : cl4.slots[((0 : Int32)).toNatClampNeg]? = some .null := Ha4 0 (Nat.lt_of_not_le fun q => hin5 (Or.inr q))
  have k7 : ∀ t, Steps p.tables e below (T2.setTop (mkF m 16 #[.val (.ref a), .val (.int (0 : Int32)), .val .null] [(.ref a)])) t → Steps p.tables e below (s₁.setTop (entryFrame m #[(.ref a), (.int (0 : Int32))] 3)) t := by
    intro t k
    refine k3 t ?_
    show Steps p.tables e below (T2.setTop (mkF m 4 #[.val (.ref a), .val (.int (0 : Int32)), .unset] [(.ref vs)])) _
    refine XS.iloadN X2.here hx rfl (hb hby own_d7_4) rfl ?_
    show Steps p.tables e below (T2.setTop (mkF m 5 #[.val (.ref a), .val (.int (0 : Int32)), .unset] [(.int (0 : Int32)), (.ref vs)])) _
    refine X2.aaload hx (j := (0 : Int32)) (v := .null) (by rw [e2]; exact Ar4.1) (State.isArrayOf_alike hZ.alike Ar4.2.1) rfl Ar4.2.2 hin5 hat6 (g := (mkF m 5 #[.val (.ref a), .val (.int (0 : Int32)), .unset] [(.int (0 : Int32)), (.ref vs)])) rfl rfl (hb hby own_d7_5) _ ?_
    show Steps p.tables e below (T2.setTop (mkF m 6 #[.val (.ref a), .val (.int (0 : Int32)), .unset] [.null])) _
    refine XS.astoreN X2.here hx rfl (hb hby own_d7_6) rfl rfl (l' := #[.val (.ref a), .val (.int (0 : Int32)), .val .null]) rfl ?_
    show Steps p.tables e below (T2.setTop (mkF m 7 #[.val (.ref a), .val (.int (0 : Int32)), .val .null] [])) _
    refine XS.aloadN X2.here hx rfl (hb hby own_d7_7) rfl rfl ?_
    show Steps p.tables e below (T2.setTop (mkF m 8 #[.val (.ref a), .val (.int (0 : Int32)), .val .null] [.null])) _
    refine XS.ifnullYes X2.here hx rfl (pc0 := 8) (pc' := 15) rfl (hb hby own_d7_8) rfl (by decide) (by decide) ?_
    show Steps p.tables e below (T2.setTop (mkF m 15 #[.val (.ref a), .val (.int (0 : Int32)), .val .null] [])) _
    refine XS.aloadN X2.here hx rfl (hb hby own_d7_15) rfl rfl ?_
    exact k
  obtain ⟨T8, X8, e8, st8⟩ := getF X2 hx hZ hown (host := "") (Or.inl (hw _ (List.mem_of_getElem? (i := 14) rfl))) Via.refl e2 P2 (g := (mkF m 16 #[.val (.ref a), .val (.int (0 : Int32)), .val .null] [(.ref a)])) rfl rfl (hb hby own_d7_16)
  have k9 : ∀ t, Steps p.tables e below (T8.setTop (mkF m 19 #[.val (.ref a), .val (.int (0 : Int32)), .val .null] [(.ref rs)])) t → Steps p.tables e below (s₁.setTop (entryFrame m #[(.ref a), (.int (0 : Int32))] 3)) t := fun t k => k7 t (st8 t k)
  obtain ⟨cl10, Ar10, qa10, Sa10, Na10, Ha10, Ga10⟩ := id P6
  have hin11 : ¬ ((0 : Int32) < 0 ∨ cl10.slots.size ≤ ((0 : Int32)).toNatClampNeg) := inb_of Sa10 ⟨by decide, by decide⟩
  have hat12 : cl10.slots[((0 : Int32)).toNatClampNeg]? = some (.double d0) := Ha10 0 (Nat.lt_of_not_le fun q => hin11 (Or.inr q))
  have k13 : ∀ t, Steps p.tables e below (T8.setTop (mkF m 21 #[.val (.ref a), .val (.int (0 : Int32)), .val .null] [(.double d0)])) t → Steps p.tables e below (s₁.setTop (entryFrame m #[(.ref a), (.int (0 : Int32))] 3)) t := by
    intro t k
    refine k9 t ?_
    show Steps p.tables e below (T8.setTop (mkF m 19 #[.val (.ref a), .val (.int (0 : Int32)), .val .null] [(.ref rs)])) _
    refine XS.iloadN X8.here hx rfl (hb hby own_d7_19) rfl ?_
    show Steps p.tables e below (T8.setTop (mkF m 20 #[.val (.ref a), .val (.int (0 : Int32)), .val .null] [(.int (0 : Int32)), (.ref rs)])) _
    refine X8.daload hx (j := (0 : Int32)) (v := (.double d0)) (by rw [e8]; exact Ar10.1) (State.isArrayOf_alike hZ.alike Ar10.2.1) Ar10.2.2 hin11 hat12 (g := (mkF m 20 #[.val (.ref a), .val (.int (0 : Int32)), .val .null] [(.int (0 : Int32)), (.ref rs)])) rfl rfl (hb hby own_d7_20) _ ?_
    exact k
  obtain ⟨_, _, ⟨T14, L14, k14c, n14⟩, -, X14, ⟨Lc14, hQ14, l14, y14, z14⟩, st14⟩ := Jvm.LawKit.callS X8 hx (y := (⟨"com/example/reckoner/reckoner/Value", "real", "(D)Lcom/example/reckoner/reckoner/Value;"⟩ : MethodName)) hown (mvT hZ (hw _ (List.mem_of_getElem? (i := 72) rfl))) (mvT hZ (hw _ (List.mem_of_getElem? (i := 73) rfl))) (mvT hZ (hw _ (List.mem_of_getElem? (i := 18) rfl))) (mvT hZ (hw _ (List.mem_of_getElem? (i := 74) rfl))) (by decide) (backOf (W := 0) (own_rmre l Z a0 hw [] d0 sR h0 n0 Z0 Xo SR) hZ (hw _ (List.mem_of_getElem? (i := 74) rfl)) (hw _ (List.mem_of_getElem? (i := 18) rfl)) (by decide) (by decide)) (g := (mkF m 21 #[.val (.ref a), .val (.int (0 : Int32)), .val .null] [(.double d0)])) rfl (by rw [hml]; rfl) (argsL := [(.double d0)]) (rest := []) (lenOf own_pd1 rfl) rfl (by show 2 * 0 + _ ≤ _; exact Nat.le_of_eq rfl) (hb hby own_d7_21) (fun _ _ => ⟨rfl, e8, (by decide : 0 + 1 ≤ _), (by decide : 0 + 3 ≤ _)⟩)
  dsimp only [Pt.U, Pt.locs, Pt.cells, Pt.slots] at X14 l14 y14 z14 st14 hQ14
  subst l14 y14 z14
  obtain ⟨rb1_14, rfl, N14q, Kq14, gz14_b1, fq14_0, fq14_1, fq14_2, fq14_3⟩ := hQ14
  have N14 := Fr.app N0 N14q
  have ge14_b1 : n0 ≤ rb1_14 := Nat.le_trans Z0 gz14_b1
  have bo14_b1 : h0.size ≤ rb1_14 := Nat.le_trans (Keep.refl h0 []).1 gz14_b1
  have ne15 : a ≠ rb1_14 := Nat.ne_of_lt (Nat.lt_of_lt_of_le P0.lt gz14_b1)
  have ne16 : rs ≠ rb1_14 := Nat.ne_of_lt (Nat.lt_of_lt_of_le P6.lt gz14_b1)
  have ne17 : vs ≠ rb1_14 := Nat.ne_of_lt (Nat.lt_of_lt_of_le P4.lt gz14_b1)
  have f18 := P0.keep Kq14
  have f19 := P1.keep Kq14 List.not_mem_nil
  have f20 := P2.keep Kq14 List.not_mem_nil
  have f21 := P3.keep Kq14 List.not_mem_nil
  have f22 := P4.keep Kq14 List.not_mem_nil
  have f23 := P6.keep Kq14 List.not_mem_nil
  have Z14 : n0 ≤ T14.heap.size := Nat.le_trans Z0 Kq14.1
  have K14 : Keep h0 T14.heap [] := (Keep.refl h0 []).trans Kq14 (fun x hx => nomatch hx)
  have Xo14 := Xo.keep Kq14 all0
  have k24 : ∀ t, Steps p.tables e below (T14.setTop (mkF m 24 #[.val (.ref a), .val (.int (0 : Int32)), .val .null] [(.ref rb1_14)])) t → Steps p.tables e below (s₁.setTop (entryFrame m #[(.ref a), (.int (0 : Int32))] 3)) t := fun t k => k13 t (st14 t k)
  obtain ⟨fs, hr, hrun, hended, hW, hsame⟩ := X14.leave (v := (some (.ref rb1_14))) (fun h => by rw [Bd.returns] at h; cases h)
  refine ⟨_, _, k24 _ ?_, hrun, hended, _, _, rfl, ?_, ⟨_, rfl⟩, hW, hsame.mono (by decide) (by decide)⟩
  · exact retOut X14 hx Bd.returns rfl (Or.inr (Or.inr (Or.inr (Or.inr ⟨rfl, rfl, rfl⟩)))) (hb hby own_d7_24) hr
  · show own_Qva0n1 Z a vs rs cv cr el1 el2 d0 d1 d2 sR h0 n0 _ T14.heap _
    exact ⟨rb1_14, rfl, N14, K14, bo14_b1, f18, f19, f20, f21, f22, P5, f23, fq14_0, fq14_1, fq14_2, fq14_3⟩
theorem own_efva1n2 (m : MethodId) (x0 : Addr) : entryFrame m #[(.ref x0), (.int (1 : Int32))] 3 = mkF m 0 #[.val (.ref x0), .val (.int (1 : Int32)), .unset] [] := by first | (simp [entryFrame, mkF, argsToLocals, Value.category]; done) | rfl
def own_Qva1n2 (Z : State) (a : Addr) (vs : Addr) (rs : Addr) (cv : ClassId) (cr : ClassId) (el0 : Value) (el2 : Value) (d0 : UInt64) (d1 : UInt64) (d2 : UInt64)  (sR : Addr) (h0 : Heap) (n0 : Nat) (v : Option Value) (h : Heap) (L : List Loc) : Prop := ∃ rb1_14, v = some (.ref rb1_14) ∧ Fr n0 L ∧ Keep h0 h [] ∧ h0.size ≤ rb1_14 ∧ Exa Z h a "com/example/reckoner/reckoner/OperandStack" ∧ Fld Z h a "com/example/reckoner/reckoner/OperandStack" "values" "[Lcom/example/reckoner/reckoner/Value;" (.ref vs) ∧ Fld Z h a "com/example/reckoner/reckoner/OperandStack" "reals" "[D" (.ref rs) ∧ Fld Z h a "com/example/reckoner/reckoner/OperandStack" "height" "I" (.int (2 : Int32)) ∧ Arv Z h vs cv (.object "com/example/reckoner/reckoner/Value") (3 : Int32) [el0, .null, el2] .null ∧ Ovr Z cv "com/example/reckoner/reckoner/Value" ∧ Arv Z h rs cr .double (3 : Int32) [(.double d0), (.double d1), (.double d2)] (.double (0 : UInt64)) ∧ Exa Z h rb1_14 "com/example/reckoner/reckoner/Value" ∧ Fld Z h rb1_14 "com/example/reckoner/reckoner/Value" "type" "Lcom/example/reckoner/reckoner/Value$Type;" (.ref sR) ∧ Fld Z h rb1_14 "com/example/reckoner/reckoner/Value" "integerValue" "J" (.long (0 : Int64)) ∧ Fld Z h rb1_14 "com/example/reckoner/reckoner/Value" "realValue" "D" (.double d1)
set_option maxRecDepth 65536 in
set_option maxHeartbeats 40000000 in
theorem own_rmva1n2 (l : Launch) (Z : State) (a0 : Array Value) (hw : ∀ d ∈ tables_1, d.before a0 Z = true) (ws : List Jvm.Cond) (a : Addr) (vs : Addr) (rs : Addr) (cv : ClassId) (cr : ClassId) (el0 : Value) (el2 : Value) (d0 : UInt64) (d1 : UInt64) (d2 : UInt64)  (sR : Addr) (h0 : Heap) (n0 : Nat) (Z0 : n0 ≤ h0.size) (P0 : Exa Z h0 a "com/example/reckoner/reckoner/OperandStack") (P1 : Fld Z h0 a "com/example/reckoner/reckoner/OperandStack" "values" "[Lcom/example/reckoner/reckoner/Value;" (.ref vs)) (P2 : Fld Z h0 a "com/example/reckoner/reckoner/OperandStack" "reals" "[D" (.ref rs)) (P3 : Fld Z h0 a "com/example/reckoner/reckoner/OperandStack" "height" "I" (.int (2 : Int32))) (P4 : Arv Z h0 vs cv (.object "com/example/reckoner/reckoner/Value") (3 : Int32) [el0, .null, el2] .null) (P5 : Ovr Z cv "com/example/reckoner/reckoner/Value") (P6 : Arv Z h0 rs cr .double (3 : Int32) [(.double d0), (.double d1), (.double d2)] (.double (0 : UInt64))) (ge_a : n0 ≤ a) (ge_vs : n0 ≤ vs) (ge_rs : n0 ≤ rs) (ne_a_vs : a ≠ vs) (ne_a_rs : a ≠ rs) (ne_vs_rs : vs ≠ rs) (Xo : Old Z n0 h0) (SR : Sta Z Z.heap "com/example/reckoner/reckoner/Value$Type" "REAL" "Lcom/example/reckoner/reckoner/Value$Type;" (.ref sR)) :
    MetFree l (⟨"com/example/reckoner/reckoner/OperandStack", "valueAt", "(I)Lcom/example/reckoner/reckoner/Value;"⟩ : MethodName) (head1 (Jvm.Cond.code (⟨"com/example/reckoner/reckoner/OperandStack", "valueAt", "(I)Lcom/example/reckoner/reckoner/Value;"⟩ : MethodName) prog_48_method_7_code 3 (some (.object "com/example/reckoner/reckoner/Value")) :: ws) ({ frames := 3, cells := 1, slots := 3, locals := 43 } : Room)) (fun aa U => aa = #[(.ref a), (.int (1 : Int32))] ∧ Z.Warmed39 U.vm ∧ U.heap = h0) (fun _ _ _ _ _ => True) (fun _ U o U' => ∃ v L, o = .returned v ∧ own_Qva1n2 Z a vs rs cv cr el0 el2 d0 d1 d2 sR h0 n0 v U'.heap L ∧ FrameEnd U o U' L ({ frames := 3, cells := 1, slots := 3, locals := 43 } : Room).cells ({ frames := 3, cells := 1, slots := 3, locals := 43 } : Room).slots) := by
  refine MetFree.of_bodySF (plainFor_of_name own_pn1) hisR ?_
  intro p e s m args below meth c s₁ Bd hml0 hP hK
  obtain ⟨rfl, hZ, hh⟩ := hP
  have hx := Bd.exec
  have hby := Bd.bytes
  have hml : c.maxLocals = 3 := hml0
  have hown : s.vm.findClass "com/example/reckoner/reckoner/OperandStack" = some m.cls := findClass_of_methodNamed Bd.named
  have hnm := (name_of_methodNamed Bd.named Bd.method).1
  have X0 : Stand p l e ({ frames := 3, cells := 1, slots := 3, locals := 43 } : Room) s m #[(.ref a), (.int (1 : Int32))] below meth c s₁ [] 0 0 := Stand.of_body Bd
  have e0 : s₁.heap = h0 := by rw [← hh, Bd.state]; rfl
  have N0 := Fr.nil n0
  have pre0 : ∀ t, Steps p.tables e below (s₁.setTop (mkF m 0 #[.val (.ref a), .val (.int (1 : Int32)), .unset] [])) t → Steps p.tables e below (s₁.setTop (entryFrame m #[(.ref a), (.int (1 : Int32))] 3)) t := fun t k => castTop (own_efva1n2 m a) k
  have k1 : ∀ t, Steps p.tables e below (s₁.setTop (mkF m 1 #[.val (.ref a), .val (.int (1 : Int32)), .unset] [(.ref a)])) t → Steps p.tables e below (s₁.setTop (entryFrame m #[(.ref a), (.int (1 : Int32))] 3)) t := by
    intro t k
    refine pre0 t ?_
    show Steps p.tables e below (s₁.setTop (mkF m 0 #[.val (.ref a), .val (.int (1 : Int32)), .unset] [])) _
    refine XS.aloadN X0.here hx rfl (hb hby own_d7_0) rfl rfl ?_
    exact k
  obtain ⟨T2, X2, e2, st2⟩ := getF X0 hx hZ hown (host := "") (Or.inl (hw _ (List.mem_of_getElem? (i := 11) rfl))) Via.refl e0 P1 (g := (mkF m 1 #[.val (.ref a), .val (.int (1 : Int32)), .unset] [(.ref a)])) rfl rfl (hb hby own_d7_1)
  have k3 : ∀ t, Steps p.tables e below (T2.setTop (mkF m 4 #[.val (.ref a), .val (.int (1 : Int32)), .unset] [(.ref vs)])) t → Steps p.tables e below (s₁.setTop (entryFrame m #[(.ref a), (.int (1 : Int32))] 3)) t := fun t k => k1 t (st2 t k)
  obtain ⟨cl4, Ar4, qa4, Sa4, Na4, Ha4, Ga4⟩ := id P4
  have hin5 : ¬ ((1 : Int32) < 0 ∨ cl4.slots.size ≤ ((1 : Int32)).toNatClampNeg) := inb_of Sa4 ⟨by decide, by decide⟩
  have hat6 : cl4.slots[((1 : Int32)).toNatClampNeg]? = some .null := Ha4 1 (Nat.lt_of_not_le fun q => hin5 (Or.inr q))
  have k7 : ∀ t, Steps p.tables e below (T2.setTop (mkF m 16 #[.val (.ref a), .val (.int (1 : Int32)), .val .null] [(.ref a)])) t → Steps p.tables e below (s₁.setTop (entryFrame m #[(.ref a), (.int (1 : Int32))] 3)) t := by
    intro t k
    refine k3 t ?_
    show Steps p.tables e below (T2.setTop (mkF m 4 #[.val (.ref a), .val (.int (1 : Int32)), .unset] [(.ref vs)])) _
    refine XS.iloadN X2.here hx rfl (hb hby own_d7_4) rfl ?_
    show Steps p.tables e below (T2.setTop (mkF m 5 #[.val (.ref a), .val (.int (1 : Int32)), .unset] [(.int (1 : Int32)), (.ref vs)])) _
    refine X2.aaload hx (j := (1 : Int32)) (v := .null) (by rw [e2]; exact Ar4.1) (State.isArrayOf_alike hZ.alike Ar4.2.1) rfl Ar4.2.2 hin5 hat6 (g := (mkF m 5 #[.val (.ref a), .val (.int (1 : Int32)), .unset] [(.int (1 : Int32)), (.ref vs)])) rfl rfl (hb hby own_d7_5) _ ?_
    show Steps p.tables e below (T2.setTop (mkF m 6 #[.val (.ref a), .val (.int (1 : Int32)), .unset] [.null])) _
    refine XS.astoreN X2.here hx rfl (hb hby own_d7_6) rfl rfl (l' := #[.val (.ref a), .val (.int (1 : Int32)), .val .null]) rfl ?_
    show Steps p.tables e below (T2.setTop (mkF m 7 #[.val (.ref a), .val (.int (1 : Int32)), .val .null] [])) _
    refine XS.aloadN X2.here hx rfl (hb hby own_d7_7) rfl rfl ?_
    show Steps p.tables e below (T2.setTop (mkF m 8 #[.val (.ref a), .val (.int (1 : Int32)), .val .null] [.null])) _
    refine XS.ifnullYes X2.here hx rfl (pc0 := 8) (pc' := 15) rfl (hb hby own_d7_8) rfl (by decide) (by decide) ?_
    show Steps p.tables e below (T2.setTop (mkF m 15 #[.val (.ref a), .val (.int (1 : Int32)), .val .null] [])) _
    refine XS.aloadN X2.here hx rfl (hb hby own_d7_15) rfl rfl ?_
    exact k
  obtain ⟨T8, X8, e8, st8⟩ := getF X2 hx hZ hown (host := "") (Or.inl (hw _ (List.mem_of_getElem? (i := 14) rfl))) Via.refl e2 P2 (g := (mkF m 16 #[.val (.ref a), .val (.int (1 : Int32)), .val .null] [(.ref a)])) rfl rfl (hb hby own_d7_16)
  have k9 : ∀ t, Steps p.tables e below (T8.setTop (mkF m 19 #[.val (.ref a), .val (.int (1 : Int32)), .val .null] [(.ref rs)])) t → Steps p.tables e below (s₁.setTop (entryFrame m #[(.ref a), (.int (1 : Int32))] 3)) t := fun t k => k7 t (st8 t k)
  obtain ⟨cl10, Ar10, qa10, Sa10, Na10, Ha10, Ga10⟩ := id P6
  have hin11 : ¬ ((1 : Int32) < 0 ∨ cl10.slots.size ≤ ((1 : Int32)).toNatClampNeg) := inb_of Sa10 ⟨by decide, by decide⟩
  have hat12 : cl10.slots[((1 : Int32)).toNatClampNeg]? = some (.double d1) := Ha10 1 (Nat.lt_of_not_le fun q => hin11 (Or.inr q))
  have k13 : ∀ t, Steps p.tables e below (T8.setTop (mkF m 21 #[.val (.ref a), .val (.int (1 : Int32)), .val .null] [(.double d1)])) t → Steps p.tables e below (s₁.setTop (entryFrame m #[(.ref a), (.int (1 : Int32))] 3)) t := by
    intro t k
    refine k9 t ?_
    show Steps p.tables e below (T8.setTop (mkF m 19 #[.val (.ref a), .val (.int (1 : Int32)), .val .null] [(.ref rs)])) _
    refine XS.iloadN X8.here hx rfl (hb hby own_d7_19) rfl ?_
    show Steps p.tables e below (T8.setTop (mkF m 20 #[.val (.ref a), .val (.int (1 : Int32)), .val .null] [(.int (1 : Int32)), (.ref rs)])) _
    refine X8.daload hx (j := (1 : Int32)) (v := (.double d1)) (by rw [e8]; exact Ar10.1) (State.isArrayOf_alike hZ.alike Ar10.2.1) Ar10.2.2 hin11 hat12 (g := (mkF m 20 #[.val (.ref a), .val (.int (1 : Int32)), .val .null] [(.int (1 : Int32)), (.ref rs)])) rfl rfl (hb hby own_d7_20) _ ?_
    exact k
  obtain ⟨_, _, ⟨T14, L14, k14c, n14⟩, -, X14, ⟨Lc14, hQ14, l14, y14, z14⟩, st14⟩ := Jvm.LawKit.callS X8 hx (y := (⟨"com/example/reckoner/reckoner/Value", "real", "(D)Lcom/example/reckoner/reckoner/Value;"⟩ : MethodName)) hown (mvT hZ (hw _ (List.mem_of_getElem? (i := 72) rfl))) (mvT hZ (hw _ (List.mem_of_getElem? (i := 73) rfl))) (mvT hZ (hw _ (List.mem_of_getElem? (i := 18) rfl))) (mvT hZ (hw _ (List.mem_of_getElem? (i := 74) rfl))) (by decide) (backOf (W := 0) (own_rmre l Z a0 hw [] d1 sR h0 n0 Z0 Xo SR) hZ (hw _ (List.mem_of_getElem? (i := 74) rfl)) (hw _ (List.mem_of_getElem? (i := 18) rfl)) (by decide) (by decide)) (g := (mkF m 21 #[.val (.ref a), .val (.int (1 : Int32)), .val .null] [(.double d1)])) rfl (by rw [hml]; rfl) (argsL := [(.double d1)]) (rest := []) (lenOf own_pd1 rfl) rfl (by show 2 * 0 + _ ≤ _; exact Nat.le_of_eq rfl) (hb hby own_d7_21) (fun _ _ => ⟨rfl, e8, (by decide : 0 + 1 ≤ _), (by decide : 0 + 3 ≤ _)⟩)
  dsimp only [Pt.U, Pt.locs, Pt.cells, Pt.slots] at X14 l14 y14 z14 st14 hQ14
  subst l14 y14 z14
  obtain ⟨rb1_14, rfl, N14q, Kq14, gz14_b1, fq14_0, fq14_1, fq14_2, fq14_3⟩ := hQ14
  have N14 := Fr.app N0 N14q
  have ge14_b1 : n0 ≤ rb1_14 := Nat.le_trans Z0 gz14_b1
  have bo14_b1 : h0.size ≤ rb1_14 := Nat.le_trans (Keep.refl h0 []).1 gz14_b1
  have ne15 : a ≠ rb1_14 := Nat.ne_of_lt (Nat.lt_of_lt_of_le P0.lt gz14_b1)
  have ne16 : rs ≠ rb1_14 := Nat.ne_of_lt (Nat.lt_of_lt_of_le P6.lt gz14_b1)
  have ne17 : vs ≠ rb1_14 := Nat.ne_of_lt (Nat.lt_of_lt_of_le P4.lt gz14_b1)
  have f18 := P0.keep Kq14
  have f19 := P1.keep Kq14 List.not_mem_nil
  have f20 := P2.keep Kq14 List.not_mem_nil
  have f21 := P3.keep Kq14 List.not_mem_nil
  have f22 := P4.keep Kq14 List.not_mem_nil
  have f23 := P6.keep Kq14 List.not_mem_nil
  have Z14 : n0 ≤ T14.heap.size := Nat.le_trans Z0 Kq14.1
  have K14 : Keep h0 T14.heap [] := (Keep.refl h0 []).trans Kq14 (fun x hx => nomatch hx)
  have Xo14 := Xo.keep Kq14 all0
  have k24 : ∀ t, Steps p.tables e below (T14.setTop (mkF m 24 #[.val (.ref a), .val (.int (1 : Int32)), .val .null] [(.ref rb1_14)])) t → Steps p.tables e below (s₁.setTop (entryFrame m #[(.ref a), (.int (1 : Int32))] 3)) t := fun t k => k13 t (st14 t k)
  obtain ⟨fs, hr, hrun, hended, hW, hsame⟩ := X14.leave (v := (some (.ref rb1_14))) (fun h => by rw [Bd.returns] at h; cases h)
  refine ⟨_, _, k24 _ ?_, hrun, hended, _, _, rfl, ?_, ⟨_, rfl⟩, hW, hsame.mono (by decide) (by decide)⟩
  · exact retOut X14 hx Bd.returns rfl (Or.inr (Or.inr (Or.inr (Or.inr ⟨rfl, rfl, rfl⟩)))) (hb hby own_d7_24) hr
  · show own_Qva1n2 Z a vs rs cv cr el0 el2 d0 d1 d2 sR h0 n0 _ T14.heap _
    exact ⟨rb1_14, rfl, N14, K14, bo14_b1, f18, f19, f20, f21, f22, P5, f23, fq14_0, fq14_1, fq14_2, fq14_3⟩
theorem own_d6_0 : decode prog_48_method_4_code 0 = .ok (.aload_n 0, 1) := by decide +kernel
theorem own_d6_1 : decode prog_48_method_4_code 1 = .ok (.dup, 1) := by decide +kernel
theorem own_d6_2 : decode prog_48_method_4_code 2 = .ok (.getfield 19, 3) := by decide +kernel
theorem own_d6_5 : decode prog_48_method_4_code 5 = .ok (.iconst 1, 1) := by decide +kernel
theorem own_d6_6 : decode prog_48_method_4_code 6 = .ok (.isub, 1) := by decide +kernel
theorem own_d6_7 : decode prog_48_method_4_code 7 = .ok (.putfield 19, 3) := by decide +kernel
theorem own_d6_10 : decode prog_48_method_4_code 10 = .ok (.aload_n 0, 1) := by decide +kernel
theorem own_d6_11 : decode prog_48_method_4_code 11 = .ok (.aload_n 0, 1) := by decide +kernel
theorem own_d6_12 : decode prog_48_method_4_code 12 = .ok (.getfield 19, 3) := by decide +kernel
theorem own_d6_15 : decode prog_48_method_4_code 15 = .ok (.invokevirtual 23, 3) := by decide +kernel
theorem own_d6_18 : decode prog_48_method_4_code 18 = .ok (.areturn, 1) := by decide +kernel
theorem own_pd2 : parseMethodDescriptor "(I)Lcom/example/reckoner/reckoner/Value;" = some ⟨[.int], some (.object "com/example/reckoner/reckoner/Value")⟩ := by decide +kernel
theorem own_efpo1o (m : MethodId) (x0 : Addr) : entryFrame m #[(.ref x0)] 1 = mkF m 0 #[.val (.ref x0)] [] := by first | (simp [entryFrame, mkF, argsToLocals, Value.category]; done) | rfl
def own_Qpo1o (Z : State) (a : Addr) (vs : Addr) (rs : Addr) (cv : ClassId) (cr : ClassId) (x0 : Addr) (el1 : Value) (el2 : Value) (d0 : UInt64) (d1 : UInt64) (d2 : UInt64) (h0 : Heap) (n0 : Nat) (v : Option Value) (h : Heap) (L : List Loc) : Prop := v = some (.ref x0) ∧ Fr n0 L ∧ Keep h0 h [a] ∧ Exa Z h a "com/example/reckoner/reckoner/OperandStack" ∧ Fld Z h a "com/example/reckoner/reckoner/OperandStack" "values" "[Lcom/example/reckoner/reckoner/Value;" (.ref vs) ∧ Fld Z h a "com/example/reckoner/reckoner/OperandStack" "reals" "[D" (.ref rs) ∧ Fld Z h a "com/example/reckoner/reckoner/OperandStack" "height" "I" (.int (0 : Int32)) ∧ Arv Z h vs cv (.object "com/example/reckoner/reckoner/Value") (3 : Int32) [(.ref x0), el1, el2] .null ∧ Ovr Z cv "com/example/reckoner/reckoner/Value" ∧ Arv Z h rs cr .double (3 : Int32) [(.double d0), (.double d1), (.double d2)] (.double (0 : UInt64))
set_option maxRecDepth 65536 in
set_option maxHeartbeats 40000000 in
theorem own_rmpo1o (l : Launch) (Z : State) (a0 : Array Value) (hw : ∀ d ∈ tables_1, d.before a0 Z = true) (ws : List Jvm.Cond) (a : Addr) (vs : Addr) (rs : Addr) (cv : ClassId) (cr : ClassId) (x0 : Addr) (el1 : Value) (el2 : Value) (d0 : UInt64) (d1 : UInt64) (d2 : UInt64) (h0 : Heap) (n0 : Nat) (Z0 : n0 ≤ h0.size) (P0 : Exa Z h0 a "com/example/reckoner/reckoner/OperandStack") (P1 : Fld Z h0 a "com/example/reckoner/reckoner/OperandStack" "values" "[Lcom/example/reckoner/reckoner/Value;" (.ref vs)) (P2 : Fld Z h0 a "com/example/reckoner/reckoner/OperandStack" "reals" "[D" (.ref rs)) (P3 : Fld Z h0 a "com/example/reckoner/reckoner/OperandStack" "height" "I" (.int (1 : Int32))) (P4 : Arv Z h0 vs cv (.object "com/example/reckoner/reckoner/Value") (3 : Int32) [(.ref x0), el1, el2] .null) (P5 : Ovr Z cv "com/example/reckoner/reckoner/Value") (P6 : Arv Z h0 rs cr .double (3 : Int32) [(.double d0), (.double d1), (.double d2)] (.double (0 : UInt64))) (ge_a : n0 ≤ a) (ge_vs : n0 ≤ vs) (ge_rs : n0 ≤ rs) (ne_a_vs : a ≠ vs) (ne_a_rs : a ≠ rs) (ne_vs_rs : vs ≠ rs) :
    MetFree l (⟨"com/example/reckoner/reckoner/OperandStack", "pop", "()Lcom/example/reckoner/reckoner/Value;"⟩ : MethodName) (head1 (Jvm.Cond.code (⟨"com/example/reckoner/reckoner/OperandStack", "pop", "()Lcom/example/reckoner/reckoner/Value;"⟩ : MethodName) prog_48_method_4_code 1 (some (.object "com/example/reckoner/reckoner/Value")) :: ws) ({ frames := 1, cells := 0, slots := 0, locals := 14 } : Room)) (fun aa U => aa = #[(.ref a)] ∧ Z.Warmed39 U.vm ∧ U.heap = h0) (fun _ _ _ _ _ => True) (fun _ U o U' => ∃ v L, o = .returned v ∧ own_Qpo1o Z a vs rs cv cr x0 el1 el2 d0 d1 d2 h0 n0 v U'.heap L ∧ FrameEnd U o U' L ({ frames := 1, cells := 0, slots := 0, locals := 14 } : Room).cells ({ frames := 1, cells := 0, slots := 0, locals := 14 } : Room).slots) := by
  refine MetFree.of_bodySF (plainFor_of_name own_pn1) hisR ?_
  intro p e s m args below meth c s₁ Bd hml0 hP hK
  obtain ⟨rfl, hZ, hh⟩ := hP
  have hx := Bd.exec
  have hby := Bd.bytes
  have hml : c.maxLocals = 1 := hml0
  have hown : s.vm.findClass "com/example/reckoner/reckoner/OperandStack" = some m.cls := findClass_of_methodNamed Bd.named
  have hnm := (name_of_methodNamed Bd.named Bd.method).1
  have X0 : Stand p l e ({ frames := 1, cells := 0, slots := 0, locals := 14 } : Room) s m #[(.ref a)] below meth c s₁ [] 0 0 := Stand.of_body Bd
  have e0 : s₁.heap = h0 := by rw [← hh, Bd.state]; rfl
  have N0 := Fr.nil n0
  have pre0 : ∀ t, Steps p.tables e below (s₁.setTop (mkF m 0 #[.val (.ref a)] [])) t → Steps p.tables e below (s₁.setTop (entryFrame m #[(.ref a)] 1)) t := fun t k => castTop (own_efpo1o m a) k
  have k1 : ∀ t, Steps p.tables e below (s₁.setTop (mkF m 2 #[.val (.ref a)] [(.ref a), (.ref a)])) t → Steps p.tables e below (s₁.setTop (entryFrame m #[(.ref a)] 1)) t := by
    intro t k
    refine pre0 t ?_
    show Steps p.tables e below (s₁.setTop (mkF m 0 #[.val (.ref a)] [])) _
    refine XS.aloadN X0.here hx rfl (hb hby own_d6_0) rfl rfl ?_
    show Steps p.tables e below (s₁.setTop (mkF m 1 #[.val (.ref a)] [(.ref a)])) _
    refine XS.dup X0.here hx rfl (hb hby own_d6_1) rfl rfl ?_
    exact k
  obtain ⟨T2, X2, e2, st2⟩ := getF X0 hx hZ hown (host := "") (Or.inl (hw _ (List.mem_of_getElem? (i := 40) rfl))) Via.refl e0 P3 (g := (mkF m 2 #[.val (.ref a)] [(.ref a), (.ref a)])) rfl rfl (hb hby own_d6_2)
  have k3 : ∀ t, Steps p.tables e below (T2.setTop (mkF m 5 #[.val (.ref a)] [(.int (1 : Int32)), (.ref a)])) t → Steps p.tables e below (s₁.setTop (entryFrame m #[(.ref a)] 1)) t := fun t k => k1 t (st2 t k)
  have k4 : ∀ t, Steps p.tables e below (T2.setTop (mkF m 7 #[.val (.ref a)] [(.int (0 : Int32)), (.ref a)])) t → Steps p.tables e below (s₁.setTop (entryFrame m #[(.ref a)] 1)) t := by
    intro t k
    refine k3 t ?_
    show Steps p.tables e below (T2.setTop (mkF m 5 #[.val (.ref a)] [(.int (1 : Int32)), (.ref a)])) _
    refine XS.iconst X2.here hx rfl (hb hby own_d6_5) ?_
    show Steps p.tables e below (T2.setTop (mkF m 6 #[.val (.ref a)] [(.int (1 : Int32)), (.int (1 : Int32)), (.ref a)])) _
    refine XS.isub X2.here hx rfl (hb hby own_d6_6) rfl ?_
    exact k
  obtain ⟨T5, h5, X5, e5, W5, st5⟩ := putF X2 hx hZ hown (host := "") (Or.inl (hw _ (List.mem_of_getElem? (i := 40) rfl))) Via.refl e2 P3 P0 (Or.inl (hw _ (List.mem_of_getElem? (i := 41) rfl))) (hw _ (List.mem_of_getElem? (i := 1) rfl)) (ty := .int) (by decide) rfl rfl (g := (mkF m 7 #[.val (.ref a)] [(.int (0 : Int32)), (.ref a)])) rfl rfl (hb hby own_d6_7)
  have f6 := P0.wr W5
  have f7 := P1.other W5 (Or.inr (slot_ne (Or.inr (hw _ (List.mem_of_getElem? (i := 12) rfl))) (Or.inl (hw _ (List.mem_of_getElem? (i := 41) rfl))) (by decide) (t := (.array (.object "com/example/reckoner/reckoner/Value"))) (t' := .int) (by decide) (by decide)))
  have f8 := P2.other W5 (Or.inr (slot_ne (Or.inr (hw _ (List.mem_of_getElem? (i := 15) rfl))) (Or.inl (hw _ (List.mem_of_getElem? (i := 41) rfl))) (by decide) (t := (.array .double)) (t' := .int) (by decide) (by decide)))
  have f9 := P4.other W5 (Ne.symm ne_a_vs)
  have f10 := P6.other W5 (Ne.symm ne_a_rs)
  have f11 := P3.same W5
  have N5 := Fr.snoc X5 N0 ge_a
  have K5 : Keep h0 h5 [a] := (Keep.refl h0 [a]).wr W5 (Or.inl (List.mem_of_getElem? (i := 0) rfl))
  have Z5 : n0 ≤ h5.size := Nat.le_trans Z0 (Keep.of_wr W5).1
  have k12 : ∀ t, Steps p.tables e below (T5.setTop (mkF m 10 #[.val (.ref a)] [])) t → Steps p.tables e below (s₁.setTop (entryFrame m #[(.ref a)] 1)) t := fun t k => k4 t (st5 t k)
  have k13 : ∀ t, Steps p.tables e below (T5.setTop (mkF m 12 #[.val (.ref a)] [(.ref a), (.ref a)])) t → Steps p.tables e below (s₁.setTop (entryFrame m #[(.ref a)] 1)) t := by
    intro t k
    refine k12 t ?_
    show Steps p.tables e below (T5.setTop (mkF m 10 #[.val (.ref a)] [])) _
    refine XS.aloadN X5.here hx rfl (hb hby own_d6_10) rfl rfl ?_
    show Steps p.tables e below (T5.setTop (mkF m 11 #[.val (.ref a)] [(.ref a)])) _
    refine XS.aloadN X5.here hx rfl (hb hby own_d6_11) rfl rfl ?_
    exact k
  obtain ⟨T14, X14, e14, st14⟩ := getF X5 hx hZ hown (host := "") (Or.inl (hw _ (List.mem_of_getElem? (i := 40) rfl))) Via.refl e5 f11 (g := (mkF m 12 #[.val (.ref a)] [(.ref a), (.ref a)])) rfl rfl (hb hby own_d6_12)
  have k15 : ∀ t, Steps p.tables e below (T14.setTop (mkF m 15 #[.val (.ref a)] [(.int (0 : Int32)), (.ref a)])) t → Steps p.tables e below (s₁.setTop (entryFrame m #[(.ref a)] 1)) t := fun t k => k13 t (st14 t k)
  obtain ⟨cq16, qa16x, qb16x⟩ := f6.cell
  obtain ⟨_, _, ⟨T16, L16, k16c, n16⟩, -, X16, ⟨Lc16, hQ16, l16, y16, z16⟩, st16⟩ := X14.privateBack hx (y := (⟨"com/example/reckoner/reckoner/OperandStack", "valueAt", "(I)Lcom/example/reckoner/reckoner/Value;"⟩ : MethodName)) hown (mvT hZ (hw _ (List.mem_of_getElem? (i := 48) rfl))) (mvT hZ (hw _ (List.mem_of_getElem? (i := 49) rfl))) (Jvm.Kit.selects_private (by decide) (mvT hZ (hw _ (List.mem_of_getElem? (i := 1) rfl))) (mvP hZ (hw _ (List.mem_of_getElem? (i := 50) rfl))) (mvT hZ (hw _ (List.mem_of_getElem? (i := 49) rfl)))) (Cond.privateMethod_at (mvP hZ (hw _ (List.mem_of_getElem? (i := 50) rfl)) (args := #[]))) (mvT hZ (hw _ (List.mem_of_getElem? (i := 51) rfl))) (by decide) (backOf (W := 0) (own_rmva0o0 l Z a0 hw [] a vs rs cv cr x0 el1 el2 d0 d1 d2 h5 n0 Z5 f6 f7 f8 f11 f9 P5 f10 ge_a ge_vs ge_rs ne_a_vs ne_a_rs ne_vs_rs) hZ (hw _ (List.mem_of_getElem? (i := 51) rfl)) (hw _ (List.mem_of_getElem? (i := 2) rfl)) (by decide) (by decide)) (g := (mkF m 15 #[.val (.ref a)] [(.int (0 : Int32)), (.ref a)])) rfl (by rw [hml]; rfl) (Steps.refl _) (a := a) (by rw [e14]; exact qa16x) qb16x (argsL := [(.int (0 : Int32))]) (rest := []) (lenOf own_pd2 rfl) rfl (by show 2 * 0 + _ ≤ _; exact Nat.le_of_eq rfl) (hb hby own_d6_15) (fun _ _ => ⟨rfl, e14, (by decide : 0 + 0 ≤ _), (by decide : 0 + 0 ≤ _)⟩)
  dsimp only [Pt.U, Pt.locs, Pt.cells, Pt.slots] at X16 l16 y16 z16 st16 hQ16
  subst l16 y16 z16
  obtain ⟨rfl, N16q, Kq16, fq16_0, fq16_1, fq16_2, fq16_3, fq16_4, fq16_5, fq16_6⟩ := hQ16
  have N16 := Fr.app N5 N16q
  have Z16 : n0 ≤ T16.heap.size := Nat.le_trans Z5 Kq16.1
  have K16 : Keep h0 T16.heap [a] := K5.trans Kq16 (fun x hx => nomatch hx)
  have k17 : ∀ t, Steps p.tables e below (T16.setTop (mkF m 18 #[.val (.ref a)] [(.ref x0)])) t → Steps p.tables e below (s₁.setTop (entryFrame m #[(.ref a)] 1)) t := fun t k => k15 t (st16.trans k)
  obtain ⟨fs, hr, hrun, hended, hW, hsame⟩ := X16.leave (v := (some (.ref x0))) (fun h => by rw [Bd.returns] at h; cases h)
  refine ⟨_, _, k17 _ ?_, hrun, hended, _, _, rfl, ?_, ⟨_, rfl⟩, hW, hsame.mono (by decide) (by decide)⟩
  · exact retOut X16 hx Bd.returns rfl (Or.inr (Or.inr (Or.inr (Or.inr ⟨rfl, rfl, rfl⟩)))) (hb hby own_d6_18) hr
  · show own_Qpo1o Z a vs rs cv cr x0 el1 el2 d0 d1 d2 h0 n0 _ T16.heap _
    exact ⟨rfl, N16, K16, fq16_0, fq16_1, fq16_2, fq16_3, fq16_4, fq16_5, fq16_6⟩
theorem own_efpo1n (m : MethodId) (x0 : Addr) : entryFrame m #[(.ref x0)] 1 = mkF m 0 #[.val (.ref x0)] [] := by first | (simp [entryFrame, mkF, argsToLocals, Value.category]; done) | rfl
def own_Qpo1n (Z : State) (a : Addr) (vs : Addr) (rs : Addr) (cv : ClassId) (cr : ClassId) (el1 : Value) (el2 : Value) (d0 : UInt64) (d1 : UInt64) (d2 : UInt64)  (sR : Addr) (h0 : Heap) (n0 : Nat) (v : Option Value) (h : Heap) (L : List Loc) : Prop := ∃ rrb1_14_16, v = some (.ref rrb1_14_16) ∧ Fr n0 L ∧ Keep h0 h [a] ∧ h0.size ≤ rrb1_14_16 ∧ Exa Z h a "com/example/reckoner/reckoner/OperandStack" ∧ Fld Z h a "com/example/reckoner/reckoner/OperandStack" "values" "[Lcom/example/reckoner/reckoner/Value;" (.ref vs) ∧ Fld Z h a "com/example/reckoner/reckoner/OperandStack" "reals" "[D" (.ref rs) ∧ Fld Z h a "com/example/reckoner/reckoner/OperandStack" "height" "I" (.int (0 : Int32)) ∧ Arv Z h vs cv (.object "com/example/reckoner/reckoner/Value") (3 : Int32) [.null, el1, el2] .null ∧ Ovr Z cv "com/example/reckoner/reckoner/Value" ∧ Arv Z h rs cr .double (3 : Int32) [(.double d0), (.double d1), (.double d2)] (.double (0 : UInt64)) ∧ Exa Z h rrb1_14_16 "com/example/reckoner/reckoner/Value" ∧ Fld Z h rrb1_14_16 "com/example/reckoner/reckoner/Value" "type" "Lcom/example/reckoner/reckoner/Value$Type;" (.ref sR) ∧ Fld Z h rrb1_14_16 "com/example/reckoner/reckoner/Value" "integerValue" "J" (.long (0 : Int64)) ∧ Fld Z h rrb1_14_16 "com/example/reckoner/reckoner/Value" "realValue" "D" (.double d0)
set_option maxRecDepth 65536 in
set_option maxHeartbeats 40000000 in
theorem own_rmpo1n (l : Launch) (Z : State) (a0 : Array Value) (hw : ∀ d ∈ tables_1, d.before a0 Z = true) (ws : List Jvm.Cond) (a : Addr) (vs : Addr) (rs : Addr) (cv : ClassId) (cr : ClassId) (el1 : Value) (el2 : Value) (d0 : UInt64) (d1 : UInt64) (d2 : UInt64)  (sR : Addr) (h0 : Heap) (n0 : Nat) (Z0 : n0 ≤ h0.size) (P0 : Exa Z h0 a "com/example/reckoner/reckoner/OperandStack") (P1 : Fld Z h0 a "com/example/reckoner/reckoner/OperandStack" "values" "[Lcom/example/reckoner/reckoner/Value;" (.ref vs)) (P2 : Fld Z h0 a "com/example/reckoner/reckoner/OperandStack" "reals" "[D" (.ref rs)) (P3 : Fld Z h0 a "com/example/reckoner/reckoner/OperandStack" "height" "I" (.int (1 : Int32))) (P4 : Arv Z h0 vs cv (.object "com/example/reckoner/reckoner/Value") (3 : Int32) [.null, el1, el2] .null) (P5 : Ovr Z cv "com/example/reckoner/reckoner/Value") (P6 : Arv Z h0 rs cr .double (3 : Int32) [(.double d0), (.double d1), (.double d2)] (.double (0 : UInt64))) (ge_a : n0 ≤ a) (ge_vs : n0 ≤ vs) (ge_rs : n0 ≤ rs) (ne_a_vs : a ≠ vs) (ne_a_rs : a ≠ rs) (ne_vs_rs : vs ≠ rs) (Xo : Old Z n0 h0) (SR : Sta Z Z.heap "com/example/reckoner/reckoner/Value$Type" "REAL" "Lcom/example/reckoner/reckoner/Value$Type;" (.ref sR)) :
    MetFree l (⟨"com/example/reckoner/reckoner/OperandStack", "pop", "()Lcom/example/reckoner/reckoner/Value;"⟩ : MethodName) (head1 (Jvm.Cond.code (⟨"com/example/reckoner/reckoner/OperandStack", "pop", "()Lcom/example/reckoner/reckoner/Value;"⟩ : MethodName) prog_48_method_4_code 1 (some (.object "com/example/reckoner/reckoner/Value")) :: ws) ({ frames := 4, cells := 1, slots := 3, locals := 57 } : Room)) (fun aa U => aa = #[(.ref a)] ∧ Z.Warmed39 U.vm ∧ U.heap = h0) (fun _ _ _ _ _ => True) (fun _ U o U' => ∃ v L, o = .returned v ∧ own_Qpo1n Z a vs rs cv cr el1 el2 d0 d1 d2 sR h0 n0 v U'.heap L ∧ FrameEnd U o U' L ({ frames := 4, cells := 1, slots := 3, locals := 57 } : Room).cells ({ frames := 4, cells := 1, slots := 3, locals := 57 } : Room).slots) := by
  refine MetFree.of_bodySF (plainFor_of_name own_pn1) hisR ?_
  intro p e s m args below meth c s₁ Bd hml0 hP hK
  obtain ⟨rfl, hZ, hh⟩ := hP
  have hx := Bd.exec
  have hby := Bd.bytes
  have hml : c.maxLocals = 1 := hml0
  have hown : s.vm.findClass "com/example/reckoner/reckoner/OperandStack" = some m.cls := findClass_of_methodNamed Bd.named
  have hnm := (name_of_methodNamed Bd.named Bd.method).1
  have X0 : Stand p l e ({ frames := 4, cells := 1, slots := 3, locals := 57 } : Room) s m #[(.ref a)] below meth c s₁ [] 0 0 := Stand.of_body Bd
  have e0 : s₁.heap = h0 := by rw [← hh, Bd.state]; rfl
  have N0 := Fr.nil n0
  have pre0 : ∀ t, Steps p.tables e below (s₁.setTop (mkF m 0 #[.val (.ref a)] [])) t → Steps p.tables e below (s₁.setTop (entryFrame m #[(.ref a)] 1)) t := fun t k => castTop (own_efpo1n m a) k
  have k1 : ∀ t, Steps p.tables e below (s₁.setTop (mkF m 2 #[.val (.ref a)] [(.ref a), (.ref a)])) t → Steps p.tables e below (s₁.setTop (entryFrame m #[(.ref a)] 1)) t := by
    intro t k
    refine pre0 t ?_
    show Steps p.tables e below (s₁.setTop (mkF m 0 #[.val (.ref a)] [])) _
    refine XS.aloadN X0.here hx rfl (hb hby own_d6_0) rfl rfl ?_
    show Steps p.tables e below (s₁.setTop (mkF m 1 #[.val (.ref a)] [(.ref a)])) _
    refine XS.dup X0.here hx rfl (hb hby own_d6_1) rfl rfl ?_
    exact k
  obtain ⟨T2, X2, e2, st2⟩ := getF X0 hx hZ hown (host := "") (Or.inl (hw _ (List.mem_of_getElem? (i := 40) rfl))) Via.refl e0 P3 (g := (mkF m 2 #[.val (.ref a)] [(.ref a), (.ref a)])) rfl rfl (hb hby own_d6_2)
  have k3 : ∀ t, Steps p.tables e below (T2.setTop (mkF m 5 #[.val (.ref a)] [(.int (1 : Int32)), (.ref a)])) t → Steps p.tables e below (s₁.setTop (entryFrame m #[(.ref a)] 1)) t := fun t k => k1 t (st2 t k)
  have k4 : ∀ t, Steps p.tables e below (T2.setTop (mkF m 7 #[.val (.ref a)] [(.int (0 : Int32)), (.ref a)])) t → Steps p.tables e below (s₁.setTop (entryFrame m #[(.ref a)] 1)) t := by
    intro t k
    refine k3 t ?_
    show Steps p.tables e below (T2.setTop (mkF m 5 #[.val (.ref a)] [(.int (1 : Int32)), (.ref a)])) _
    refine XS.iconst X2.here hx rfl (hb hby own_d6_5) ?_
    show Steps p.tables e below (T2.setTop (mkF m 6 #[.val (.ref a)] [(.int (1 : Int32)), (.int (1 : Int32)), (.ref a)])) _
    refine XS.isub X2.here hx rfl (hb hby own_d6_6) rfl ?_
    exact k
  obtain ⟨T5, h5, X5, e5, W5, st5⟩ := putF X2 hx hZ hown (host := "") (Or.inl (hw _ (List.mem_of_getElem? (i := 40) rfl))) Via.refl e2 P3 P0 (Or.inl (hw _ (List.mem_of_getElem? (i := 41) rfl))) (hw _ (List.mem_of_getElem? (i := 1) rfl)) (ty := .int) (by decide) rfl rfl (g := (mkF m 7 #[.val (.ref a)] [(.int (0 : Int32)), (.ref a)])) rfl rfl (hb hby own_d6_7)
  have f6 := P0.wr W5
  have f7 := P1.other W5 (Or.inr (slot_ne (Or.inr (hw _ (List.mem_of_getElem? (i := 12) rfl))) (Or.inl (hw _ (List.mem_of_getElem? (i := 41) rfl))) (by decide) (t := (.array (.object "com/example/reckoner/reckoner/Value"))) (t' := .int) (by decide) (by decide)))
  have f8 := P2.other W5 (Or.inr (slot_ne (Or.inr (hw _ (List.mem_of_getElem? (i := 15) rfl))) (Or.inl (hw _ (List.mem_of_getElem? (i := 41) rfl))) (by decide) (t := (.array .double)) (t' := .int) (by decide) (by decide)))
  have f9 := P4.other W5 (Ne.symm ne_a_vs)
  have f10 := P6.other W5 (Ne.symm ne_a_rs)
  have f11 := P3.same W5
  have N5 := Fr.snoc X5 N0 ge_a
  have K5 : Keep h0 h5 [a] := (Keep.refl h0 [a]).wr W5 (Or.inl (List.mem_of_getElem? (i := 0) rfl))
  have Z5 : n0 ≤ h5.size := Nat.le_trans Z0 (Keep.of_wr W5).1
  have Xo5 := Xo.wr W5 ge_a
  have k12 : ∀ t, Steps p.tables e below (T5.setTop (mkF m 10 #[.val (.ref a)] [])) t → Steps p.tables e below (s₁.setTop (entryFrame m #[(.ref a)] 1)) t := fun t k => k4 t (st5 t k)
  have k13 : ∀ t, Steps p.tables e below (T5.setTop (mkF m 12 #[.val (.ref a)] [(.ref a), (.ref a)])) t → Steps p.tables e below (s₁.setTop (entryFrame m #[(.ref a)] 1)) t := by
    intro t k
    refine k12 t ?_
    show Steps p.tables e below (T5.setTop (mkF m 10 #[.val (.ref a)] [])) _
    refine XS.aloadN X5.here hx rfl (hb hby own_d6_10) rfl rfl ?_
    show Steps p.tables e below (T5.setTop (mkF m 11 #[.val (.ref a)] [(.ref a)])) _
    refine XS.aloadN X5.here hx rfl (hb hby own_d6_11) rfl rfl ?_
    exact k
  obtain ⟨T14, X14, e14, st14⟩ := getF X5 hx hZ hown (host := "") (Or.inl (hw _ (List.mem_of_getElem? (i := 40) rfl))) Via.refl e5 f11 (g := (mkF m 12 #[.val (.ref a)] [(.ref a), (.ref a)])) rfl rfl (hb hby own_d6_12)
  have k15 : ∀ t, Steps p.tables e below (T14.setTop (mkF m 15 #[.val (.ref a)] [(.int (0 : Int32)), (.ref a)])) t → Steps p.tables e below (s₁.setTop (entryFrame m #[(.ref a)] 1)) t := fun t k => k13 t (st14 t k)
  obtain ⟨cq16, qa16x, qb16x⟩ := f6.cell
  obtain ⟨_, _, ⟨T16, L16, k16c, n16⟩, -, X16, ⟨Lc16, hQ16, l16, y16, z16⟩, st16⟩ := X14.privateBack hx (y := (⟨"com/example/reckoner/reckoner/OperandStack", "valueAt", "(I)Lcom/example/reckoner/reckoner/Value;"⟩ : MethodName)) hown (mvT hZ (hw _ (List.mem_of_getElem? (i := 48) rfl))) (mvT hZ (hw _ (List.mem_of_getElem? (i := 49) rfl))) (Jvm.Kit.selects_private (by decide) (mvT hZ (hw _ (List.mem_of_getElem? (i := 1) rfl))) (mvP hZ (hw _ (List.mem_of_getElem? (i := 50) rfl))) (mvT hZ (hw _ (List.mem_of_getElem? (i := 49) rfl)))) (Cond.privateMethod_at (mvP hZ (hw _ (List.mem_of_getElem? (i := 50) rfl)) (args := #[]))) (mvT hZ (hw _ (List.mem_of_getElem? (i := 51) rfl))) (by decide) (backOf (W := 0) (own_rmva0n0 l Z a0 hw [] a vs rs cv cr el1 el2 d0 d1 d2 sR h5 n0 Z5 f6 f7 f8 f11 f9 P5 f10 ge_a ge_vs ge_rs ne_a_vs ne_a_rs ne_vs_rs Xo5 SR) hZ (hw _ (List.mem_of_getElem? (i := 51) rfl)) (hw _ (List.mem_of_getElem? (i := 2) rfl)) (by decide) (by decide)) (g := (mkF m 15 #[.val (.ref a)] [(.int (0 : Int32)), (.ref a)])) rfl (by rw [hml]; rfl) (Steps.refl _) (a := a) (by rw [e14]; exact qa16x) qb16x (argsL := [(.int (0 : Int32))]) (rest := []) (lenOf own_pd2 rfl) rfl (by show 2 * 0 + _ ≤ _; exact Nat.le_of_eq rfl) (hb hby own_d6_15) (fun _ _ => ⟨rfl, e14, (by decide : 0 + 1 ≤ _), (by decide : 0 + 3 ≤ _)⟩)
  dsimp only [Pt.U, Pt.locs, Pt.cells, Pt.slots] at X16 l16 y16 z16 st16 hQ16
  subst l16 y16 z16
  obtain ⟨rrb1_14_16, rfl, N16q, Kq16, gz16_rb1_14, fq16_0, fq16_1, fq16_2, fq16_3, fq16_4, fq16_5, fq16_6, fq16_7, fq16_8, fq16_9, fq16_10⟩ := hQ16
  have N16 := Fr.app N5 N16q
  have ge16_rb1_14 : n0 ≤ rrb1_14_16 := Nat.le_trans Z5 gz16_rb1_14
  have bo16_rb1_14 : h0.size ≤ rrb1_14_16 := Nat.le_trans K5.1 gz16_rb1_14
  have ne17 : a ≠ rrb1_14_16 := Nat.ne_of_lt (Nat.lt_of_lt_of_le f6.lt gz16_rb1_14)
  have ne18 : rs ≠ rrb1_14_16 := Nat.ne_of_lt (Nat.lt_of_lt_of_le f10.lt gz16_rb1_14)
  have ne19 : vs ≠ rrb1_14_16 := Nat.ne_of_lt (Nat.lt_of_lt_of_le f9.lt gz16_rb1_14)
  have Z16 : n0 ≤ T16.heap.size := Nat.le_trans Z5 Kq16.1
  have K16 : Keep h0 T16.heap [a] := K5.trans Kq16 (fun x hx => nomatch hx)
  have Xo16 := Xo5.keep Kq16 all0
  have k20 : ∀ t, Steps p.tables e below (T16.setTop (mkF m 18 #[.val (.ref a)] [(.ref rrb1_14_16)])) t → Steps p.tables e below (s₁.setTop (entryFrame m #[(.ref a)] 1)) t := fun t k => k15 t (st16.trans k)
  obtain ⟨fs, hr, hrun, hended, hW, hsame⟩ := X16.leave (v := (some (.ref rrb1_14_16))) (fun h => by rw [Bd.returns] at h; cases h)
  refine ⟨_, _, k20 _ ?_, hrun, hended, _, _, rfl, ?_, ⟨_, rfl⟩, hW, hsame.mono (by decide) (by decide)⟩
  · exact retOut X16 hx Bd.returns rfl (Or.inr (Or.inr (Or.inr (Or.inr ⟨rfl, rfl, rfl⟩)))) (hb hby own_d6_18) hr
  · show own_Qpo1n Z a vs rs cv cr el1 el2 d0 d1 d2 sR h0 n0 _ T16.heap _
    exact ⟨rrb1_14_16, rfl, N16, K16, bo16_rb1_14, fq16_0, fq16_1, fq16_2, fq16_3, fq16_4, fq16_5, fq16_6, fq16_7, fq16_8, fq16_9, fq16_10⟩
theorem own_d11_0 : decode prog_48_method_6_code 0 = .ok (.aload_n 0, 1) := by decide +kernel
theorem own_d11_1 : decode prog_48_method_6_code 1 = .ok (.aload_n 0, 1) := by decide +kernel
theorem own_d11_2 : decode prog_48_method_6_code 2 = .ok (.getfield 19, 3) := by decide +kernel
theorem own_d11_5 : decode prog_48_method_6_code 5 = .ok (.iconst 1, 1) := by decide +kernel
theorem own_d11_6 : decode prog_48_method_6_code 6 = .ok (.isub, 1) := by decide +kernel
theorem own_d11_7 : decode prog_48_method_6_code 7 = .ok (.invokevirtual 23, 3) := by decide +kernel
theorem own_d11_10 : decode prog_48_method_6_code 10 = .ok (.areturn, 1) := by decide +kernel
theorem own_efpk1 (m : MethodId) (x0 : Addr) : entryFrame m #[(.ref x0)] 1 = mkF m 0 #[.val (.ref x0)] [] := by first | (simp [entryFrame, mkF, argsToLocals, Value.category]; done) | rfl
def own_Qpk1 (Z : State) (a : Addr) (vs : Addr) (rs : Addr) (cv : ClassId) (cr : ClassId) (el1 : Value) (el2 : Value) (d0 : UInt64) (d1 : UInt64) (d2 : UInt64)  (sR : Addr) (h0 : Heap) (n0 : Nat) (v : Option Value) (h : Heap) (L : List Loc) : Prop := ∃ rrb1_14_5, v = some (.ref rrb1_14_5) ∧ Fr n0 L ∧ Keep h0 h [] ∧ h0.size ≤ rrb1_14_5 ∧ Exa Z h a "com/example/reckoner/reckoner/OperandStack" ∧ Fld Z h a "com/example/reckoner/reckoner/OperandStack" "values" "[Lcom/example/reckoner/reckoner/Value;" (.ref vs) ∧ Fld Z h a "com/example/reckoner/reckoner/OperandStack" "reals" "[D" (.ref rs) ∧ Fld Z h a "com/example/reckoner/reckoner/OperandStack" "height" "I" (.int (1 : Int32)) ∧ Arv Z h vs cv (.object "com/example/reckoner/reckoner/Value") (3 : Int32) [.null, el1, el2] .null ∧ Ovr Z cv "com/example/reckoner/reckoner/Value" ∧ Arv Z h rs cr .double (3 : Int32) [(.double d0), (.double d1), (.double d2)] (.double (0 : UInt64)) ∧ Exa Z h rrb1_14_5 "com/example/reckoner/reckoner/Value" ∧ Fld Z h rrb1_14_5 "com/example/reckoner/reckoner/Value" "type" "Lcom/example/reckoner/reckoner/Value$Type;" (.ref sR) ∧ Fld Z h rrb1_14_5 "com/example/reckoner/reckoner/Value" "integerValue" "J" (.long (0 : Int64)) ∧ Fld Z h rrb1_14_5 "com/example/reckoner/reckoner/Value" "realValue" "D" (.double d0)
set_option maxRecDepth 65536 in
set_option maxHeartbeats 40000000 in
theorem own_rmpk1 (l : Launch) (Z : State) (a0 : Array Value) (hw : ∀ d ∈ tables_1, d.before a0 Z = true) (ws : List Jvm.Cond) (a : Addr) (vs : Addr) (rs : Addr) (cv : ClassId) (cr : ClassId) (el1 : Value) (el2 : Value) (d0 : UInt64) (d1 : UInt64) (d2 : UInt64)  (sR : Addr) (h0 : Heap) (n0 : Nat) (Z0 : n0 ≤ h0.size) (P0 : Exa Z h0 a "com/example/reckoner/reckoner/OperandStack") (P1 : Fld Z h0 a "com/example/reckoner/reckoner/OperandStack" "values" "[Lcom/example/reckoner/reckoner/Value;" (.ref vs)) (P2 : Fld Z h0 a "com/example/reckoner/reckoner/OperandStack" "reals" "[D" (.ref rs)) (P3 : Fld Z h0 a "com/example/reckoner/reckoner/OperandStack" "height" "I" (.int (1 : Int32))) (P4 : Arv Z h0 vs cv (.object "com/example/reckoner/reckoner/Value") (3 : Int32) [.null, el1, el2] .null) (P5 : Ovr Z cv "com/example/reckoner/reckoner/Value") (P6 : Arv Z h0 rs cr .double (3 : Int32) [(.double d0), (.double d1), (.double d2)] (.double (0 : UInt64))) (ge_a : n0 ≤ a) (ge_vs : n0 ≤ vs) (ge_rs : n0 ≤ rs) (ne_a_vs : a ≠ vs) (ne_a_rs : a ≠ rs) (ne_vs_rs : vs ≠ rs) (Xo : Old Z n0 h0) (SR : Sta Z Z.heap "com/example/reckoner/reckoner/Value$Type" "REAL" "Lcom/example/reckoner/reckoner/Value$Type;" (.ref sR)) :
    MetFree l (⟨"com/example/reckoner/reckoner/OperandStack", "peek", "()Lcom/example/reckoner/reckoner/Value;"⟩ : MethodName) (head1 (Jvm.Cond.code (⟨"com/example/reckoner/reckoner/OperandStack", "peek", "()Lcom/example/reckoner/reckoner/Value;"⟩ : MethodName) prog_48_method_6_code 1 (some (.object "com/example/reckoner/reckoner/Value")) :: ws) ({ frames := 4, cells := 1, slots := 3, locals := 57 } : Room)) (fun aa U => aa = #[(.ref a)] ∧ Z.Warmed39 U.vm ∧ U.heap = h0) (fun _ _ _ _ _ => True) (fun _ U o U' => ∃ v L, o = .returned v ∧ own_Qpk1 Z a vs rs cv cr el1 el2 d0 d1 d2 sR h0 n0 v U'.heap L ∧ FrameEnd U o U' L ({ frames := 4, cells := 1, slots := 3, locals := 57 } : Room).cells ({ frames := 4, cells := 1, slots := 3, locals := 57 } : Room).slots) := by
  refine MetFree.of_bodySF (plainFor_of_name own_pn1) hisR ?_
  intro p e s m args below meth c s₁ Bd hml0 hP hK
  obtain ⟨rfl, hZ, hh⟩ := hP
  have hx := Bd.exec
  have hby := Bd.bytes
  have hml : c.maxLocals = 1 := hml0
  have hown : s.vm.findClass "com/example/reckoner/reckoner/OperandStack" = some m.cls := findClass_of_methodNamed Bd.named
  have hnm := (name_of_methodNamed Bd.named Bd.method).1
  have X0 : Stand p l e ({ frames := 4, cells := 1, slots := 3, locals := 57 } : Room) s m #[(.ref a)] below meth c s₁ [] 0 0 := Stand.of_body Bd
  have e0 : s₁.heap = h0 := by rw [← hh, Bd.state]; rfl
  have N0 := Fr.nil n0
  have pre0 : ∀ t, Steps p.tables e below (s₁.setTop (mkF m 0 #[.val (.ref a)] [])) t → Steps p.tables e below (s₁.setTop (entryFrame m #[(.ref a)] 1)) t := fun t k => castTop (own_efpk1 m a) k
  have k1 : ∀ t, Steps p.tables e below (s₁.setTop (mkF m 2 #[.val (.ref a)] [(.ref a), (.ref a)])) t → Steps p.tables e below (s₁.setTop (entryFrame m #[(.ref a)] 1)) t := by
    intro t k
    refine pre0 t ?_
    show Steps p.tables e below (s₁.setTop (mkF m 0 #[.val (.ref a)] [])) _
    refine XS.aloadN X0.here hx rfl (hb hby own_d11_0) rfl rfl ?_
    show Steps p.tables e below (s₁.setTop (mkF m 1 #[.val (.ref a)] [(.ref a)])) _
    refine XS.aloadN X0.here hx rfl (hb hby own_d11_1) rfl rfl ?_
    exact k
  obtain ⟨T2, X2, e2, st2⟩ := getF X0 hx hZ hown (host := "") (Or.inl (hw _ (List.mem_of_getElem? (i := 40) rfl))) Via.refl e0 P3 (g := (mkF m 2 #[.val (.ref a)] [(.ref a), (.ref a)])) rfl rfl (hb hby own_d11_2)
  have k3 : ∀ t, Steps p.tables e below (T2.setTop (mkF m 5 #[.val (.ref a)] [(.int (1 : Int32)), (.ref a)])) t → Steps p.tables e below (s₁.setTop (entryFrame m #[(.ref a)] 1)) t := fun t k => k1 t (st2 t k)
  have k4 : ∀ t, Steps p.tables e below (T2.setTop (mkF m 7 #[.val (.ref a)] [(.int (0 : Int32)), (.ref a)])) t → Steps p.tables e below (s₁.setTop (entryFrame m #[(.ref a)] 1)) t := by
    intro t k
    refine k3 t ?_
    show Steps p.tables e below (T2.setTop (mkF m 5 #[.val (.ref a)] [(.int (1 : Int32)), (.ref a)])) _
    refine XS.iconst X2.here hx rfl (hb hby own_d11_5) ?_
    show Steps p.tables e below (T2.setTop (mkF m 6 #[.val (.ref a)] [(.int (1 : Int32)), (.int (1 : Int32)), (.ref a)])) _
    refine XS.isub X2.here hx rfl (hb hby own_d11_6) rfl ?_
    exact k
  obtain ⟨cq5, qa5x, qb5x⟩ := P0.cell
  obtain ⟨_, _, ⟨T5, L5, k5c, n5⟩, -, X5, ⟨Lc5, hQ5, l5, y5, z5⟩, st5⟩ := X2.privateBack hx (y := (⟨"com/example/reckoner/reckoner/OperandStack", "valueAt", "(I)Lcom/example/reckoner/reckoner/Value;"⟩ : MethodName)) hown (mvT hZ (hw _ (List.mem_of_getElem? (i := 48) rfl))) (mvT hZ (hw _ (List.mem_of_getElem? (i := 49) rfl))) (Jvm.Kit.selects_private (by decide) (mvT hZ (hw _ (List.mem_of_getElem? (i := 1) rfl))) (mvP hZ (hw _ (List.mem_of_getElem? (i := 50) rfl))) (mvT hZ (hw _ (List.mem_of_getElem? (i := 49) rfl)))) (Cond.privateMethod_at (mvP hZ (hw _ (List.mem_of_getElem? (i := 50) rfl)) (args := #[]))) (mvT hZ (hw _ (List.mem_of_getElem? (i := 51) rfl))) (by decide) (backOf (W := 0) (own_rmva0n1 l Z a0 hw [] a vs rs cv cr el1 el2 d0 d1 d2 sR h0 n0 Z0 P0 P1 P2 P3 P4 P5 P6 ge_a ge_vs ge_rs ne_a_vs ne_a_rs ne_vs_rs Xo SR) hZ (hw _ (List.mem_of_getElem? (i := 51) rfl)) (hw _ (List.mem_of_getElem? (i := 2) rfl)) (by decide) (by decide)) (g := (mkF m 7 #[.val (.ref a)] [(.int (0 : Int32)), (.ref a)])) rfl (by rw [hml]; rfl) (Steps.refl _) (a := a) (by rw [e2]; exact qa5x) qb5x (argsL := [(.int (0 : Int32))]) (rest := []) (lenOf own_pd2 rfl) rfl (by show 2 * 0 + _ ≤ _; exact Nat.le_of_eq rfl) (hb hby own_d11_7) (fun _ _ => ⟨rfl, e2, (by decide : 0 + 1 ≤ _), (by decide : 0 + 3 ≤ _)⟩)
  dsimp only [Pt.U, Pt.locs, Pt.cells, Pt.slots] at X5 l5 y5 z5 st5 hQ5
  subst l5 y5 z5
  obtain ⟨rrb1_14_5, rfl, N5q, Kq5, gz5_rb1_14, fq5_0, fq5_1, fq5_2, fq5_3, fq5_4, fq5_5, fq5_6, fq5_7, fq5_8, fq5_9, fq5_10⟩ := hQ5
  have N5 := Fr.app N0 N5q
  have ge5_rb1_14 : n0 ≤ rrb1_14_5 := Nat.le_trans Z0 gz5_rb1_14
  have bo5_rb1_14 : h0.size ≤ rrb1_14_5 := Nat.le_trans (Keep.refl h0 []).1 gz5_rb1_14
  have ne6 : a ≠ rrb1_14_5 := Nat.ne_of_lt (Nat.lt_of_lt_of_le P0.lt gz5_rb1_14)
  have ne7 : rs ≠ rrb1_14_5 := Nat.ne_of_lt (Nat.lt_of_lt_of_le P6.lt gz5_rb1_14)
  have ne8 : vs ≠ rrb1_14_5 := Nat.ne_of_lt (Nat.lt_of_lt_of_le P4.lt gz5_rb1_14)
  have Z5 : n0 ≤ T5.heap.size := Nat.le_trans Z0 Kq5.1
  have K5 : Keep h0 T5.heap [] := (Keep.refl h0 []).trans Kq5 (fun x hx => nomatch hx)
  have Xo5 := Xo.keep Kq5 all0
  have k9 : ∀ t, Steps p.tables e below (T5.setTop (mkF m 10 #[.val (.ref a)] [(.ref rrb1_14_5)])) t → Steps p.tables e below (s₁.setTop (entryFrame m #[(.ref a)] 1)) t := fun t k => k4 t (st5.trans k)
  obtain ⟨fs, hr, hrun, hended, hW, hsame⟩ := X5.leave (v := (some (.ref rrb1_14_5))) (fun h => by rw [Bd.returns] at h; cases h)
  refine ⟨_, _, k9 _ ?_, hrun, hended, _, _, rfl, ?_, ⟨_, rfl⟩, hW, hsame.mono (by decide) (by decide)⟩
  · exact retOut X5 hx Bd.returns rfl (Or.inr (Or.inr (Or.inr (Or.inr ⟨rfl, rfl, rfl⟩)))) (hb hby own_d11_10) hr
  · show own_Qpk1 Z a vs rs cv cr el1 el2 d0 d1 d2 sR h0 n0 _ T5.heap _
    exact ⟨rrb1_14_5, rfl, N5, K5, bo5_rb1_14, fq5_0, fq5_1, fq5_2, fq5_3, fq5_4, fq5_5, fq5_6, fq5_7, fq5_8, fq5_9, fq5_10⟩
theorem own_d15_0 : decode prog_48_method_5_code 0 = .ok (.aload_n 0, 1) := by decide +kernel
theorem own_d15_1 : decode prog_48_method_5_code 1 = .ok (.dup, 1) := by decide +kernel
theorem own_d15_2 : decode prog_48_method_5_code 2 = .ok (.getfield 19, 3) := by decide +kernel
theorem own_d15_5 : decode prog_48_method_5_code 5 = .ok (.iconst 1, 1) := by decide +kernel
theorem own_d15_6 : decode prog_48_method_5_code 6 = .ok (.isub, 1) := by decide +kernel
theorem own_d15_7 : decode prog_48_method_5_code 7 = .ok (.putfield 19, 3) := by decide +kernel
theorem own_d15_10 : decode prog_48_method_5_code 10 = .ok (.aload_n 0, 1) := by decide +kernel
theorem own_d15_11 : decode prog_48_method_5_code 11 = .ok (.getfield 9, 3) := by decide +kernel
theorem own_d15_14 : decode prog_48_method_5_code 14 = .ok (.aload_n 0, 1) := by decide +kernel
theorem own_d15_15 : decode prog_48_method_5_code 15 = .ok (.getfield 19, 3) := by decide +kernel
theorem own_d15_18 : decode prog_48_method_5_code 18 = .ok (.aaload, 1) := by decide +kernel
theorem own_d15_19 : decode prog_48_method_5_code 19 = .ok (.astore_n 1, 1) := by decide +kernel
theorem own_d15_20 : decode prog_48_method_5_code 20 = .ok (.aload_n 1, 1) := by decide +kernel
theorem own_d15_21 : decode prog_48_method_5_code 21 = .ok (.ifnull 10, 3) := by decide +kernel
theorem own_d15_31 : decode prog_48_method_5_code 31 = .ok (.aload_n 0, 1) := by decide +kernel
theorem own_d15_32 : decode prog_48_method_5_code 32 = .ok (.getfield 15, 3) := by decide +kernel
theorem own_d15_35 : decode prog_48_method_5_code 35 = .ok (.aload_n 0, 1) := by decide +kernel
theorem own_d15_36 : decode prog_48_method_5_code 36 = .ok (.getfield 19, 3) := by decide +kernel
theorem own_d15_39 : decode prog_48_method_5_code 39 = .ok (.daload, 1) := by decide +kernel
theorem own_d15_40 : decode prog_48_method_5_code 40 = .ok (.dreturn, 1) := by decide +kernel
theorem own_efpd1 (m : MethodId) (x0 : Addr) : entryFrame m #[(.ref x0)] 2 = mkF m 0 #[.val (.ref x0), .unset] [] := by first | (simp [entryFrame, mkF, argsToLocals, Value.category]; done) | rfl
def own_Qpd1 (Z : State) (a : Addr) (vs : Addr) (rs : Addr) (cv : ClassId) (cr : ClassId) (el1 : Value) (el2 : Value) (d0 : UInt64) (d1 : UInt64) (d2 : UInt64) (h0 : Heap) (n0 : Nat) (v : Option Value) (h : Heap) (L : List Loc) : Prop := v = some (.double d0) ∧ Fr n0 L ∧ Keep h0 h [a] ∧ Exa Z h a "com/example/reckoner/reckoner/OperandStack" ∧ Fld Z h a "com/example/reckoner/reckoner/OperandStack" "values" "[Lcom/example/reckoner/reckoner/Value;" (.ref vs) ∧ Fld Z h a "com/example/reckoner/reckoner/OperandStack" "reals" "[D" (.ref rs) ∧ Fld Z h a "com/example/reckoner/reckoner/OperandStack" "height" "I" (.int (0 : Int32)) ∧ Arv Z h vs cv (.object "com/example/reckoner/reckoner/Value") (3 : Int32) [.null, el1, el2] .null ∧ Ovr Z cv "com/example/reckoner/reckoner/Value" ∧ Arv Z h rs cr .double (3 : Int32) [(.double d0), (.double d1), (.double d2)] (.double (0 : UInt64))
set_option maxRecDepth 65536 in
set_option maxHeartbeats 40000000 in
theorem own_rmpd1 (l : Launch) (Z : State) (a0 : Array Value) (hw : ∀ d ∈ tables_1, d.before a0 Z = true) (ws : List Jvm.Cond) (a : Addr) (vs : Addr) (rs : Addr) (cv : ClassId) (cr : ClassId) (el1 : Value) (el2 : Value) (d0 : UInt64) (d1 : UInt64) (d2 : UInt64) (h0 : Heap) (n0 : Nat) (Z0 : n0 ≤ h0.size) (P0 : Exa Z h0 a "com/example/reckoner/reckoner/OperandStack") (P1 : Fld Z h0 a "com/example/reckoner/reckoner/OperandStack" "values" "[Lcom/example/reckoner/reckoner/Value;" (.ref vs)) (P2 : Fld Z h0 a "com/example/reckoner/reckoner/OperandStack" "reals" "[D" (.ref rs)) (P3 : Fld Z h0 a "com/example/reckoner/reckoner/OperandStack" "height" "I" (.int (1 : Int32))) (P4 : Arv Z h0 vs cv (.object "com/example/reckoner/reckoner/Value") (3 : Int32) [.null, el1, el2] .null) (P5 : Ovr Z cv "com/example/reckoner/reckoner/Value") (P6 : Arv Z h0 rs cr .double (3 : Int32) [(.double d0), (.double d1), (.double d2)] (.double (0 : UInt64))) (ge_a : n0 ≤ a) (ge_vs : n0 ≤ vs) (ge_rs : n0 ≤ rs) (ne_a_vs : a ≠ vs) (ne_a_rs : a ≠ rs) (ne_vs_rs : vs ≠ rs) :
    MetFree l (⟨"com/example/reckoner/reckoner/OperandStack", "popDouble", "()D"⟩ : MethodName) (head1 (Jvm.Cond.code (⟨"com/example/reckoner/reckoner/OperandStack", "popDouble", "()D"⟩ : MethodName) prog_48_method_5_code 2 (some .double) :: ws) ({ frames := 0, cells := 0, slots := 0, locals := 0 } : Room)) (fun aa U => aa = #[(.ref a)] ∧ Z.Warmed39 U.vm ∧ U.heap = h0) (fun _ _ _ _ _ => True) (fun _ U o U' => ∃ v L, o = .returned v ∧ own_Qpd1 Z a vs rs cv cr el1 el2 d0 d1 d2 h0 n0 v U'.heap L ∧ FrameEnd U o U' L ({ frames := 0, cells := 0, slots := 0, locals := 0 } : Room).cells ({ frames := 0, cells := 0, slots := 0, locals := 0 } : Room).slots) := by
  refine MetFree.of_bodySF (plainFor_of_name own_pn1) hisR ?_
  intro p e s m args below meth c s₁ Bd hml0 hP hK
  obtain ⟨rfl, hZ, hh⟩ := hP
  have hx := Bd.exec
  have hby := Bd.bytes
  have hml : c.maxLocals = 2 := hml0
  have hown : s.vm.findClass "com/example/reckoner/reckoner/OperandStack" = some m.cls := findClass_of_methodNamed Bd.named
  have hnm := (name_of_methodNamed Bd.named Bd.method).1
  have X0 : Stand p l e ({ frames := 0, cells := 0, slots := 0, locals := 0 } : Room) s m #[(.ref a)] below meth c s₁ [] 0 0 := Stand.of_body Bd
  have e0 : s₁.heap = h0 := by rw [← hh, Bd.state]; rfl
  have N0 := Fr.nil n0
  have pre0 : ∀ t, Steps p.tables e below (s₁.setTop (mkF m 0 #[.val (.ref a), .unset] [])) t → Steps p.tables e below (s₁.setTop (entryFrame m #[(.ref a)] 2)) t := fun t k => castTop (own_efpd1 m a) k
  have k1 : ∀ t, Steps p.tables e below (s₁.setTop (mkF m 2 #[.val (.ref a), .unset] [(.ref a), (.ref a)])) t → Steps p.tables e below (s₁.setTop (entryFrame m #[(.ref a)] 2)) t := by
    intro t k
    refine pre0 t ?_
    show Steps p.tables e below (s₁.setTop (mkF m 0 #[.val (.ref a), .unset] [])) _
    refine XS.aloadN X0.here hx rfl (hb hby own_d15_0) rfl rfl ?_
    show Steps p.tables e below (s₁.setTop (mkF m 1 #[.val (.ref a), .unset] [(.ref a)])) _
    refine XS.dup X0.here hx rfl (hb hby own_d15_1) rfl rfl ?_
    exact k
  obtain ⟨T2, X2, e2, st2⟩ := getF X0 hx hZ hown (host := "") (Or.inl (hw _ (List.mem_of_getElem? (i := 40) rfl))) Via.refl e0 P3 (g := (mkF m 2 #[.val (.ref a), .unset] [(.ref a), (.ref a)])) rfl rfl (hb hby own_d15_2)
  have k3 : ∀ t, Steps p.tables e below (T2.setTop (mkF m 5 #[.val (.ref a), .unset] [(.int (1 : Int32)), (.ref a)])) t → Steps p.tables e below (s₁.setTop (entryFrame m #[(.ref a)] 2)) t := fun t k => k1 t (st2 t k)
  have k4 : ∀ t, Steps p.tables e below (T2.setTop (mkF m 7 #[.val (.ref a), .unset] [(.int (0 : Int32)), (.ref a)])) t → Steps p.tables e below (s₁.setTop (entryFrame m #[(.ref a)] 2)) t := by
    intro t k
    refine k3 t ?_
    show Steps p.tables e below (T2.setTop (mkF m 5 #[.val (.ref a), .unset] [(.int (1 : Int32)), (.ref a)])) _
    refine XS.iconst X2.here hx rfl (hb hby own_d15_5) ?_
    show Steps p.tables e below (T2.setTop (mkF m 6 #[.val (.ref a), .unset] [(.int (1 : Int32)), (.int (1 : Int32)), (.ref a)])) _
    refine XS.isub X2.here hx rfl (hb hby own_d15_6) rfl ?_
    exact k
  obtain ⟨T5, h5, X5, e5, W5, st5⟩ := putF X2 hx hZ hown (host := "") (Or.inl (hw _ (List.mem_of_getElem? (i := 40) rfl))) Via.refl e2 P3 P0 (Or.inl (hw _ (List.mem_of_getElem? (i := 41) rfl))) (hw _ (List.mem_of_getElem? (i := 1) rfl)) (ty := .int) (by decide) rfl rfl (g := (mkF m 7 #[.val (.ref a), .unset] [(.int (0 : Int32)), (.ref a)])) rfl rfl (hb hby own_d15_7)
  have f6 := P0.wr W5
  have f7 := P1.other W5 (Or.inr (slot_ne (Or.inr (hw _ (List.mem_of_getElem? (i := 12) rfl))) (Or.inl (hw _ (List.mem_of_getElem? (i := 41) rfl))) (by decide) (t := (.array (.object "com/example/reckoner/reckoner/Value"))) (t' := .int) (by decide) (by decide)))
  have f8 := P2.other W5 (Or.inr (slot_ne (Or.inr (hw _ (List.mem_of_getElem? (i := 15) rfl))) (Or.inl (hw _ (List.mem_of_getElem? (i := 41) rfl))) (by decide) (t := (.array .double)) (t' := .int) (by decide) (by decide)))
  have f9 := P4.other W5 (Ne.symm ne_a_vs)
  have f10 := P6.other W5 (Ne.symm ne_a_rs)
  have f11 := P3.same W5
  have N5 := Fr.snoc X5 N0 ge_a
  have K5 : Keep h0 h5 [a] := (Keep.refl h0 [a]).wr W5 (Or.inl (List.mem_of_getElem? (i := 0) rfl))
  have Z5 : n0 ≤ h5.size := Nat.le_trans Z0 (Keep.of_wr W5).1
  have k12 : ∀ t, Steps p.tables e below (T5.setTop (mkF m 10 #[.val (.ref a), .unset] [])) t → Steps p.tables e below (s₁.setTop (entryFrame m #[(.ref a)] 2)) t := fun t k => k4 t (st5 t k)
  have k13 : ∀ t, Steps p.tables e below (T5.setTop (mkF m 11 #[.val (.ref a), .unset] [(.ref a)])) t → Steps p.tables e below (s₁.setTop (entryFrame m #[(.ref a)] 2)) t := by
    intro t k
    refine k12 t ?_
    show Steps p.tables e below (T5.setTop (mkF m 10 #[.val (.ref a), .unset] [])) _
    refine XS.aloadN X5.here hx rfl (hb hby own_d15_10) rfl rfl ?_
    exact k
  obtain ⟨T14, X14, e14, st14⟩ := getF X5 hx hZ hown (host := "") (Or.inl (hw _ (List.mem_of_getElem? (i := 11) rfl))) Via.refl e5 f7 (g := (mkF m 11 #[.val (.ref a), .unset] [(.ref a)])) rfl rfl (hb hby own_d15_11)
  have k15 : ∀ t, Steps p.tables e below (T14.setTop (mkF m 14 #[.val (.ref a), .unset] [(.ref vs)])) t → Steps p.tables e below (s₁.setTop (entryFrame m #[(.ref a)] 2)) t := fun t k => k13 t (st14 t k)
  have k16 : ∀ t, Steps p.tables e below (T14.setTop (mkF m 15 #[.val (.ref a), .unset] [(.ref a), (.ref vs)])) t → Steps p.tables e below (s₁.setTop (entryFrame m #[(.ref a)] 2)) t := by
    intro t k
    refine k15 t ?_
    show Steps p.tables e below (T14.setTop (mkF m 14 #[.val (.ref a), .unset] [(.ref vs)])) _
    refine XS.aloadN X14.here hx rfl (hb hby own_d15_14) rfl rfl ?_
    exact k
  obtain ⟨T17, X17, e17, st17⟩ := getF X14 hx hZ hown (host := "") (Or.inl (hw _ (List.mem_of_getElem? (i := 40) rfl))) Via.refl e14 f11 (g := (mkF m 15 #[.val (.ref a), .unset] [(.ref a), (.ref vs)])) rfl rfl (hb hby own_d15_15)
  have k18 : ∀ t, Steps p.tables e below (T17.setTop (mkF m 18 #[.val (.ref a), .unset] [(.int (0 : Int32)), (.ref vs)])) t → Steps p.tables e below (s₁.setTop (entryFrame m #[(.ref a)] 2)) t := fun t k => k16 t (st17 t k)
  obtain ⟨cl19, Ar19, qa19, Sa19, Na19, Ha19, Ga19⟩ := id f9
  have hin20 : ¬ ((0 : Int32) < 0 ∨ cl19.slots.size ≤ ((0 : Int32)).toNatClampNeg) := inb_of Sa19 ⟨by decide, by decide⟩
  have hat21 : cl19.slots[((0 : Int32)).toNatClampNeg]? = some .null := Ha19 0 (Nat.lt_of_not_le fun q => hin20 (Or.inr q))
  have k22 : ∀ t, Steps p.tables e below (T17.setTop (mkF m 32 #[.val (.ref a), .val .null] [(.ref a)])) t → Steps p.tables e below (s₁.setTop (entryFrame m #[(.ref a)] 2)) t := by
    intro t k
    refine k18 t ?_
    show Steps p.tables e below (T17.setTop (mkF m 18 #[.val (.ref a), .unset] [(.int (0 : Int32)), (.ref vs)])) _
    refine X17.aaload hx (j := (0 : Int32)) (v := .null) (by rw [e17]; exact Ar19.1) (State.isArrayOf_alike hZ.alike Ar19.2.1) rfl Ar19.2.2 hin20 hat21 (g := (mkF m 18 #[.val (.ref a), .unset] [(.int (0 : Int32)), (.ref vs)])) rfl rfl (hb hby own_d15_18) _ ?_
    show Steps p.tables e below (T17.setTop (mkF m 19 #[.val (.ref a), .unset] [.null])) _
    refine XS.astoreN X17.here hx rfl (hb hby own_d15_19) rfl rfl (l' := #[.val (.ref a), .val .null]) rfl ?_
    show Steps p.tables e below (T17.setTop (mkF m 20 #[.val (.ref a), .val .null] [])) _
    refine XS.aloadN X17.here hx rfl (hb hby own_d15_20) rfl rfl ?_
    show Steps p.tables e below (T17.setTop (mkF m 21 #[.val (.ref a), .val .null] [.null])) _
    refine XS.ifnullYes X17.here hx rfl (pc0 := 21) (pc' := 31) rfl (hb hby own_d15_21) rfl (by decide) (by decide) ?_
    show Steps p.tables e below (T17.setTop (mkF m 31 #[.val (.ref a), .val .null] [])) _
    refine XS.aloadN X17.here hx rfl (hb hby own_d15_31) rfl rfl ?_
    exact k
  obtain ⟨T23, X23, e23, st23⟩ := getF X17 hx hZ hown (host := "") (Or.inl (hw _ (List.mem_of_getElem? (i := 14) rfl))) Via.refl e17 f8 (g := (mkF m 32 #[.val (.ref a), .val .null] [(.ref a)])) rfl rfl (hb hby own_d15_32)
  have k24 : ∀ t, Steps p.tables e below (T23.setTop (mkF m 35 #[.val (.ref a), .val .null] [(.ref rs)])) t → Steps p.tables e below (s₁.setTop (entryFrame m #[(.ref a)] 2)) t := fun t k => k22 t (st23 t k)
  have k25 : ∀ t, Steps p.tables e below (T23.setTop (mkF m 36 #[.val (.ref a), .val .null] [(.ref a), (.ref rs)])) t → Steps p.tables e below (s₁.setTop (entryFrame m #[(.ref a)] 2)) t := by
    intro t k
    refine k24 t ?_
    show Steps p.tables e below (T23.setTop (mkF m 35 #[.val (.ref a), .val .null] [(.ref rs)])) _
    refine XS.aloadN X23.here hx rfl (hb hby own_d15_35) rfl rfl ?_
    exact k
  obtain ⟨T26, X26, e26, st26⟩ := getF X23 hx hZ hown (host := "") (Or.inl (hw _ (List.mem_of_getElem? (i := 40) rfl))) Via.refl e23 f11 (g := (mkF m 36 #[.val (.ref a), .val .null] [(.ref a), (.ref rs)])) rfl rfl (hb hby own_d15_36)
  have k27 : ∀ t, Steps p.tables e below (T26.setTop (mkF m 39 #[.val (.ref a), .val .null] [(.int (0 : Int32)), (.ref rs)])) t → Steps p.tables e below (s₁.setTop (entryFrame m #[(.ref a)] 2)) t := fun t k => k25 t (st26 t k)
  obtain ⟨cl28, Ar28, qa28, Sa28, Na28, Ha28, Ga28⟩ := id f10
  have hin29 : ¬ ((0 : Int32) < 0 ∨ cl28.slots.size ≤ ((0 : Int32)).toNatClampNeg) := inb_of Sa28 ⟨by decide, by decide⟩
  have hat30 : cl28.slots[((0 : Int32)).toNatClampNeg]? = some (.double d0) := Ha28 0 (Nat.lt_of_not_le fun q => hin29 (Or.inr q))
  have k31 : ∀ t, Steps p.tables e below (T26.setTop (mkF m 40 #[.val (.ref a), .val .null] [(.double d0)])) t → Steps p.tables e below (s₁.setTop (entryFrame m #[(.ref a)] 2)) t := by
    intro t k
    refine k27 t ?_
    show Steps p.tables e below (T26.setTop (mkF m 39 #[.val (.ref a), .val .null] [(.int (0 : Int32)), (.ref rs)])) _
    refine X26.daload hx (j := (0 : Int32)) (v := (.double d0)) (by rw [e26]; exact Ar28.1) (State.isArrayOf_alike hZ.alike Ar28.2.1) Ar28.2.2 hin29 hat30 (g := (mkF m 39 #[.val (.ref a), .val .null] [(.int (0 : Int32)), (.ref rs)])) rfl rfl (hb hby own_d15_39) _ ?_
    exact k
  obtain ⟨fs, hr, hrun, hended, hW, hsame⟩ := X26.leave (v := (some (.double d0))) (fun h => by rw [Bd.returns] at h; cases h)
  refine ⟨_, _, k31 _ ?_, hrun, hended, _, _, rfl, ?_, ⟨_, rfl⟩, hW, hsame.mono (by decide) (by decide)⟩
  · exact retOut X26 hx Bd.returns rfl (Or.inr (Or.inr (Or.inl ⟨rfl, rfl, _, rfl⟩))) (hb hby own_d15_40) hr
  · show own_Qpd1 Z a vs rs cv cr el1 el2 d0 d1 d2 h0 n0 _ T26.heap _
    rw [e26]
    exact ⟨rfl, N5, K5, f6, f7, f8, f11, f9, P5, f10⟩
theorem own_efpo2o (m : MethodId) (x0 : Addr) : entryFrame m #[(.ref x0)] 1 = mkF m 0 #[.val (.ref x0)] [] := by first | (simp [entryFrame, mkF, argsToLocals, Value.category]; done) | rfl
def own_Qpo2o (Z : State) (a : Addr) (vs : Addr) (rs : Addr) (cv : ClassId) (cr : ClassId) (el0 : Value) (x1 : Addr) (el2 : Value) (d0 : UInt64) (d1 : UInt64) (d2 : UInt64) (h0 : Heap) (n0 : Nat) (v : Option Value) (h : Heap) (L : List Loc) : Prop := v = some (.ref x1) ∧ Fr n0 L ∧ Keep h0 h [a] ∧ Exa Z h a "com/example/reckoner/reckoner/OperandStack" ∧ Fld Z h a "com/example/reckoner/reckoner/OperandStack" "values" "[Lcom/example/reckoner/reckoner/Value;" (.ref vs) ∧ Fld Z h a "com/example/reckoner/reckoner/OperandStack" "reals" "[D" (.ref rs) ∧ Fld Z h a "com/example/reckoner/reckoner/OperandStack" "height" "I" (.int (1 : Int32)) ∧ Arv Z h vs cv (.object "com/example/reckoner/reckoner/Value") (3 : Int32) [el0, (.ref x1), el2] .null ∧ Ovr Z cv "com/example/reckoner/reckoner/Value" ∧ Arv Z h rs cr .double (3 : Int32) [(.double d0), (.double d1), (.double d2)] (.double (0 : UInt64))
set_option maxRecDepth 65536 in
set_option maxHeartbeats 40000000 in
theorem own_rmpo2o (l : Launch) (Z : State) (a0 : Array Value) (hw : ∀ d ∈ tables_1, d.before a0 Z = true) (ws : List Jvm.Cond) (a : Addr) (vs : Addr) (rs : Addr) (cv : ClassId) (cr : ClassId) (el0 : Value) (x1 : Addr) (el2 : Value) (d0 : UInt64) (d1 : UInt64) (d2 : UInt64) (h0 : Heap) (n0 : Nat) (Z0 : n0 ≤ h0.size) (P0 : Exa Z h0 a "com/example/reckoner/reckoner/OperandStack") (P1 : Fld Z h0 a "com/example/reckoner/reckoner/OperandStack" "values" "[Lcom/example/reckoner/reckoner/Value;" (.ref vs)) (P2 : Fld Z h0 a "com/example/reckoner/reckoner/OperandStack" "reals" "[D" (.ref rs)) (P3 : Fld Z h0 a "com/example/reckoner/reckoner/OperandStack" "height" "I" (.int (2 : Int32))) (P4 : Arv Z h0 vs cv (.object "com/example/reckoner/reckoner/Value") (3 : Int32) [el0, (.ref x1), el2] .null) (P5 : Ovr Z cv "com/example/reckoner/reckoner/Value") (P6 : Arv Z h0 rs cr .double (3 : Int32) [(.double d0), (.double d1), (.double d2)] (.double (0 : UInt64))) (ge_a : n0 ≤ a) (ge_vs : n0 ≤ vs) (ge_rs : n0 ≤ rs) (ne_a_vs : a ≠ vs) (ne_a_rs : a ≠ rs) (ne_vs_rs : vs ≠ rs) :
    MetFree l (⟨"com/example/reckoner/reckoner/OperandStack", "pop", "()Lcom/example/reckoner/reckoner/Value;"⟩ : MethodName) (head1 (Jvm.Cond.code (⟨"com/example/reckoner/reckoner/OperandStack", "pop", "()Lcom/example/reckoner/reckoner/Value;"⟩ : MethodName) prog_48_method_4_code 1 (some (.object "com/example/reckoner/reckoner/Value")) :: ws) ({ frames := 1, cells := 0, slots := 0, locals := 14 } : Room)) (fun aa U => aa = #[(.ref a)] ∧ Z.Warmed39 U.vm ∧ U.heap = h0) (fun _ _ _ _ _ => True) (fun _ U o U' => ∃ v L, o = .returned v ∧ own_Qpo2o Z a vs rs cv cr el0 x1 el2 d0 d1 d2 h0 n0 v U'.heap L ∧ FrameEnd U o U' L ({ frames := 1, cells := 0, slots := 0, locals := 14 } : Room).cells ({ frames := 1, cells := 0, slots := 0, locals := 14 } : Room).slots) := by
  refine MetFree.of_bodySF (plainFor_of_name own_pn1) hisR ?_
  intro p e s m args below meth c s₁ Bd hml0 hP hK
  obtain ⟨rfl, hZ, hh⟩ := hP
  have hx := Bd.exec
  have hby := Bd.bytes
  have hml : c.maxLocals = 1 := hml0
  have hown : s.vm.findClass "com/example/reckoner/reckoner/OperandStack" = some m.cls := findClass_of_methodNamed Bd.named
  have hnm := (name_of_methodNamed Bd.named Bd.method).1
  have X0 : Stand p l e ({ frames := 1, cells := 0, slots := 0, locals := 14 } : Room) s m #[(.ref a)] below meth c s₁ [] 0 0 := Stand.of_body Bd
  have e0 : s₁.heap = h0 := by rw [← hh, Bd.state]; rfl
  have N0 := Fr.nil n0
  have pre0 : ∀ t, Steps p.tables e below (s₁.setTop (mkF m 0 #[.val (.ref a)] [])) t → Steps p.tables e below (s₁.setTop (entryFrame m #[(.ref a)] 1)) t := fun t k => castTop (own_efpo2o m a) k
  have k1 : ∀ t, Steps p.tables e below (s₁.setTop (mkF m 2 #[.val (.ref a)] [(.ref a), (.ref a)])) t → Steps p.tables e below (s₁.setTop (entryFrame m #[(.ref a)] 1)) t := by
    intro t k
    refine pre0 t ?_
    show Steps p.tables e below (s₁.setTop (mkF m 0 #[.val (.ref a)] [])) _
    refine XS.aloadN X0.here hx rfl (hb hby own_d6_0) rfl rfl ?_
    show Steps p.tables e below (s₁.setTop (mkF m 1 #[.val (.ref a)] [(.ref a)])) _
    refine XS.dup X0.here hx rfl (hb hby own_d6_1) rfl rfl ?_
    exact k
  obtain ⟨T2, X2, e2, st2⟩ := getF X0 hx hZ hown (host := "") (Or.inl (hw _ (List.mem_of_getElem? (i := 40) rfl))) Via.refl e0 P3 (g := (mkF m 2 #[.val (.ref a)] [(.ref a), (.ref a)])) rfl rfl (hb hby own_d6_2)
  have k3 : ∀ t, Steps p.tables e below (T2.setTop (mkF m 5 #[.val (.ref a)] [(.int (2 : Int32)), (.ref a)])) t → Steps p.tables e below (s₁.setTop (entryFrame m #[(.ref a)] 1)) t := fun t k => k1 t (st2 t k)
  have k4 : ∀ t, Steps p.tables e below (T2.setTop (mkF m 7 #[.val (.ref a)] [(.int (1 : Int32)), (.ref a)])) t → Steps p.tables e below (s₁.setTop (entryFrame m #[(.ref a)] 1)) t := by
    intro t k
    refine k3 t ?_
    show Steps p.tables e below (T2.setTop (mkF m 5 #[.val (.ref a)] [(.int (2 : Int32)), (.ref a)])) _
    refine XS.iconst X2.here hx rfl (hb hby own_d6_5) ?_
    show Steps p.tables e below (T2.setTop (mkF m 6 #[.val (.ref a)] [(.int (1 : Int32)), (.int (2 : Int32)), (.ref a)])) _
    refine XS.isub X2.here hx rfl (hb hby own_d6_6) rfl ?_
    exact k
  obtain ⟨T5, h5, X5, e5, W5, st5⟩ := putF X2 hx hZ hown (host := "") (Or.inl (hw _ (List.mem_of_getElem? (i := 40) rfl))) Via.refl e2 P3 P0 (Or.inl (hw _ (List.mem_of_getElem? (i := 41) rfl))) (hw _ (List.mem_of_getElem? (i := 1) rfl)) (ty := .int) (by decide) rfl rfl (g := (mkF m 7 #[.val (.ref a)] [(.int (1 : Int32)), (.ref a)])) rfl rfl (hb hby own_d6_7)
  have f6 := P0.wr W5
  have f7 := P1.other W5 (Or.inr (slot_ne (Or.inr (hw _ (List.mem_of_getElem? (i := 12) rfl))) (Or.inl (hw _ (List.mem_of_getElem? (i := 41) rfl))) (by decide) (t := (.array (.object "com/example/reckoner/reckoner/Value"))) (t' := .int) (by decide) (by decide)))
  have f8 := P2.other W5 (Or.inr (slot_ne (Or.inr (hw _ (List.mem_of_getElem? (i := 15) rfl))) (Or.inl (hw _ (List.mem_of_getElem? (i := 41) rfl))) (by decide) (t := (.array .double)) (t' := .int) (by decide) (by decide)))
  have f9 := P4.other W5 (Ne.symm ne_a_vs)
  have f10 := P6.other W5 (Ne.symm ne_a_rs)
  have f11 := P3.same W5
  have N5 := Fr.snoc X5 N0 ge_a
  have K5 : Keep h0 h5 [a] := (Keep.refl h0 [a]).wr W5 (Or.inl (List.mem_of_getElem? (i := 0) rfl))
  have Z5 : n0 ≤ h5.size := Nat.le_trans Z0 (Keep.of_wr W5).1
  have k12 : ∀ t, Steps p.tables e below (T5.setTop (mkF m 10 #[.val (.ref a)] [])) t → Steps p.tables e below (s₁.setTop (entryFrame m #[(.ref a)] 1)) t := fun t k => k4 t (st5 t k)
  have k13 : ∀ t, Steps p.tables e below (T5.setTop (mkF m 12 #[.val (.ref a)] [(.ref a), (.ref a)])) t → Steps p.tables e below (s₁.setTop (entryFrame m #[(.ref a)] 1)) t := by
    intro t k
    refine k12 t ?_
    show Steps p.tables e below (T5.setTop (mkF m 10 #[.val (.ref a)] [])) _
    refine XS.aloadN X5.here hx rfl (hb hby own_d6_10) rfl rfl ?_
    show Steps p.tables e below (T5.setTop (mkF m 11 #[.val (.ref a)] [(.ref a)])) _
    refine XS.aloadN X5.here hx rfl (hb hby own_d6_11) rfl rfl ?_
    exact k
  obtain ⟨T14, X14, e14, st14⟩ := getF X5 hx hZ hown (host := "") (Or.inl (hw _ (List.mem_of_getElem? (i := 40) rfl))) Via.refl e5 f11 (g := (mkF m 12 #[.val (.ref a)] [(.ref a), (.ref a)])) rfl rfl (hb hby own_d6_12)
  have k15 : ∀ t, Steps p.tables e below (T14.setTop (mkF m 15 #[.val (.ref a)] [(.int (1 : Int32)), (.ref a)])) t → Steps p.tables e below (s₁.setTop (entryFrame m #[(.ref a)] 1)) t := fun t k => k13 t (st14 t k)
  obtain ⟨cq16, qa16x, qb16x⟩ := f6.cell
  obtain ⟨_, _, ⟨T16, L16, k16c, n16⟩, -, X16, ⟨Lc16, hQ16, l16, y16, z16⟩, st16⟩ := X14.privateBack hx (y := (⟨"com/example/reckoner/reckoner/OperandStack", "valueAt", "(I)Lcom/example/reckoner/reckoner/Value;"⟩ : MethodName)) hown (mvT hZ (hw _ (List.mem_of_getElem? (i := 48) rfl))) (mvT hZ (hw _ (List.mem_of_getElem? (i := 49) rfl))) (Jvm.Kit.selects_private (by decide) (mvT hZ (hw _ (List.mem_of_getElem? (i := 1) rfl))) (mvP hZ (hw _ (List.mem_of_getElem? (i := 50) rfl))) (mvT hZ (hw _ (List.mem_of_getElem? (i := 49) rfl)))) (Cond.privateMethod_at (mvP hZ (hw _ (List.mem_of_getElem? (i := 50) rfl)) (args := #[]))) (mvT hZ (hw _ (List.mem_of_getElem? (i := 51) rfl))) (by decide) (backOf (W := 0) (own_rmva1o1 l Z a0 hw [] a vs rs cv cr el0 x1 el2 d0 d1 d2 h5 n0 Z5 f6 f7 f8 f11 f9 P5 f10 ge_a ge_vs ge_rs ne_a_vs ne_a_rs ne_vs_rs) hZ (hw _ (List.mem_of_getElem? (i := 51) rfl)) (hw _ (List.mem_of_getElem? (i := 2) rfl)) (by decide) (by decide)) (g := (mkF m 15 #[.val (.ref a)] [(.int (1 : Int32)), (.ref a)])) rfl (by rw [hml]; rfl) (Steps.refl _) (a := a) (by rw [e14]; exact qa16x) qb16x (argsL := [(.int (1 : Int32))]) (rest := []) (lenOf own_pd2 rfl) rfl (by show 2 * 0 + _ ≤ _; exact Nat.le_of_eq rfl) (hb hby own_d6_15) (fun _ _ => ⟨rfl, e14, (by decide : 0 + 0 ≤ _), (by decide : 0 + 0 ≤ _)⟩)
  dsimp only [Pt.U, Pt.locs, Pt.cells, Pt.slots] at X16 l16 y16 z16 st16 hQ16
  subst l16 y16 z16
  obtain ⟨rfl, N16q, Kq16, fq16_0, fq16_1, fq16_2, fq16_3, fq16_4, fq16_5, fq16_6⟩ := hQ16
  have N16 := Fr.app N5 N16q
  have Z16 : n0 ≤ T16.heap.size := Nat.le_trans Z5 Kq16.1
  have K16 : Keep h0 T16.heap [a] := K5.trans Kq16 (fun x hx => nomatch hx)
  have k17 : ∀ t, Steps p.tables e below (T16.setTop (mkF m 18 #[.val (.ref a)] [(.ref x1)])) t → Steps p.tables e below (s₁.setTop (entryFrame m #[(.ref a)] 1)) t := fun t k => k15 t (st16.trans k)
  obtain ⟨fs, hr, hrun, hended, hW, hsame⟩ := X16.leave (v := (some (.ref x1))) (fun h => by rw [Bd.returns] at h; cases h)
  refine ⟨_, _, k17 _ ?_, hrun, hended, _, _, rfl, ?_, ⟨_, rfl⟩, hW, hsame.mono (by decide) (by decide)⟩
  · exact retOut X16 hx Bd.returns rfl (Or.inr (Or.inr (Or.inr (Or.inr ⟨rfl, rfl, rfl⟩)))) (hb hby own_d6_18) hr
  · show own_Qpo2o Z a vs rs cv cr el0 x1 el2 d0 d1 d2 h0 n0 _ T16.heap _
    exact ⟨rfl, N16, K16, fq16_0, fq16_1, fq16_2, fq16_3, fq16_4, fq16_5, fq16_6⟩
theorem own_efpo2n (m : MethodId) (x0 : Addr) : entryFrame m #[(.ref x0)] 1 = mkF m 0 #[.val (.ref x0)] [] := by first | (simp [entryFrame, mkF, argsToLocals, Value.category]; done) | rfl
def own_Qpo2n (Z : State) (a : Addr) (vs : Addr) (rs : Addr) (cv : ClassId) (cr : ClassId) (el0 : Value) (el2 : Value) (d0 : UInt64) (d1 : UInt64) (d2 : UInt64)  (sR : Addr) (h0 : Heap) (n0 : Nat) (v : Option Value) (h : Heap) (L : List Loc) : Prop := ∃ rrb1_14_16, v = some (.ref rrb1_14_16) ∧ Fr n0 L ∧ Keep h0 h [a] ∧ h0.size ≤ rrb1_14_16 ∧ Exa Z h a "com/example/reckoner/reckoner/OperandStack" ∧ Fld Z h a "com/example/reckoner/reckoner/OperandStack" "values" "[Lcom/example/reckoner/reckoner/Value;" (.ref vs) ∧ Fld Z h a "com/example/reckoner/reckoner/OperandStack" "reals" "[D" (.ref rs) ∧ Fld Z h a "com/example/reckoner/reckoner/OperandStack" "height" "I" (.int (1 : Int32)) ∧ Arv Z h vs cv (.object "com/example/reckoner/reckoner/Value") (3 : Int32) [el0, .null, el2] .null ∧ Ovr Z cv "com/example/reckoner/reckoner/Value" ∧ Arv Z h rs cr .double (3 : Int32) [(.double d0), (.double d1), (.double d2)] (.double (0 : UInt64)) ∧ Exa Z h rrb1_14_16 "com/example/reckoner/reckoner/Value" ∧ Fld Z h rrb1_14_16 "com/example/reckoner/reckoner/Value" "type" "Lcom/example/reckoner/reckoner/Value$Type;" (.ref sR) ∧ Fld Z h rrb1_14_16 "com/example/reckoner/reckoner/Value" "integerValue" "J" (.long (0 : Int64)) ∧ Fld Z h rrb1_14_16 "com/example/reckoner/reckoner/Value" "realValue" "D" (.double d1)
set_option maxRecDepth 65536 in
set_option maxHeartbeats 40000000 in
theorem own_rmpo2n (l : Launch) (Z : State) (a0 : Array Value) (hw : ∀ d ∈ tables_1, d.before a0 Z = true) (ws : List Jvm.Cond) (a : Addr) (vs : Addr) (rs : Addr) (cv : ClassId) (cr : ClassId) (el0 : Value) (el2 : Value) (d0 : UInt64) (d1 : UInt64) (d2 : UInt64)  (sR : Addr) (h0 : Heap) (n0 : Nat) (Z0 : n0 ≤ h0.size) (P0 : Exa Z h0 a "com/example/reckoner/reckoner/OperandStack") (P1 : Fld Z h0 a "com/example/reckoner/reckoner/OperandStack" "values" "[Lcom/example/reckoner/reckoner/Value;" (.ref vs)) (P2 : Fld Z h0 a "com/example/reckoner/reckoner/OperandStack" "reals" "[D" (.ref rs)) (P3 : Fld Z h0 a "com/example/reckoner/reckoner/OperandStack" "height" "I" (.int (2 : Int32))) (P4 : Arv Z h0 vs cv (.object "com/example/reckoner/reckoner/Value") (3 : Int32) [el0, .null, el2] .null) (P5 : Ovr Z cv "com/example/reckoner/reckoner/Value") (P6 : Arv Z h0 rs cr .double (3 : Int32) [(.double d0), (.double d1), (.double d2)] (.double (0 : UInt64))) (ge_a : n0 ≤ a) (ge_vs : n0 ≤ vs) (ge_rs : n0 ≤ rs) (ne_a_vs : a ≠ vs) (ne_a_rs : a ≠ rs) (ne_vs_rs : vs ≠ rs) (Xo : Old Z n0 h0) (SR : Sta Z Z.heap "com/example/reckoner/reckoner/Value$Type" "REAL" "Lcom/example/reckoner/reckoner/Value$Type;" (.ref sR)) :
    MetFree l (⟨"com/example/reckoner/reckoner/OperandStack", "pop", "()Lcom/example/reckoner/reckoner/Value;"⟩ : MethodName) (head1 (Jvm.Cond.code (⟨"com/example/reckoner/reckoner/OperandStack", "pop", "()Lcom/example/reckoner/reckoner/Value;"⟩ : MethodName) prog_48_method_4_code 1 (some (.object "com/example/reckoner/reckoner/Value")) :: ws) ({ frames := 4, cells := 1, slots := 3, locals := 57 } : Room)) (fun aa U => aa = #[(.ref a)] ∧ Z.Warmed39 U.vm ∧ U.heap = h0) (fun _ _ _ _ _ => True) (fun _ U o U' => ∃ v L, o = .returned v ∧ own_Qpo2n Z a vs rs cv cr el0 el2 d0 d1 d2 sR h0 n0 v U'.heap L ∧ FrameEnd U o U' L ({ frames := 4, cells := 1, slots := 3, locals := 57 } : Room).cells ({ frames := 4, cells := 1, slots := 3, locals := 57 } : Room).slots) := by
  refine MetFree.of_bodySF (plainFor_of_name own_pn1) hisR ?_
  intro p e s m args below meth c s₁ Bd hml0 hP hK
  obtain ⟨rfl, hZ, hh⟩ := hP
  have hx := Bd.exec
  have hby := Bd.bytes
  have hml : c.maxLocals = 1 := hml0
  have hown : s.vm.findClass "com/example/reckoner/reckoner/OperandStack" = some m.cls := findClass_of_methodNamed Bd.named
  have hnm := (name_of_methodNamed Bd.named Bd.method).1
  have X0 : Stand p l e ({ frames := 4, cells := 1, slots := 3, locals := 57 } : Room) s m #[(.ref a)] below meth c s₁ [] 0 0 := Stand.of_body Bd
  have e0 : s₁.heap = h0 := by rw [← hh, Bd.state]; rfl
  have N0 := Fr.nil n0
  have pre0 : ∀ t, Steps p.tables e below (s₁.setTop (mkF m 0 #[.val (.ref a)] [])) t → Steps p.tables e below (s₁.setTop (entryFrame m #[(.ref a)] 1)) t := fun t k => castTop (own_efpo2n m a) k
  have k1 : ∀ t, Steps p.tables e below (s₁.setTop (mkF m 2 #[.val (.ref a)] [(.ref a), (.ref a)])) t → Steps p.tables e below (s₁.setTop (entryFrame m #[(.ref a)] 1)) t := by
    intro t k
    refine pre0 t ?_
    show Steps p.tables e below (s₁.setTop (mkF m 0 #[.val (.ref a)] [])) _
    refine XS.aloadN X0.here hx rfl (hb hby own_d6_0) rfl rfl ?_
    show Steps p.tables e below (s₁.setTop (mkF m 1 #[.val (.ref a)] [(.ref a)])) _
    refine XS.dup X0.here hx rfl (hb hby own_d6_1) rfl rfl ?_
    exact k
  obtain ⟨T2, X2, e2, st2⟩ := getF X0 hx hZ hown (host := "") (Or.inl (hw _ (List.mem_of_getElem? (i := 40) rfl))) Via.refl e0 P3 (g := (mkF m 2 #[.val (.ref a)] [(.ref a), (.ref a)])) rfl rfl (hb hby own_d6_2)
  have k3 : ∀ t, Steps p.tables e below (T2.setTop (mkF m 5 #[.val (.ref a)] [(.int (2 : Int32)), (.ref a)])) t → Steps p.tables e below (s₁.setTop (entryFrame m #[(.ref a)] 1)) t := fun t k => k1 t (st2 t k)
  have k4 : ∀ t, Steps p.tables e below (T2.setTop (mkF m 7 #[.val (.ref a)] [(.int (1 : Int32)), (.ref a)])) t → Steps p.tables e below (s₁.setTop (entryFrame m #[(.ref a)] 1)) t := by
    intro t k
    refine k3 t ?_
    show Steps p.tables e below (T2.setTop (mkF m 5 #[.val (.ref a)] [(.int (2 : Int32)), (.ref a)])) _
    refine XS.iconst X2.here hx rfl (hb hby own_d6_5) ?_
    show Steps p.tables e below (T2.setTop (mkF m 6 #[.val (.ref a)] [(.int (1 : Int32)), (.int (2 : Int32)), (.ref a)])) _
    refine XS.isub X2.here hx rfl (hb hby own_d6_6) rfl ?_
    exact k
  obtain ⟨T5, h5, X5, e5, W5, st5⟩ := putF X2 hx hZ hown (host := "") (Or.inl (hw _ (List.mem_of_getElem? (i := 40) rfl))) Via.refl e2 P3 P0 (Or.inl (hw _ (List.mem_of_getElem? (i := 41) rfl))) (hw _ (List.mem_of_getElem? (i := 1) rfl)) (ty := .int) (by decide) rfl rfl (g := (mkF m 7 #[.val (.ref a)] [(.int (1 : Int32)), (.ref a)])) rfl rfl (hb hby own_d6_7)
  have f6 := P0.wr W5
  have f7 := P1.other W5 (Or.inr (slot_ne (Or.inr (hw _ (List.mem_of_getElem? (i := 12) rfl))) (Or.inl (hw _ (List.mem_of_getElem? (i := 41) rfl))) (by decide) (t := (.array (.object "com/example/reckoner/reckoner/Value"))) (t' := .int) (by decide) (by decide)))
  have f8 := P2.other W5 (Or.inr (slot_ne (Or.inr (hw _ (List.mem_of_getElem? (i := 15) rfl))) (Or.inl (hw _ (List.mem_of_getElem? (i := 41) rfl))) (by decide) (t := (.array .double)) (t' := .int) (by decide) (by decide)))
  have f9 := P4.other W5 (Ne.symm ne_a_vs)
  have f10 := P6.other W5 (Ne.symm ne_a_rs)
  have f11 := P3.same W5
  have N5 := Fr.snoc X5 N0 ge_a
  have K5 : Keep h0 h5 [a] := (Keep.refl h0 [a]).wr W5 (Or.inl (List.mem_of_getElem? (i := 0) rfl))
  have Z5 : n0 ≤ h5.size := Nat.le_trans Z0 (Keep.of_wr W5).1
  have Xo5 := Xo.wr W5 ge_a
  have k12 : ∀ t, Steps p.tables e below (T5.setTop (mkF m 10 #[.val (.ref a)] [])) t → Steps p.tables e below (s₁.setTop (entryFrame m #[(.ref a)] 1)) t := fun t k => k4 t (st5 t k)
  have k13 : ∀ t, Steps p.tables e below (T5.setTop (mkF m 12 #[.val (.ref a)] [(.ref a), (.ref a)])) t → Steps p.tables e below (s₁.setTop (entryFrame m #[(.ref a)] 1)) t := by
    intro t k
    refine k12 t ?_
    show Steps p.tables e below (T5.setTop (mkF m 10 #[.val (.ref a)] [])) _
    refine XS.aloadN X5.here hx rfl (hb hby own_d6_10) rfl rfl ?_
    show Steps p.tables e below (T5.setTop (mkF m 11 #[.val (.ref a)] [(.ref a)])) _
    refine XS.aloadN X5.here hx rfl (hb hby own_d6_11) rfl rfl ?_
    exact k
  obtain ⟨T14, X14, e14, st14⟩ := getF X5 hx hZ hown (host := "") (Or.inl (hw _ (List.mem_of_getElem? (i := 40) rfl))) Via.refl e5 f11 (g := (mkF m 12 #[.val (.ref a)] [(.ref a), (.ref a)])) rfl rfl (hb hby own_d6_12)
  have k15 : ∀ t, Steps p.tables e below (T14.setTop (mkF m 15 #[.val (.ref a)] [(.int (1 : Int32)), (.ref a)])) t → Steps p.tables e below (s₁.setTop (entryFrame m #[(.ref a)] 1)) t := fun t k => k13 t (st14 t k)
  obtain ⟨cq16, qa16x, qb16x⟩ := f6.cell
  obtain ⟨_, _, ⟨T16, L16, k16c, n16⟩, -, X16, ⟨Lc16, hQ16, l16, y16, z16⟩, st16⟩ := X14.privateBack hx (y := (⟨"com/example/reckoner/reckoner/OperandStack", "valueAt", "(I)Lcom/example/reckoner/reckoner/Value;"⟩ : MethodName)) hown (mvT hZ (hw _ (List.mem_of_getElem? (i := 48) rfl))) (mvT hZ (hw _ (List.mem_of_getElem? (i := 49) rfl))) (Jvm.Kit.selects_private (by decide) (mvT hZ (hw _ (List.mem_of_getElem? (i := 1) rfl))) (mvP hZ (hw _ (List.mem_of_getElem? (i := 50) rfl))) (mvT hZ (hw _ (List.mem_of_getElem? (i := 49) rfl)))) (Cond.privateMethod_at (mvP hZ (hw _ (List.mem_of_getElem? (i := 50) rfl)) (args := #[]))) (mvT hZ (hw _ (List.mem_of_getElem? (i := 51) rfl))) (by decide) (backOf (W := 0) (own_rmva1n1 l Z a0 hw [] a vs rs cv cr el0 el2 d0 d1 d2 sR h5 n0 Z5 f6 f7 f8 f11 f9 P5 f10 ge_a ge_vs ge_rs ne_a_vs ne_a_rs ne_vs_rs Xo5 SR) hZ (hw _ (List.mem_of_getElem? (i := 51) rfl)) (hw _ (List.mem_of_getElem? (i := 2) rfl)) (by decide) (by decide)) (g := (mkF m 15 #[.val (.ref a)] [(.int (1 : Int32)), (.ref a)])) rfl (by rw [hml]; rfl) (Steps.refl _) (a := a) (by rw [e14]; exact qa16x) qb16x (argsL := [(.int (1 : Int32))]) (rest := []) (lenOf own_pd2 rfl) rfl (by show 2 * 0 + _ ≤ _; exact Nat.le_of_eq rfl) (hb hby own_d6_15) (fun _ _ => ⟨rfl, e14, (by decide : 0 + 1 ≤ _), (by decide : 0 + 3 ≤ _)⟩)
  dsimp only [Pt.U, Pt.locs, Pt.cells, Pt.slots] at X16 l16 y16 z16 st16 hQ16
  subst l16 y16 z16
  obtain ⟨rrb1_14_16, rfl, N16q, Kq16, gz16_rb1_14, fq16_0, fq16_1, fq16_2, fq16_3, fq16_4, fq16_5, fq16_6, fq16_7, fq16_8, fq16_9, fq16_10⟩ := hQ16
  have N16 := Fr.app N5 N16q
  have ge16_rb1_14 : n0 ≤ rrb1_14_16 := Nat.le_trans Z5 gz16_rb1_14
  have bo16_rb1_14 : h0.size ≤ rrb1_14_16 := Nat.le_trans K5.1 gz16_rb1_14
  have ne17 : a ≠ rrb1_14_16 := Nat.ne_of_lt (Nat.lt_of_lt_of_le f6.lt gz16_rb1_14)
  have ne18 : rs ≠ rrb1_14_16 := Nat.ne_of_lt (Nat.lt_of_lt_of_le f10.lt gz16_rb1_14)
  have ne19 : vs ≠ rrb1_14_16 := Nat.ne_of_lt (Nat.lt_of_lt_of_le f9.lt gz16_rb1_14)
  have Z16 : n0 ≤ T16.heap.size := Nat.le_trans Z5 Kq16.1
  have K16 : Keep h0 T16.heap [a] := K5.trans Kq16 (fun x hx => nomatch hx)
  have Xo16 := Xo5.keep Kq16 all0
  have k20 : ∀ t, Steps p.tables e below (T16.setTop (mkF m 18 #[.val (.ref a)] [(.ref rrb1_14_16)])) t → Steps p.tables e below (s₁.setTop (entryFrame m #[(.ref a)] 1)) t := fun t k => k15 t (st16.trans k)
  obtain ⟨fs, hr, hrun, hended, hW, hsame⟩ := X16.leave (v := (some (.ref rrb1_14_16))) (fun h => by rw [Bd.returns] at h; cases h)
  refine ⟨_, _, k20 _ ?_, hrun, hended, _, _, rfl, ?_, ⟨_, rfl⟩, hW, hsame.mono (by decide) (by decide)⟩
  · exact retOut X16 hx Bd.returns rfl (Or.inr (Or.inr (Or.inr (Or.inr ⟨rfl, rfl, rfl⟩)))) (hb hby own_d6_18) hr
  · show own_Qpo2n Z a vs rs cv cr el0 el2 d0 d1 d2 sR h0 n0 _ T16.heap _
    exact ⟨rrb1_14_16, rfl, N16, K16, bo16_rb1_14, fq16_0, fq16_1, fq16_2, fq16_3, fq16_4, fq16_5, fq16_6, fq16_7, fq16_8, fq16_9, fq16_10⟩
theorem own_efpk2 (m : MethodId) (x0 : Addr) : entryFrame m #[(.ref x0)] 1 = mkF m 0 #[.val (.ref x0)] [] := by first | (simp [entryFrame, mkF, argsToLocals, Value.category]; done) | rfl
def own_Qpk2 (Z : State) (a : Addr) (vs : Addr) (rs : Addr) (cv : ClassId) (cr : ClassId) (el0 : Value) (el2 : Value) (d0 : UInt64) (d1 : UInt64) (d2 : UInt64)  (sR : Addr) (h0 : Heap) (n0 : Nat) (v : Option Value) (h : Heap) (L : List Loc) : Prop := ∃ rrb1_14_5, v = some (.ref rrb1_14_5) ∧ Fr n0 L ∧ Keep h0 h [] ∧ h0.size ≤ rrb1_14_5 ∧ Exa Z h a "com/example/reckoner/reckoner/OperandStack" ∧ Fld Z h a "com/example/reckoner/reckoner/OperandStack" "values" "[Lcom/example/reckoner/reckoner/Value;" (.ref vs) ∧ Fld Z h a "com/example/reckoner/reckoner/OperandStack" "reals" "[D" (.ref rs) ∧ Fld Z h a "com/example/reckoner/reckoner/OperandStack" "height" "I" (.int (2 : Int32)) ∧ Arv Z h vs cv (.object "com/example/reckoner/reckoner/Value") (3 : Int32) [el0, .null, el2] .null ∧ Ovr Z cv "com/example/reckoner/reckoner/Value" ∧ Arv Z h rs cr .double (3 : Int32) [(.double d0), (.double d1), (.double d2)] (.double (0 : UInt64)) ∧ Exa Z h rrb1_14_5 "com/example/reckoner/reckoner/Value" ∧ Fld Z h rrb1_14_5 "com/example/reckoner/reckoner/Value" "type" "Lcom/example/reckoner/reckoner/Value$Type;" (.ref sR) ∧ Fld Z h rrb1_14_5 "com/example/reckoner/reckoner/Value" "integerValue" "J" (.long (0 : Int64)) ∧ Fld Z h rrb1_14_5 "com/example/reckoner/reckoner/Value" "realValue" "D" (.double d1)
set_option maxRecDepth 65536 in
set_option maxHeartbeats 40000000 in
theorem own_rmpk2 (l : Launch) (Z : State) (a0 : Array Value) (hw : ∀ d ∈ tables_1, d.before a0 Z = true) (ws : List Jvm.Cond) (a : Addr) (vs : Addr) (rs : Addr) (cv : ClassId) (cr : ClassId) (el0 : Value) (el2 : Value) (d0 : UInt64) (d1 : UInt64) (d2 : UInt64)  (sR : Addr) (h0 : Heap) (n0 : Nat) (Z0 : n0 ≤ h0.size) (P0 : Exa Z h0 a "com/example/reckoner/reckoner/OperandStack") (P1 : Fld Z h0 a "com/example/reckoner/reckoner/OperandStack" "values" "[Lcom/example/reckoner/reckoner/Value;" (.ref vs)) (P2 : Fld Z h0 a "com/example/reckoner/reckoner/OperandStack" "reals" "[D" (.ref rs)) (P3 : Fld Z h0 a "com/example/reckoner/reckoner/OperandStack" "height" "I" (.int (2 : Int32))) (P4 : Arv Z h0 vs cv (.object "com/example/reckoner/reckoner/Value") (3 : Int32) [el0, .null, el2] .null) (P5 : Ovr Z cv "com/example/reckoner/reckoner/Value") (P6 : Arv Z h0 rs cr .double (3 : Int32) [(.double d0), (.double d1), (.double d2)] (.double (0 : UInt64))) (ge_a : n0 ≤ a) (ge_vs : n0 ≤ vs) (ge_rs : n0 ≤ rs) (ne_a_vs : a ≠ vs) (ne_a_rs : a ≠ rs) (ne_vs_rs : vs ≠ rs) (Xo : Old Z n0 h0) (SR : Sta Z Z.heap "com/example/reckoner/reckoner/Value$Type" "REAL" "Lcom/example/reckoner/reckoner/Value$Type;" (.ref sR)) :
    MetFree l (⟨"com/example/reckoner/reckoner/OperandStack", "peek", "()Lcom/example/reckoner/reckoner/Value;"⟩ : MethodName) (head1 (Jvm.Cond.code (⟨"com/example/reckoner/reckoner/OperandStack", "peek", "()Lcom/example/reckoner/reckoner/Value;"⟩ : MethodName) prog_48_method_6_code 1 (some (.object "com/example/reckoner/reckoner/Value")) :: ws) ({ frames := 4, cells := 1, slots := 3, locals := 57 } : Room)) (fun aa U => aa = #[(.ref a)] ∧ Z.Warmed39 U.vm ∧ U.heap = h0) (fun _ _ _ _ _ => True) (fun _ U o U' => ∃ v L, o = .returned v ∧ own_Qpk2 Z a vs rs cv cr el0 el2 d0 d1 d2 sR h0 n0 v U'.heap L ∧ FrameEnd U o U' L ({ frames := 4, cells := 1, slots := 3, locals := 57 } : Room).cells ({ frames := 4, cells := 1, slots := 3, locals := 57 } : Room).slots) := by
  refine MetFree.of_bodySF (plainFor_of_name own_pn1) hisR ?_
  intro p e s m args below meth c s₁ Bd hml0 hP hK
  obtain ⟨rfl, hZ, hh⟩ := hP
  have hx := Bd.exec
  have hby := Bd.bytes
  have hml : c.maxLocals = 1 := hml0
  have hown : s.vm.findClass "com/example/reckoner/reckoner/OperandStack" = some m.cls := findClass_of_methodNamed Bd.named
  have hnm := (name_of_methodNamed Bd.named Bd.method).1
  have X0 : Stand p l e ({ frames := 4, cells := 1, slots := 3, locals := 57 } : Room) s m #[(.ref a)] below meth c s₁ [] 0 0 := Stand.of_body Bd
  have e0 : s₁.heap = h0 := by rw [← hh, Bd.state]; rfl
  have N0 := Fr.nil n0
  have pre0 : ∀ t, Steps p.tables e below (s₁.setTop (mkF m 0 #[.val (.ref a)] [])) t → Steps p.tables e below (s₁.setTop (entryFrame m #[(.ref a)] 1)) t := fun t k => castTop (own_efpk2 m a) k
  have k1 : ∀ t, Steps p.tables e below (s₁.setTop (mkF m 2 #[.val (.ref a)] [(.ref a), (.ref a)])) t → Steps p.tables e below (s₁.setTop (entryFrame m #[(.ref a)] 1)) t := by
    intro t k
    refine pre0 t ?_
    show Steps p.tables e below (s₁.setTop (mkF m 0 #[.val (.ref a)] [])) _
    refine XS.aloadN X0.here hx rfl (hb hby own_d11_0) rfl rfl ?_
    show Steps p.tables e below (s₁.setTop (mkF m 1 #[.val (.ref a)] [(.ref a)])) _
    refine XS.aloadN X0.here hx rfl (hb hby own_d11_1) rfl rfl ?_
    exact k
  obtain ⟨T2, X2, e2, st2⟩ := getF X0 hx hZ hown (host := "") (Or.inl (hw _ (List.mem_of_getElem? (i := 40) rfl))) Via.refl e0 P3 (g := (mkF m 2 #[.val (.ref a)] [(.ref a), (.ref a)])) rfl rfl (hb hby own_d11_2)
  have k3 : ∀ t, Steps p.tables e below (T2.setTop (mkF m 5 #[.val (.ref a)] [(.int (2 : Int32)), (.ref a)])) t → Steps p.tables e below (s₁.setTop (entryFrame m #[(.ref a)] 1)) t := fun t k => k1 t (st2 t k)
  have k4 : ∀ t, Steps p.tables e below (T2.setTop (mkF m 7 #[.val (.ref a)] [(.int (1 : Int32)), (.ref a)])) t → Steps p.tables e below (s₁.setTop (entryFrame m #[(.ref a)] 1)) t := by
    intro t k
    refine k3 t ?_
    show Steps p.tables e below (T2.setTop (mkF m 5 #[.val (.ref a)] [(.int (2 : Int32)), (.ref a)])) _
    refine XS.iconst X2.here hx rfl (hb hby own_d11_5) ?_
    show Steps p.tables e below (T2.setTop (mkF m 6 #[.val (.ref a)] [(.int (1 : Int32)), (.int (2 : Int32)), (.ref a)])) _
    refine XS.isub X2.here hx rfl (hb hby own_d11_6) rfl ?_
    exact k
  obtain ⟨cq5, qa5x, qb5x⟩ := P0.cell
  obtain ⟨_, _, ⟨T5, L5, k5c, n5⟩, -, X5, ⟨Lc5, hQ5, l5, y5, z5⟩, st5⟩ := X2.privateBack hx (y := (⟨"com/example/reckoner/reckoner/OperandStack", "valueAt", "(I)Lcom/example/reckoner/reckoner/Value;"⟩ : MethodName)) hown (mvT hZ (hw _ (List.mem_of_getElem? (i := 48) rfl))) (mvT hZ (hw _ (List.mem_of_getElem? (i := 49) rfl))) (Jvm.Kit.selects_private (by decide) (mvT hZ (hw _ (List.mem_of_getElem? (i := 1) rfl))) (mvP hZ (hw _ (List.mem_of_getElem? (i := 50) rfl))) (mvT hZ (hw _ (List.mem_of_getElem? (i := 49) rfl)))) (Cond.privateMethod_at (mvP hZ (hw _ (List.mem_of_getElem? (i := 50) rfl)) (args := #[]))) (mvT hZ (hw _ (List.mem_of_getElem? (i := 51) rfl))) (by decide) (backOf (W := 0) (own_rmva1n2 l Z a0 hw [] a vs rs cv cr el0 el2 d0 d1 d2 sR h0 n0 Z0 P0 P1 P2 P3 P4 P5 P6 ge_a ge_vs ge_rs ne_a_vs ne_a_rs ne_vs_rs Xo SR) hZ (hw _ (List.mem_of_getElem? (i := 51) rfl)) (hw _ (List.mem_of_getElem? (i := 2) rfl)) (by decide) (by decide)) (g := (mkF m 7 #[.val (.ref a)] [(.int (1 : Int32)), (.ref a)])) rfl (by rw [hml]; rfl) (Steps.refl _) (a := a) (by rw [e2]; exact qa5x) qb5x (argsL := [(.int (1 : Int32))]) (rest := []) (lenOf own_pd2 rfl) rfl (by show 2 * 0 + _ ≤ _; exact Nat.le_of_eq rfl) (hb hby own_d11_7) (fun _ _ => ⟨rfl, e2, (by decide : 0 + 1 ≤ _), (by decide : 0 + 3 ≤ _)⟩)
  dsimp only [Pt.U, Pt.locs, Pt.cells, Pt.slots] at X5 l5 y5 z5 st5 hQ5
  subst l5 y5 z5
  obtain ⟨rrb1_14_5, rfl, N5q, Kq5, gz5_rb1_14, fq5_0, fq5_1, fq5_2, fq5_3, fq5_4, fq5_5, fq5_6, fq5_7, fq5_8, fq5_9, fq5_10⟩ := hQ5
  have N5 := Fr.app N0 N5q
  have ge5_rb1_14 : n0 ≤ rrb1_14_5 := Nat.le_trans Z0 gz5_rb1_14
  have bo5_rb1_14 : h0.size ≤ rrb1_14_5 := Nat.le_trans (Keep.refl h0 []).1 gz5_rb1_14
  have ne6 : a ≠ rrb1_14_5 := Nat.ne_of_lt (Nat.lt_of_lt_of_le P0.lt gz5_rb1_14)
  have ne7 : rs ≠ rrb1_14_5 := Nat.ne_of_lt (Nat.lt_of_lt_of_le P6.lt gz5_rb1_14)
  have ne8 : vs ≠ rrb1_14_5 := Nat.ne_of_lt (Nat.lt_of_lt_of_le P4.lt gz5_rb1_14)
  have Z5 : n0 ≤ T5.heap.size := Nat.le_trans Z0 Kq5.1
  have K5 : Keep h0 T5.heap [] := (Keep.refl h0 []).trans Kq5 (fun x hx => nomatch hx)
  have Xo5 := Xo.keep Kq5 all0
  have k9 : ∀ t, Steps p.tables e below (T5.setTop (mkF m 10 #[.val (.ref a)] [(.ref rrb1_14_5)])) t → Steps p.tables e below (s₁.setTop (entryFrame m #[(.ref a)] 1)) t := fun t k => k4 t (st5.trans k)
  obtain ⟨fs, hr, hrun, hended, hW, hsame⟩ := X5.leave (v := (some (.ref rrb1_14_5))) (fun h => by rw [Bd.returns] at h; cases h)
  refine ⟨_, _, k9 _ ?_, hrun, hended, _, _, rfl, ?_, ⟨_, rfl⟩, hW, hsame.mono (by decide) (by decide)⟩
  · exact retOut X5 hx Bd.returns rfl (Or.inr (Or.inr (Or.inr (Or.inr ⟨rfl, rfl, rfl⟩)))) (hb hby own_d11_10) hr
  · show own_Qpk2 Z a vs rs cv cr el0 el2 d0 d1 d2 sR h0 n0 _ T5.heap _
    exact ⟨rrb1_14_5, rfl, N5, K5, bo5_rb1_14, fq5_0, fq5_1, fq5_2, fq5_3, fq5_4, fq5_5, fq5_6, fq5_7, fq5_8, fq5_9, fq5_10⟩
theorem own_efpd2 (m : MethodId) (x0 : Addr) : entryFrame m #[(.ref x0)] 2 = mkF m 0 #[.val (.ref x0), .unset] [] := by first | (simp [entryFrame, mkF, argsToLocals, Value.category]; done) | rfl
def own_Qpd2 (Z : State) (a : Addr) (vs : Addr) (rs : Addr) (cv : ClassId) (cr : ClassId) (el0 : Value) (el2 : Value) (d0 : UInt64) (d1 : UInt64) (d2 : UInt64) (h0 : Heap) (n0 : Nat) (v : Option Value) (h : Heap) (L : List Loc) : Prop := v = some (.double d1) ∧ Fr n0 L ∧ Keep h0 h [a] ∧ Exa Z h a "com/example/reckoner/reckoner/OperandStack" ∧ Fld Z h a "com/example/reckoner/reckoner/OperandStack" "values" "[Lcom/example/reckoner/reckoner/Value;" (.ref vs) ∧ Fld Z h a "com/example/reckoner/reckoner/OperandStack" "reals" "[D" (.ref rs) ∧ Fld Z h a "com/example/reckoner/reckoner/OperandStack" "height" "I" (.int (1 : Int32)) ∧ Arv Z h vs cv (.object "com/example/reckoner/reckoner/Value") (3 : Int32) [el0, .null, el2] .null ∧ Ovr Z cv "com/example/reckoner/reckoner/Value" ∧ Arv Z h rs cr .double (3 : Int32) [(.double d0), (.double d1), (.double d2)] (.double (0 : UInt64))
set_option maxRecDepth 65536 in
set_option maxHeartbeats 40000000 in
theorem own_rmpd2 (l : Launch) (Z : State) (a0 : Array Value) (hw : ∀ d ∈ tables_1, d.before a0 Z = true) (ws : List Jvm.Cond) (a : Addr) (vs : Addr) (rs : Addr) (cv : ClassId) (cr : ClassId) (el0 : Value) (el2 : Value) (d0 : UInt64) (d1 : UInt64) (d2 : UInt64) (h0 : Heap) (n0 : Nat) (Z0 : n0 ≤ h0.size) (P0 : Exa Z h0 a "com/example/reckoner/reckoner/OperandStack") (P1 : Fld Z h0 a "com/example/reckoner/reckoner/OperandStack" "values" "[Lcom/example/reckoner/reckoner/Value;" (.ref vs)) (P2 : Fld Z h0 a "com/example/reckoner/reckoner/OperandStack" "reals" "[D" (.ref rs)) (P3 : Fld Z h0 a "com/example/reckoner/reckoner/OperandStack" "height" "I" (.int (2 : Int32))) (P4 : Arv Z h0 vs cv (.object "com/example/reckoner/reckoner/Value") (3 : Int32) [el0, .null, el2] .null) (P5 : Ovr Z cv "com/example/reckoner/reckoner/Value") (P6 : Arv Z h0 rs cr .double (3 : Int32) [(.double d0), (.double d1), (.double d2)] (.double (0 : UInt64))) (ge_a : n0 ≤ a) (ge_vs : n0 ≤ vs) (ge_rs : n0 ≤ rs) (ne_a_vs : a ≠ vs) (ne_a_rs : a ≠ rs) (ne_vs_rs : vs ≠ rs) :
    MetFree l (⟨"com/example/reckoner/reckoner/OperandStack", "popDouble", "()D"⟩ : MethodName) (head1 (Jvm.Cond.code (⟨"com/example/reckoner/reckoner/OperandStack", "popDouble", "()D"⟩ : MethodName) prog_48_method_5_code 2 (some .double) :: ws) ({ frames := 0, cells := 0, slots := 0, locals := 0 } : Room)) (fun aa U => aa = #[(.ref a)] ∧ Z.Warmed39 U.vm ∧ U.heap = h0) (fun _ _ _ _ _ => True) (fun _ U o U' => ∃ v L, o = .returned v ∧ own_Qpd2 Z a vs rs cv cr el0 el2 d0 d1 d2 h0 n0 v U'.heap L ∧ FrameEnd U o U' L ({ frames := 0, cells := 0, slots := 0, locals := 0 } : Room).cells ({ frames := 0, cells := 0, slots := 0, locals := 0 } : Room).slots) := by
  refine MetFree.of_bodySF (plainFor_of_name own_pn1) hisR ?_
  intro p e s m args below meth c s₁ Bd hml0 hP hK
  obtain ⟨rfl, hZ, hh⟩ := hP
  have hx := Bd.exec
  have hby := Bd.bytes
  have hml : c.maxLocals = 2 := hml0
  have hown : s.vm.findClass "com/example/reckoner/reckoner/OperandStack" = some m.cls := findClass_of_methodNamed Bd.named
  have hnm := (name_of_methodNamed Bd.named Bd.method).1
  have X0 : Stand p l e ({ frames := 0, cells := 0, slots := 0, locals := 0 } : Room) s m #[(.ref a)] below meth c s₁ [] 0 0 := Stand.of_body Bd
  have e0 : s₁.heap = h0 := by rw [← hh, Bd.state]; rfl
  have N0 := Fr.nil n0
  have pre0 : ∀ t, Steps p.tables e below (s₁.setTop (mkF m 0 #[.val (.ref a), .unset] [])) t → Steps p.tables e below (s₁.setTop (entryFrame m #[(.ref a)] 2)) t := fun t k => castTop (own_efpd2 m a) k
  have k1 : ∀ t, Steps p.tables e below (s₁.setTop (mkF m 2 #[.val (.ref a), .unset] [(.ref a), (.ref a)])) t → Steps p.tables e below (s₁.setTop (entryFrame m #[(.ref a)] 2)) t := by
    intro t k
    refine pre0 t ?_
    show Steps p.tables e below (s₁.setTop (mkF m 0 #[.val (.ref a), .unset] [])) _
    refine XS.aloadN X0.here hx rfl (hb hby own_d15_0) rfl rfl ?_
    show Steps p.tables e below (s₁.setTop (mkF m 1 #[.val (.ref a), .unset] [(.ref a)])) _
    refine XS.dup X0.here hx rfl (hb hby own_d15_1) rfl rfl ?_
    exact k
  obtain ⟨T2, X2, e2, st2⟩ := getF X0 hx hZ hown (host := "") (Or.inl (hw _ (List.mem_of_getElem? (i := 40) rfl))) Via.refl e0 P3 (g := (mkF m 2 #[.val (.ref a), .unset] [(.ref a), (.ref a)])) rfl rfl (hb hby own_d15_2)
  have k3 : ∀ t, Steps p.tables e below (T2.setTop (mkF m 5 #[.val (.ref a), .unset] [(.int (2 : Int32)), (.ref a)])) t → Steps p.tables e below (s₁.setTop (entryFrame m #[(.ref a)] 2)) t := fun t k => k1 t (st2 t k)
  have k4 : ∀ t, Steps p.tables e below (T2.setTop (mkF m 7 #[.val (.ref a), .unset] [(.int (1 : Int32)), (.ref a)])) t → Steps p.tables e below (s₁.setTop (entryFrame m #[(.ref a)] 2)) t := by
    intro t k
    refine k3 t ?_
    show Steps p.tables e below (T2.setTop (mkF m 5 #[.val (.ref a), .unset] [(.int (2 : Int32)), (.ref a)])) _
    refine XS.iconst X2.here hx rfl (hb hby own_d15_5) ?_
    show Steps p.tables e below (T2.setTop (mkF m 6 #[.val (.ref a), .unset] [(.int (1 : Int32)), (.int (2 : Int32)), (.ref a)])) _
    refine XS.isub X2.here hx rfl (hb hby own_d15_6) rfl ?_
    exact k
  obtain ⟨T5, h5, X5, e5, W5, st5⟩ := putF X2 hx hZ hown (host := "") (Or.inl (hw _ (List.mem_of_getElem? (i := 40) rfl))) Via.refl e2 P3 P0 (Or.inl (hw _ (List.mem_of_getElem? (i := 41) rfl))) (hw _ (List.mem_of_getElem? (i := 1) rfl)) (ty := .int) (by decide) rfl rfl (g := (mkF m 7 #[.val (.ref a), .unset] [(.int (1 : Int32)), (.ref a)])) rfl rfl (hb hby own_d15_7)
  have f6 := P0.wr W5
  have f7 := P1.other W5 (Or.inr (slot_ne (Or.inr (hw _ (List.mem_of_getElem? (i := 12) rfl))) (Or.inl (hw _ (List.mem_of_getElem? (i := 41) rfl))) (by decide) (t := (.array (.object "com/example/reckoner/reckoner/Value"))) (t' := .int) (by decide) (by decide)))
  have f8 := P2.other W5 (Or.inr (slot_ne (Or.inr (hw _ (List.mem_of_getElem? (i := 15) rfl))) (Or.inl (hw _ (List.mem_of_getElem? (i := 41) rfl))) (by decide) (t := (.array .double)) (t' := .int) (by decide) (by decide)))
  have f9 := P4.other W5 (Ne.symm ne_a_vs)
  have f10 := P6.other W5 (Ne.symm ne_a_rs)
  have f11 := P3.same W5
  have N5 := Fr.snoc X5 N0 ge_a
  have K5 : Keep h0 h5 [a] := (Keep.refl h0 [a]).wr W5 (Or.inl (List.mem_of_getElem? (i := 0) rfl))
  have Z5 : n0 ≤ h5.size := Nat.le_trans Z0 (Keep.of_wr W5).1
  have k12 : ∀ t, Steps p.tables e below (T5.setTop (mkF m 10 #[.val (.ref a), .unset] [])) t → Steps p.tables e below (s₁.setTop (entryFrame m #[(.ref a)] 2)) t := fun t k => k4 t (st5 t k)
  have k13 : ∀ t, Steps p.tables e below (T5.setTop (mkF m 11 #[.val (.ref a), .unset] [(.ref a)])) t → Steps p.tables e below (s₁.setTop (entryFrame m #[(.ref a)] 2)) t := by
    intro t k
    refine k12 t ?_
    show Steps p.tables e below (T5.setTop (mkF m 10 #[.val (.ref a), .unset] [])) _
    refine XS.aloadN X5.here hx rfl (hb hby own_d15_10) rfl rfl ?_
    exact k
  obtain ⟨T14, X14, e14, st14⟩ := getF X5 hx hZ hown (host := "") (Or.inl (hw _ (List.mem_of_getElem? (i := 11) rfl))) Via.refl e5 f7 (g := (mkF m 11 #[.val (.ref a), .unset] [(.ref a)])) rfl rfl (hb hby own_d15_11)
  have k15 : ∀ t, Steps p.tables e below (T14.setTop (mkF m 14 #[.val (.ref a), .unset] [(.ref vs)])) t → Steps p.tables e below (s₁.setTop (entryFrame m #[(.ref a)] 2)) t := fun t k => k13 t (st14 t k)
  have k16 : ∀ t, Steps p.tables e below (T14.setTop (mkF m 15 #[.val (.ref a), .unset] [(.ref a), (.ref vs)])) t → Steps p.tables e below (s₁.setTop (entryFrame m #[(.ref a)] 2)) t := by
    intro t k
    refine k15 t ?_
    show Steps p.tables e below (T14.setTop (mkF m 14 #[.val (.ref a), .unset] [(.ref vs)])) _
    refine XS.aloadN X14.here hx rfl (hb hby own_d15_14) rfl rfl ?_
    exact k
  obtain ⟨T17, X17, e17, st17⟩ := getF X14 hx hZ hown (host := "") (Or.inl (hw _ (List.mem_of_getElem? (i := 40) rfl))) Via.refl e14 f11 (g := (mkF m 15 #[.val (.ref a), .unset] [(.ref a), (.ref vs)])) rfl rfl (hb hby own_d15_15)
  have k18 : ∀ t, Steps p.tables e below (T17.setTop (mkF m 18 #[.val (.ref a), .unset] [(.int (1 : Int32)), (.ref vs)])) t → Steps p.tables e below (s₁.setTop (entryFrame m #[(.ref a)] 2)) t := fun t k => k16 t (st17 t k)
  obtain ⟨cl19, Ar19, qa19, Sa19, Na19, Ha19, Ga19⟩ := id f9
  have hin20 : ¬ ((1 : Int32) < 0 ∨ cl19.slots.size ≤ ((1 : Int32)).toNatClampNeg) := inb_of Sa19 ⟨by decide, by decide⟩
  have hat21 : cl19.slots[((1 : Int32)).toNatClampNeg]? = some .null := Ha19 1 (Nat.lt_of_not_le fun q => hin20 (Or.inr q))
  have k22 : ∀ t, Steps p.tables e below (T17.setTop (mkF m 32 #[.val (.ref a), .val .null] [(.ref a)])) t → Steps p.tables e below (s₁.setTop (entryFrame m #[(.ref a)] 2)) t := by
    intro t k
    refine k18 t ?_
    show Steps p.tables e below (T17.setTop (mkF m 18 #[.val (.ref a), .unset] [(.int (1 : Int32)), (.ref vs)])) _
    refine X17.aaload hx (j := (1 : Int32)) (v := .null) (by rw [e17]; exact Ar19.1) (State.isArrayOf_alike hZ.alike Ar19.2.1) rfl Ar19.2.2 hin20 hat21 (g := (mkF m 18 #[.val (.ref a), .unset] [(.int (1 : Int32)), (.ref vs)])) rfl rfl (hb hby own_d15_18) _ ?_
    show Steps p.tables e below (T17.setTop (mkF m 19 #[.val (.ref a), .unset] [.null])) _
    refine XS.astoreN X17.here hx rfl (hb hby own_d15_19) rfl rfl (l' := #[.val (.ref a), .val .null]) rfl ?_
    show Steps p.tables e below (T17.setTop (mkF m 20 #[.val (.ref a), .val .null] [])) _
    refine XS.aloadN X17.here hx rfl (hb hby own_d15_20) rfl rfl ?_
    show Steps p.tables e below (T17.setTop (mkF m 21 #[.val (.ref a), .val .null] [.null])) _
    refine XS.ifnullYes X17.here hx rfl (pc0 := 21) (pc' := 31) rfl (hb hby own_d15_21) rfl (by decide) (by decide) ?_
    show Steps p.tables e below (T17.setTop (mkF m 31 #[.val (.ref a), .val .null] [])) _
    refine XS.aloadN X17.here hx rfl (hb hby own_d15_31) rfl rfl ?_
    exact k
  obtain ⟨T23, X23, e23, st23⟩ := getF X17 hx hZ hown (host := "") (Or.inl (hw _ (List.mem_of_getElem? (i := 14) rfl))) Via.refl e17 f8 (g := (mkF m 32 #[.val (.ref a), .val .null] [(.ref a)])) rfl rfl (hb hby own_d15_32)
  have k24 : ∀ t, Steps p.tables e below (T23.setTop (mkF m 35 #[.val (.ref a), .val .null] [(.ref rs)])) t → Steps p.tables e below (s₁.setTop (entryFrame m #[(.ref a)] 2)) t := fun t k => k22 t (st23 t k)
  have k25 : ∀ t, Steps p.tables e below (T23.setTop (mkF m 36 #[.val (.ref a), .val .null] [(.ref a), (.ref rs)])) t → Steps p.tables e below (s₁.setTop (entryFrame m #[(.ref a)] 2)) t := by
    intro t k
    refine k24 t ?_
    show Steps p.tables e below (T23.setTop (mkF m 35 #[.val (.ref a), .val .null] [(.ref rs)])) _
    refine XS.aloadN X23.here hx rfl (hb hby own_d15_35) rfl rfl ?_
    exact k
  obtain ⟨T26, X26, e26, st26⟩ := getF X23 hx hZ hown (host := "") (Or.inl (hw _ (List.mem_of_getElem? (i := 40) rfl))) Via.refl e23 f11 (g := (mkF m 36 #[.val (.ref a), .val .null] [(.ref a), (.ref rs)])) rfl rfl (hb hby own_d15_36)
  have k27 : ∀ t, Steps p.tables e below (T26.setTop (mkF m 39 #[.val (.ref a), .val .null] [(.int (1 : Int32)), (.ref rs)])) t → Steps p.tables e below (s₁.setTop (entryFrame m #[(.ref a)] 2)) t := fun t k => k25 t (st26 t k)
  obtain ⟨cl28, Ar28, qa28, Sa28, Na28, Ha28, Ga28⟩ := id f10
  have hin29 : ¬ ((1 : Int32) < 0 ∨ cl28.slots.size ≤ ((1 : Int32)).toNatClampNeg) := inb_of Sa28 ⟨by decide, by decide⟩
  have hat30 : cl28.slots[((1 : Int32)).toNatClampNeg]? = some (.double d1) := Ha28 1 (Nat.lt_of_not_le fun q => hin29 (Or.inr q))
  have k31 : ∀ t, Steps p.tables e below (T26.setTop (mkF m 40 #[.val (.ref a), .val .null] [(.double d1)])) t → Steps p.tables e below (s₁.setTop (entryFrame m #[(.ref a)] 2)) t := by
    intro t k
    refine k27 t ?_
    show Steps p.tables e below (T26.setTop (mkF m 39 #[.val (.ref a), .val .null] [(.int (1 : Int32)), (.ref rs)])) _
    refine X26.daload hx (j := (1 : Int32)) (v := (.double d1)) (by rw [e26]; exact Ar28.1) (State.isArrayOf_alike hZ.alike Ar28.2.1) Ar28.2.2 hin29 hat30 (g := (mkF m 39 #[.val (.ref a), .val .null] [(.int (1 : Int32)), (.ref rs)])) rfl rfl (hb hby own_d15_39) _ ?_
    exact k
  obtain ⟨fs, hr, hrun, hended, hW, hsame⟩ := X26.leave (v := (some (.double d1))) (fun h => by rw [Bd.returns] at h; cases h)
  refine ⟨_, _, k31 _ ?_, hrun, hended, _, _, rfl, ?_, ⟨_, rfl⟩, hW, hsame.mono (by decide) (by decide)⟩
  · exact retOut X26 hx Bd.returns rfl (Or.inr (Or.inr (Or.inl ⟨rfl, rfl, _, rfl⟩))) (hb hby own_d15_40) hr
  · show own_Qpd2 Z a vs rs cv cr el0 el2 d0 d1 d2 h0 n0 _ T26.heap _
    rw [e26]
    exact ⟨rfl, N5, K5, f6, f7, f8, f11, f9, P5, f10⟩
theorem own_d8_0 : decode prog_48_method_3_code 0 = .ok (.aload_n 0, 1) := by decide +kernel
theorem own_d8_1 : decode prog_48_method_3_code 1 = .ok (.getfield 9, 3) := by decide +kernel
theorem own_d8_4 : decode prog_48_method_3_code 4 = .ok (.aload_n 0, 1) := by decide +kernel
theorem own_d8_5 : decode prog_48_method_3_code 5 = .ok (.getfield 19, 3) := by decide +kernel
theorem own_d8_8 : decode prog_48_method_3_code 8 = .ok (.aconst_null, 1) := by decide +kernel
theorem own_d8_9 : decode prog_48_method_3_code 9 = .ok (.aastore, 1) := by decide +kernel
theorem own_d8_10 : decode prog_48_method_3_code 10 = .ok (.aload_n 0, 1) := by decide +kernel
theorem own_d8_11 : decode prog_48_method_3_code 11 = .ok (.getfield 15, 3) := by decide +kernel
theorem own_d8_14 : decode prog_48_method_3_code 14 = .ok (.aload_n 0, 1) := by decide +kernel
theorem own_d8_15 : decode prog_48_method_3_code 15 = .ok (.dup, 1) := by decide +kernel
theorem own_d8_16 : decode prog_48_method_3_code 16 = .ok (.getfield 19, 3) := by decide +kernel
theorem own_d8_19 : decode prog_48_method_3_code 19 = .ok (.dup_x1, 1) := by decide +kernel
theorem own_d8_20 : decode prog_48_method_3_code 20 = .ok (.iconst 1, 1) := by decide +kernel
theorem own_d8_21 : decode prog_48_method_3_code 21 = .ok (.iadd, 1) := by decide +kernel
theorem own_d8_22 : decode prog_48_method_3_code 22 = .ok (.putfield 19, 3) := by decide +kernel
theorem own_d8_25 : decode prog_48_method_3_code 25 = .ok (.dload_n 1, 1) := by decide +kernel
theorem own_d8_26 : decode prog_48_method_3_code 26 = .ok (.dastore, 1) := by decide +kernel
theorem own_d8_27 : decode prog_48_method_3_code 27 = .ok (.return_, 1) := by decide +kernel
theorem own_efpr0 (m : MethodId) (x0 : Addr) (x1 : UInt64) : entryFrame m #[(.ref x0), (.double x1)] 3 = mkF m 0 #[.val (.ref x0), .val (.double x1), .second] [] := by first | (simp [entryFrame, mkF, argsToLocals, Value.category]; done) | rfl
def own_Qpr0 (Z : State) (a : Addr) (p1 : UInt64) (vs : Addr) (rs : Addr) (cv : ClassId) (cr : ClassId) (el0 : Value) (el1 : Value) (el2 : Value) (d0 : UInt64) (d1 : UInt64) (d2 : UInt64) (h0 : Heap) (n0 : Nat) (v : Option Value) (h : Heap) (L : List Loc) : Prop := v = none ∧ Fr n0 L ∧ Keep h0 h [a, vs, rs] ∧ Exa Z h a "com/example/reckoner/reckoner/OperandStack" ∧ Fld Z h a "com/example/reckoner/reckoner/OperandStack" "values" "[Lcom/example/reckoner/reckoner/Value;" (.ref vs) ∧ Fld Z h a "com/example/reckoner/reckoner/OperandStack" "reals" "[D" (.ref rs) ∧ Fld Z h a "com/example/reckoner/reckoner/OperandStack" "height" "I" (.int (1 : Int32)) ∧ Arv Z h vs cv (.object "com/example/reckoner/reckoner/Value") (3 : Int32) [.null, el1, el2] .null ∧ Ovr Z cv "com/example/reckoner/reckoner/Value" ∧ Arv Z h rs cr .double (3 : Int32) [(.double p1), (.double d1), (.double d2)] (.double (0 : UInt64))
set_option maxRecDepth 65536 in
set_option maxHeartbeats 40000000 in
theorem own_rmpr0 (l : Launch) (Z : State) (a0 : Array Value) (hw : ∀ d ∈ tables_1, d.before a0 Z = true) (ws : List Jvm.Cond) (a : Addr) (p1 : UInt64) (vs : Addr) (rs : Addr) (cv : ClassId) (cr : ClassId) (el0 : Value) (el1 : Value) (el2 : Value) (d0 : UInt64) (d1 : UInt64) (d2 : UInt64) (h0 : Heap) (n0 : Nat) (Z0 : n0 ≤ h0.size) (P0 : Exa Z h0 a "com/example/reckoner/reckoner/OperandStack") (P1 : Fld Z h0 a "com/example/reckoner/reckoner/OperandStack" "values" "[Lcom/example/reckoner/reckoner/Value;" (.ref vs)) (P2 : Fld Z h0 a "com/example/reckoner/reckoner/OperandStack" "reals" "[D" (.ref rs)) (P3 : Fld Z h0 a "com/example/reckoner/reckoner/OperandStack" "height" "I" (.int (0 : Int32))) (P4 : Arv Z h0 vs cv (.object "com/example/reckoner/reckoner/Value") (3 : Int32) [el0, el1, el2] .null) (P5 : Ovr Z cv "com/example/reckoner/reckoner/Value") (P6 : Arv Z h0 rs cr .double (3 : Int32) [(.double d0), (.double d1), (.double d2)] (.double (0 : UInt64))) (ge_a : n0 ≤ a) (ge_vs : n0 ≤ vs) (ge_rs : n0 ≤ rs) (ne_a_vs : a ≠ vs) (ne_a_rs : a ≠ rs) (ne_vs_rs : vs ≠ rs) :
    MetFree l (⟨"com/example/reckoner/reckoner/OperandStack", "pushReal", "(D)V"⟩ : MethodName) (head1 (Jvm.Cond.code (⟨"com/example/reckoner/reckoner/OperandStack", "pushReal", "(D)V"⟩ : MethodName) prog_48_method_3_code 3 none :: ws) ({ frames := 0, cells := 0, slots := 0, locals := 0 } : Room)) (fun aa U => aa = #[(.ref a), (.double p1)] ∧ Z.Warmed39 U.vm ∧ U.heap = h0) (fun _ _ _ _ _ => True) (fun _ U o U' => ∃ v L, o = .returned v ∧ own_Qpr0 Z a p1 vs rs cv cr el0 el1 el2 d0 d1 d2 h0 n0 v U'.heap L ∧ FrameEnd U o U' L ({ frames := 0, cells := 0, slots := 0, locals := 0 } : Room).cells ({ frames := 0, cells := 0, slots := 0, locals := 0 } : Room).slots) := by
  refine MetFree.of_bodySF (plainFor_of_name own_pn1) hisR ?_
  intro p e s m args below meth c s₁ Bd hml0 hP hK
  obtain ⟨rfl, hZ, hh⟩ := hP
  have hx := Bd.exec
  have hby := Bd.bytes
  have hml : c.maxLocals = 3 := hml0
  have hown : s.vm.findClass "com/example/reckoner/reckoner/OperandStack" = some m.cls := findClass_of_methodNamed Bd.named
  have hnm := (name_of_methodNamed Bd.named Bd.method).1
  have X0 : Stand p l e ({ frames := 0, cells := 0, slots := 0, locals := 0 } : Room) s m #[(.ref a), (.double p1)] below meth c s₁ [] 0 0 := Stand.of_body Bd
  have e0 : s₁.heap = h0 := by rw [← hh, Bd.state]; rfl
  have N0 := Fr.nil n0
  have pre0 : ∀ t, Steps p.tables e below (s₁.setTop (mkF m 0 #[.val (.ref a), .val (.double p1), .second] [])) t → Steps p.tables e below (s₁.setTop (entryFrame m #[(.ref a), (.double p1)] 3)) t := fun t k => castTop (own_efpr0 m a p1) k
  have k1 : ∀ t, Steps p.tables e below (s₁.setTop (mkF m 1 #[.val (.ref a), .val (.double p1), .second] [(.ref a)])) t → Steps p.tables e below (s₁.setTop (entryFrame m #[(.ref a), (.double p1)] 3)) t := by
    intro t k
    refine pre0 t ?_
    show Steps p.tables e below (s₁.setTop (mkF m 0 #[.val (.ref a), .val (.double p1), .second] [])) _
    refine XS.aloadN X0.here hx rfl (hb hby own_d8_0) rfl rfl ?_
    exact k
  obtain ⟨T2, X2, e2, st2⟩ := getF X0 hx hZ hown (host := "") (Or.inl (hw _ (List.mem_of_getElem? (i := 11) rfl))) Via.refl e0 P1 (g := (mkF m 1 #[.val (.ref a), .val (.double p1), .second] [(.ref a)])) rfl rfl (hb hby own_d8_1)
  have k3 : ∀ t, Steps p.tables e below (T2.setTop (mkF m 4 #[.val (.ref a), .val (.double p1), .second] [(.ref vs)])) t → Steps p.tables e below (s₁.setTop (entryFrame m #[(.ref a), (.double p1)] 3)) t := fun t k => k1 t (st2 t k)
  have k4 : ∀ t, Steps p.tables e below (T2.setTop (mkF m 5 #[.val (.ref a), .val (.double p1), .second] [(.ref a), (.ref vs)])) t → Steps p.tables e below (s₁.setTop (entryFrame m #[(.ref a), (.double p1)] 3)) t := by
    intro t k
    refine k3 t ?_
    show Steps p.tables e below (T2.setTop (mkF m 4 #[.val (.ref a), .val (.double p1), .second] [(.ref vs)])) _
    refine XS.aloadN X2.here hx rfl (hb hby own_d8_4) rfl rfl ?_
    exact k
  obtain ⟨T5, X5, e5, st5⟩ := getF X2 hx hZ hown (host := "") (Or.inl (hw _ (List.mem_of_getElem? (i := 40) rfl))) Via.refl e2 P3 (g := (mkF m 5 #[.val (.ref a), .val (.double p1), .second] [(.ref a), (.ref vs)])) rfl rfl (hb hby own_d8_5)
  have k6 : ∀ t, Steps p.tables e below (T5.setTop (mkF m 8 #[.val (.ref a), .val (.double p1), .second] [(.int (0 : Int32)), (.ref vs)])) t → Steps p.tables e below (s₁.setTop (entryFrame m #[(.ref a), (.double p1)] 3)) t := fun t k => k4 t (st5 t k)
  have k7 : ∀ t, Steps p.tables e below (T5.setTop (mkF m 9 #[.val (.ref a), .val (.double p1), .second] [.null, (.int (0 : Int32)), (.ref vs)])) t → Steps p.tables e below (s₁.setTop (entryFrame m #[(.ref a), (.double p1)] 3)) t := by
    intro t k
    refine k6 t ?_
    show Steps p.tables e below (T5.setTop (mkF m 8 #[.val (.ref a), .val (.double p1), .second] [(.int (0 : Int32)), (.ref vs)])) _
    refine XS.aconstNull X5.here hx rfl (hb hby own_d8_8) ?_
    exact k
  obtain ⟨cl8, Ar8, qa8, Sa8, Na8, Ha8, Ga8⟩ := id P4
  have hin9 : ¬ ((0 : Int32) < 0 ∨ cl8.slots.size ≤ ((0 : Int32)).toNatClampNeg) := inb_of Sa8 ⟨by decide, by decide⟩
  obtain ⟨T10, h10, X10, e10, W10, st10⟩ := stR X5 hx hZ e5 Ar8 (j := (0 : Int32)) hin9 rfl (Or.inl rfl) (g := (mkF m 9 #[.val (.ref a), .val (.double p1), .second] [.null, (.int (0 : Int32)), (.ref vs)])) rfl rfl (hb hby own_d8_9)
  have f11 := P0.wr W10
  have f12 := P1.other W10 (Or.inl ne_a_vs)
  have f13 := P2.other W10 (Or.inl ne_a_vs)
  have f14 := P3.other W10 (Or.inl ne_a_vs)
  have f15 := P6.other W10 (Ne.symm ne_vs_rs)
  have V10 : Arv Z h10 vs cv (.object "com/example/reckoner/reckoner/Value") (3 : Int32) [.null, el1, el2] .null := Arv.set Ar8 qa8 Sa8 Na8 Ha8 Ga8 rfl W10 0 rfl (Nat.le_of_ble_eq_true rfl)
  have N10 := Fr.snoc X10 N0 ge_vs
  have K10 : Keep h0 h10 [a, vs, rs] := (Keep.refl h0 [a, vs, rs]).wr W10 (Or.inl (List.mem_of_getElem? (i := 1) rfl))
  have Z10 : n0 ≤ h10.size := Nat.le_trans Z0 (Keep.of_wr W10).1
  have k16 : ∀ t, Steps p.tables e below (T10.setTop (mkF m 10 #[.val (.ref a), .val (.double p1), .second] [])) t → Steps p.tables e below (s₁.setTop (entryFrame m #[(.ref a), (.double p1)] 3)) t := fun t k => k7 t (st10 t k)
  have k17 : ∀ t, Steps p.tables e below (T10.setTop (mkF m 11 #[.val (.ref a), .val (.double p1), .second] [(.ref a)])) t → Steps p.tables e below (s₁.setTop (entryFrame m #[(.ref a), (.double p1)] 3)) t := by
    intro t k
    refine k16 t ?_
    show Steps p.tables e below (T10.setTop (mkF m 10 #[.val (.ref a), .val (.double p1), .second] [])) _
    refine XS.aloadN X10.here hx rfl (hb hby own_d8_10) rfl rfl ?_
    exact k
  obtain ⟨T18, X18, e18, st18⟩ := getF X10 hx hZ hown (host := "") (Or.inl (hw _ (List.mem_of_getElem? (i := 14) rfl))) Via.refl e10 f13 (g := (mkF m 11 #[.val (.ref a), .val (.double p1), .second] [(.ref a)])) rfl rfl (hb hby own_d8_11)
  have k19 : ∀ t, Steps p.tables e below (T18.setTop (mkF m 14 #[.val (.ref a), .val (.double p1), .second] [(.ref rs)])) t → Steps p.tables e below (s₁.setTop (entryFrame m #[(.ref a), (.double p1)] 3)) t := fun t k => k17 t (st18 t k)
  have k20 : ∀ t, Steps p.tables e below (T18.setTop (mkF m 16 #[.val (.ref a), .val (.double p1), .second] [(.ref a), (.ref a), (.ref rs)])) t → Steps p.tables e below (s₁.setTop (entryFrame m #[(.ref a), (.double p1)] 3)) t := by
    intro t k
    refine k19 t ?_
    show Steps p.tables e below (T18.setTop (mkF m 14 #[.val (.ref a), .val (.double p1), .second] [(.ref rs)])) _
    refine XS.aloadN X18.here hx rfl (hb hby own_d8_14) rfl rfl ?_
    show Steps p.tables e below (T18.setTop (mkF m 15 #[.val (.ref a), .val (.double p1), .second] [(.ref a), (.ref rs)])) _
    refine XS.dup X18.here hx rfl (hb hby own_d8_15) rfl rfl ?_
    exact k
  obtain ⟨T21, X21, e21, st21⟩ := getF X18 hx hZ hown (host := "") (Or.inl (hw _ (List.mem_of_getElem? (i := 40) rfl))) Via.refl e18 f14 (g := (mkF m 16 #[.val (.ref a), .val (.double p1), .second] [(.ref a), (.ref a), (.ref rs)])) rfl rfl (hb hby own_d8_16)
  have k22 : ∀ t, Steps p.tables e below (T21.setTop (mkF m 19 #[.val (.ref a), .val (.double p1), .second] [(.int (0 : Int32)), (.ref a), (.ref rs)])) t → Steps p.tables e below (s₁.setTop (entryFrame m #[(.ref a), (.double p1)] 3)) t := fun t k => k20 t (st21 t k)
  have k23 : ∀ t, Steps p.tables e below (T21.setTop (mkF m 22 #[.val (.ref a), .val (.double p1), .second] [(.int (1 : Int32)), (.ref a), (.int (0 : Int32)), (.ref rs)])) t → Steps p.tables e below (s₁.setTop (entryFrame m #[(.ref a), (.double p1)] 3)) t := by
    intro t k
    refine k22 t ?_
    show Steps p.tables e below (T21.setTop (mkF m 19 #[.val (.ref a), .val (.double p1), .second] [(.int (0 : Int32)), (.ref a), (.ref rs)])) _
    refine XS.dupX1 X21.here hx rfl (hb hby own_d8_19) rfl rfl rfl ?_
    show Steps p.tables e below (T21.setTop (mkF m 20 #[.val (.ref a), .val (.double p1), .second] [(.int (0 : Int32)), (.ref a), (.int (0 : Int32)), (.ref rs)])) _
    refine XS.iconst X21.here hx rfl (hb hby own_d8_20) ?_
    show Steps p.tables e below (T21.setTop (mkF m 21 #[.val (.ref a), .val (.double p1), .second] [(.int (1 : Int32)), (.int (0 : Int32)), (.ref a), (.int (0 : Int32)), (.ref rs)])) _
    refine XS.iadd X21.here hx rfl (hb hby own_d8_21) rfl ?_
    exact k
  obtain ⟨T24, h24, X24, e24, W24, st24⟩ := putF X21 hx hZ hown (host := "") (Or.inl (hw _ (List.mem_of_getElem? (i := 40) rfl))) Via.refl e21 f14 f11 (Or.inl (hw _ (List.mem_of_getElem? (i := 41) rfl))) (hw _ (List.mem_of_getElem? (i := 1) rfl)) (ty := .int) (by decide) rfl rfl (g := (mkF m 22 #[.val (.ref a), .val (.double p1), .second] [(.int (1 : Int32)), (.ref a), (.int (0 : Int32)), (.ref rs)])) rfl rfl (hb hby own_d8_22)
  have f25 := f11.wr W24
  have f26 := f12.other W24 (Or.inr (slot_ne (Or.inr (hw _ (List.mem_of_getElem? (i := 12) rfl))) (Or.inl (hw _ (List.mem_of_getElem? (i := 41) rfl))) (by decide) (t := (.array (.object "com/example/reckoner/reckoner/Value"))) (t' := .int) (by decide) (by decide)))
  have f27 := f13.other W24 (Or.inr (slot_ne (Or.inr (hw _ (List.mem_of_getElem? (i := 15) rfl))) (Or.inl (hw _ (List.mem_of_getElem? (i := 41) rfl))) (by decide) (t := (.array .double)) (t' := .int) (by decide) (by decide)))
  have f28 := V10.other W24 (Ne.symm ne_a_vs)
  have f29 := f15.other W24 (Ne.symm ne_a_rs)
  have f30 := f14.same W24
  have N24 := Fr.snoc X24 N10 ge_a
  have K24 : Keep h0 h24 [a, vs, rs] := K10.wr W24 (Or.inl (List.mem_of_getElem? (i := 0) rfl))
  have Z24 : n0 ≤ h24.size := Nat.le_trans Z10 (Keep.of_wr W24).1
  have k31 : ∀ t, Steps p.tables e below (T24.setTop (mkF m 25 #[.val (.ref a), .val (.double p1), .second] [(.int (0 : Int32)), (.ref rs)])) t → Steps p.tables e below (s₁.setTop (entryFrame m #[(.ref a), (.double p1)] 3)) t := fun t k => k23 t (st24 t k)
  have k32 : ∀ t, Steps p.tables e below (T24.setTop (mkF m 26 #[.val (.ref a), .val (.double p1), .second] [(.double p1), (.int (0 : Int32)), (.ref rs)])) t → Steps p.tables e below (s₁.setTop (entryFrame m #[(.ref a), (.double p1)] 3)) t := by
    intro t k
    refine k31 t ?_
    show Steps p.tables e below (T24.setTop (mkF m 25 #[.val (.ref a), .val (.double p1), .second] [(.int (0 : Int32)), (.ref rs)])) _
    refine XS.dloadN X24.here hx rfl (hb hby own_d8_25) rfl ?_
    exact k
  obtain ⟨cl33, Ar33, qa33, Sa33, Na33, Ha33, Ga33⟩ := id f29
  have hin34 : ¬ ((0 : Int32) < 0 ∨ cl33.slots.size ≤ ((0 : Int32)).toNatClampNeg) := inb_of Sa33 ⟨by decide, by decide⟩
  obtain ⟨T35, h35, X35, e35, W35, st35⟩ := stD X24 hx hZ e24 Ar33 (j := (0 : Int32)) hin34 (g := (mkF m 26 #[.val (.ref a), .val (.double p1), .second] [(.double p1), (.int (0 : Int32)), (.ref rs)])) rfl rfl (hb hby own_d8_26)
  have f36 := f25.wr W35
  have f37 := f26.other W35 (Or.inl ne_a_rs)
  have f38 := f27.other W35 (Or.inl ne_a_rs)
  have f39 := f30.other W35 (Or.inl ne_a_rs)
  have f40 := f28.other W35 ne_vs_rs
  have V35 : Arv Z h35 rs cr .double (3 : Int32) [(.double p1), (.double d1), (.double d2)] (.double (0 : UInt64)) := Arv.set Ar33 qa33 Sa33 Na33 Ha33 Ga33 rfl W35 0 rfl (Nat.le_of_ble_eq_true rfl)
  have N35 := Fr.snoc X35 N24 ge_rs
  have K35 : Keep h0 h35 [a, vs, rs] := K24.wr W35 (Or.inl (List.mem_of_getElem? (i := 2) rfl))
  have Z35 : n0 ≤ h35.size := Nat.le_trans Z24 (Keep.of_wr W35).1
  have k41 : ∀ t, Steps p.tables e below (T35.setTop (mkF m 27 #[.val (.ref a), .val (.double p1), .second] [])) t → Steps p.tables e below (s₁.setTop (entryFrame m #[(.ref a), (.double p1)] 3)) t := fun t k => k32 t (st35 t k)
  obtain ⟨fs, hr, hrun, hended, hW, hsame⟩ := X35.leave (v := none) (fun _ => rfl)
  refine ⟨_, _, k41 _ ?_, hrun, hended, _, _, rfl, ?_, ⟨_, rfl⟩, hW, hsame.mono (by decide) (by decide)⟩
  · exact X35.returnOut hx Bd.returns (hb hby own_d8_27) hr
  · show own_Qpr0 Z a p1 vs rs cv cr el0 el1 el2 d0 d1 d2 h0 n0 _ T35.heap _
    rw [e35]
    exact ⟨rfl, N35, K35, f36, f37, f38, f39, f40, P5, V35⟩
theorem own_efpr1 (m : MethodId) (x0 : Addr) (x1 : UInt64) : entryFrame m #[(.ref x0), (.double x1)] 3 = mkF m 0 #[.val (.ref x0), .val (.double x1), .second] [] := by first | (simp [entryFrame, mkF, argsToLocals, Value.category]; done) | rfl
def own_Qpr1 (Z : State) (a : Addr) (p1 : UInt64) (vs : Addr) (rs : Addr) (cv : ClassId) (cr : ClassId) (el0 : Value) (el1 : Value) (el2 : Value) (d0 : UInt64) (d1 : UInt64) (d2 : UInt64) (h0 : Heap) (n0 : Nat) (v : Option Value) (h : Heap) (L : List Loc) : Prop := v = none ∧ Fr n0 L ∧ Keep h0 h [a, vs, rs] ∧ Exa Z h a "com/example/reckoner/reckoner/OperandStack" ∧ Fld Z h a "com/example/reckoner/reckoner/OperandStack" "values" "[Lcom/example/reckoner/reckoner/Value;" (.ref vs) ∧ Fld Z h a "com/example/reckoner/reckoner/OperandStack" "reals" "[D" (.ref rs) ∧ Fld Z h a "com/example/reckoner/reckoner/OperandStack" "height" "I" (.int (2 : Int32)) ∧ Arv Z h vs cv (.object "com/example/reckoner/reckoner/Value") (3 : Int32) [el0, .null, el2] .null ∧ Ovr Z cv "com/example/reckoner/reckoner/Value" ∧ Arv Z h rs cr .double (3 : Int32) [(.double d0), (.double p1), (.double d2)] (.double (0 : UInt64))
set_option maxRecDepth 65536 in
set_option maxHeartbeats 40000000 in
theorem own_rmpr1 (l : Launch) (Z : State) (a0 : Array Value) (hw : ∀ d ∈ tables_1, d.before a0 Z = true) (ws : List Jvm.Cond) (a : Addr) (p1 : UInt64) (vs : Addr) (rs : Addr) (cv : ClassId) (cr : ClassId) (el0 : Value) (el1 : Value) (el2 : Value) (d0 : UInt64) (d1 : UInt64) (d2 : UInt64) (h0 : Heap) (n0 : Nat) (Z0 : n0 ≤ h0.size) (P0 : Exa Z h0 a "com/example/reckoner/reckoner/OperandStack") (P1 : Fld Z h0 a "com/example/reckoner/reckoner/OperandStack" "values" "[Lcom/example/reckoner/reckoner/Value;" (.ref vs)) (P2 : Fld Z h0 a "com/example/reckoner/reckoner/OperandStack" "reals" "[D" (.ref rs)) (P3 : Fld Z h0 a "com/example/reckoner/reckoner/OperandStack" "height" "I" (.int (1 : Int32))) (P4 : Arv Z h0 vs cv (.object "com/example/reckoner/reckoner/Value") (3 : Int32) [el0, el1, el2] .null) (P5 : Ovr Z cv "com/example/reckoner/reckoner/Value") (P6 : Arv Z h0 rs cr .double (3 : Int32) [(.double d0), (.double d1), (.double d2)] (.double (0 : UInt64))) (ge_a : n0 ≤ a) (ge_vs : n0 ≤ vs) (ge_rs : n0 ≤ rs) (ne_a_vs : a ≠ vs) (ne_a_rs : a ≠ rs) (ne_vs_rs : vs ≠ rs) :
    MetFree l (⟨"com/example/reckoner/reckoner/OperandStack", "pushReal", "(D)V"⟩ : MethodName) (head1 (Jvm.Cond.code (⟨"com/example/reckoner/reckoner/OperandStack", "pushReal", "(D)V"⟩ : MethodName) prog_48_method_3_code 3 none :: ws) ({ frames := 0, cells := 0, slots := 0, locals := 0 } : Room)) (fun aa U => aa = #[(.ref a), (.double p1)] ∧ Z.Warmed39 U.vm ∧ U.heap = h0) (fun _ _ _ _ _ => True) (fun _ U o U' => ∃ v L, o = .returned v ∧ own_Qpr1 Z a p1 vs rs cv cr el0 el1 el2 d0 d1 d2 h0 n0 v U'.heap L ∧ FrameEnd U o U' L ({ frames := 0, cells := 0, slots := 0, locals := 0 } : Room).cells ({ frames := 0, cells := 0, slots := 0, locals := 0 } : Room).slots) := by
  refine MetFree.of_bodySF (plainFor_of_name own_pn1) hisR ?_
  intro p e s m args below meth c s₁ Bd hml0 hP hK
  obtain ⟨rfl, hZ, hh⟩ := hP
  have hx := Bd.exec
  have hby := Bd.bytes
  have hml : c.maxLocals = 3 := hml0
  have hown : s.vm.findClass "com/example/reckoner/reckoner/OperandStack" = some m.cls := findClass_of_methodNamed Bd.named
  have hnm := (name_of_methodNamed Bd.named Bd.method).1
  have X0 : Stand p l e ({ frames := 0, cells := 0, slots := 0, locals := 0 } : Room) s m #[(.ref a), (.double p1)] below meth c s₁ [] 0 0 := Stand.of_body Bd
  have e0 : s₁.heap = h0 := by rw [← hh, Bd.state]; rfl
  have N0 := Fr.nil n0
  have pre0 : ∀ t, Steps p.tables e below (s₁.setTop (mkF m 0 #[.val (.ref a), .val (.double p1), .second] [])) t → Steps p.tables e below (s₁.setTop (entryFrame m #[(.ref a), (.double p1)] 3)) t := fun t k => castTop (own_efpr1 m a p1) k
  have k1 : ∀ t, Steps p.tables e below (s₁.setTop (mkF m 1 #[.val (.ref a), .val (.double p1), .second] [(.ref a)])) t → Steps p.tables e below (s₁.setTop (entryFrame m #[(.ref a), (.double p1)] 3)) t := by
    intro t k
    refine pre0 t ?_
    show Steps p.tables e below (s₁.setTop (mkF m 0 #[.val (.ref a), .val (.double p1), .second] [])) _
    refine XS.aloadN X0.here hx rfl (hb hby own_d8_0) rfl rfl ?_
    exact k
  obtain ⟨T2, X2, e2, st2⟩ := getF X0 hx hZ hown (host := "") (Or.inl (hw _ (List.mem_of_getElem? (i := 11) rfl))) Via.refl e0 P1 (g := (mkF m 1 #[.val (.ref a), .val (.double p1), .second] [(.ref a)])) rfl rfl (hb hby own_d8_1)
  have k3 : ∀ t, Steps p.tables e below (T2.setTop (mkF m 4 #[.val (.ref a), .val (.double p1), .second] [(.ref vs)])) t → Steps p.tables e below (s₁.setTop (entryFrame m #[(.ref a), (.double p1)] 3)) t := fun t k => k1 t (st2 t k)
  have k4 : ∀ t, Steps p.tables e below (T2.setTop (mkF m 5 #[.val (.ref a), .val (.double p1), .second] [(.ref a), (.ref vs)])) t → Steps p.tables e below (s₁.setTop (entryFrame m #[(.ref a), (.double p1)] 3)) t := by
    intro t k
    refine k3 t ?_
    show Steps p.tables e below (T2.setTop (mkF m 4 #[.val (.ref a), .val (.double p1), .second] [(.ref vs)])) _
    refine XS.aloadN X2.here hx rfl (hb hby own_d8_4) rfl rfl ?_
    exact k
  obtain ⟨T5, X5, e5, st5⟩ := getF X2 hx hZ hown (host := "") (Or.inl (hw _ (List.mem_of_getElem? (i := 40) rfl))) Via.refl e2 P3 (g := (mkF m 5 #[.val (.ref a), .val (.double p1), .second] [(.ref a), (.ref vs)])) rfl rfl (hb hby own_d8_5)
  have k6 : ∀ t, Steps p.tables e below (T5.setTop (mkF m 8 #[.val (.ref a), .val (.double p1), .second] [(.int (1 : Int32)), (.ref vs)])) t → Steps p.tables e below (s₁.setTop (entryFrame m #[(.ref a), (.double p1)] 3)) t := fun t k => k4 t (st5 t k)
  have k7 : ∀ t, Steps p.tables e below (T5.setTop (mkF m 9 #[.val (.ref a), .val (.double p1), .second] [.null, (.int (1 : Int32)), (.ref vs)])) t → Steps p.tables e below (s₁.setTop (entryFrame m #[(.ref a), (.double p1)] 3)) t := by
    intro t k
    refine k6 t ?_
    show Steps p.tables e below (T5.setTop (mkF m 8 #[.val (.ref a), .val (.double p1), .second] [(.int (1 : Int32)), (.ref vs)])) _
    refine XS.aconstNull X5.here hx rfl (hb hby own_d8_8) ?_
    exact k
  obtain ⟨cl8, Ar8, qa8, Sa8, Na8, Ha8, Ga8⟩ := id P4
  have hin9 : ¬ ((1 : Int32) < 0 ∨ cl8.slots.size ≤ ((1 : Int32)).toNatClampNeg) := inb_of Sa8 ⟨by decide, by decide⟩
  obtain ⟨T10, h10, X10, e10, W10, st10⟩ := stR X5 hx hZ e5 Ar8 (j := (1 : Int32)) hin9 rfl (Or.inl rfl) (g := (mkF m 9 #[.val (.ref a), .val (.double p1), .second] [.null, (.int (1 : Int32)), (.ref vs)])) rfl rfl (hb hby own_d8_9)
  have f11 := P0.wr W10
  have f12 := P1.other W10 (Or.inl ne_a_vs)
  have f13 := P2.other W10 (Or.inl ne_a_vs)
  have f14 := P3.other W10 (Or.inl ne_a_vs)
  have f15 := P6.other W10 (Ne.symm ne_vs_rs)
  have V10 : Arv Z h10 vs cv (.object "com/example/reckoner/reckoner/Value") (3 : Int32) [el0, .null, el2] .null := Arv.set Ar8 qa8 Sa8 Na8 Ha8 Ga8 rfl W10 1 rfl (Nat.le_of_ble_eq_true rfl)
  have N10 := Fr.snoc X10 N0 ge_vs
  have K10 : Keep h0 h10 [a, vs, rs] := (Keep.refl h0 [a, vs, rs]).wr W10 (Or.inl (List.mem_of_getElem? (i := 1) rfl))
  have Z10 : n0 ≤ h10.size := Nat.le_trans Z0 (Keep.of_wr W10).1
  have k16 : ∀ t, Steps p.tables e below (T10.setTop (mkF m 10 #[.val (.ref a), .val (.double p1), .second] [])) t → Steps p.tables e below (s₁.setTop (entryFrame m #[(.ref a), (.double p1)] 3)) t := fun t k => k7 t (st10 t k)
  have k17 : ∀ t, Steps p.tables e below (T10.setTop (mkF m 11 #[.val (.ref a), .val (.double p1), .second] [(.ref a)])) t → Steps p.tables e below (s₁.setTop (entryFrame m #[(.ref a), (.double p1)] 3)) t := by
    intro t k
    refine k16 t ?_
    show Steps p.tables e below (T10.setTop (mkF m 10 #[.val (.ref a), .val (.double p1), .second] [])) _
    refine XS.aloadN X10.here hx rfl (hb hby own_d8_10) rfl rfl ?_
    exact k
  obtain ⟨T18, X18, e18, st18⟩ := getF X10 hx hZ hown (host := "") (Or.inl (hw _ (List.mem_of_getElem? (i := 14) rfl))) Via.refl e10 f13 (g := (mkF m 11 #[.val (.ref a), .val (.double p1), .second] [(.ref a)])) rfl rfl (hb hby own_d8_11)
  have k19 : ∀ t, Steps p.tables e below (T18.setTop (mkF m 14 #[.val (.ref a), .val (.double p1), .second] [(.ref rs)])) t → Steps p.tables e below (s₁.setTop (entryFrame m #[(.ref a), (.double p1)] 3)) t := fun t k => k17 t (st18 t k)
  have k20 : ∀ t, Steps p.tables e below (T18.setTop (mkF m 16 #[.val (.ref a), .val (.double p1), .second] [(.ref a), (.ref a), (.ref rs)])) t → Steps p.tables e below (s₁.setTop (entryFrame m #[(.ref a), (.double p1)] 3)) t := by
    intro t k
    refine k19 t ?_
    show Steps p.tables e below (T18.setTop (mkF m 14 #[.val (.ref a), .val (.double p1), .second] [(.ref rs)])) _
    refine XS.aloadN X18.here hx rfl (hb hby own_d8_14) rfl rfl ?_
    show Steps p.tables e below (T18.setTop (mkF m 15 #[.val (.ref a), .val (.double p1), .second] [(.ref a), (.ref rs)])) _
    refine XS.dup X18.here hx rfl (hb hby own_d8_15) rfl rfl ?_
    exact k
  obtain ⟨T21, X21, e21, st21⟩ := getF X18 hx hZ hown (host := "") (Or.inl (hw _ (List.mem_of_getElem? (i := 40) rfl))) Via.refl e18 f14 (g := (mkF m 16 #[.val (.ref a), .val (.double p1), .second] [(.ref a), (.ref a), (.ref rs)])) rfl rfl (hb hby own_d8_16)
  have k22 : ∀ t, Steps p.tables e below (T21.setTop (mkF m 19 #[.val (.ref a), .val (.double p1), .second] [(.int (1 : Int32)), (.ref a), (.ref rs)])) t → Steps p.tables e below (s₁.setTop (entryFrame m #[(.ref a), (.double p1)] 3)) t := fun t k => k20 t (st21 t k)
  have k23 : ∀ t, Steps p.tables e below (T21.setTop (mkF m 22 #[.val (.ref a), .val (.double p1), .second] [(.int (2 : Int32)), (.ref a), (.int (1 : Int32)), (.ref rs)])) t → Steps p.tables e below (s₁.setTop (entryFrame m #[(.ref a), (.double p1)] 3)) t := by
    intro t k
    refine k22 t ?_
    show Steps p.tables e below (T21.setTop (mkF m 19 #[.val (.ref a), .val (.double p1), .second] [(.int (1 : Int32)), (.ref a), (.ref rs)])) _
    refine XS.dupX1 X21.here hx rfl (hb hby own_d8_19) rfl rfl rfl ?_
    show Steps p.tables e below (T21.setTop (mkF m 20 #[.val (.ref a), .val (.double p1), .second] [(.int (1 : Int32)), (.ref a), (.int (1 : Int32)), (.ref rs)])) _
    refine XS.iconst X21.here hx rfl (hb hby own_d8_20) ?_
    show Steps p.tables e below (T21.setTop (mkF m 21 #[.val (.ref a), .val (.double p1), .second] [(.int (1 : Int32)), (.int (1 : Int32)), (.ref a), (.int (1 : Int32)), (.ref rs)])) _
    refine XS.iadd X21.here hx rfl (hb hby own_d8_21) rfl ?_
    exact k
  obtain ⟨T24, h24, X24, e24, W24, st24⟩ := putF X21 hx hZ hown (host := "") (Or.inl (hw _ (List.mem_of_getElem? (i := 40) rfl))) Via.refl e21 f14 f11 (Or.inl (hw _ (List.mem_of_getElem? (i := 41) rfl))) (hw _ (List.mem_of_getElem? (i := 1) rfl)) (ty := .int) (by decide) rfl rfl (g := (mkF m 22 #[.val (.ref a), .val (.double p1), .second] [(.int (2 : Int32)), (.ref a), (.int (1 : Int32)), (.ref rs)])) rfl rfl (hb hby own_d8_22)
  have f25 := f11.wr W24
  have f26 := f12.other W24 (Or.inr (slot_ne (Or.inr (hw _ (List.mem_of_getElem? (i := 12) rfl))) (Or.inl (hw _ (List.mem_of_getElem? (i := 41) rfl))) (by decide) (t := (.array (.object "com/example/reckoner/reckoner/Value"))) (t' := .int) (by decide) (by decide)))
  have f27 := f13.other W24 (Or.inr (slot_ne (Or.inr (hw _ (List.mem_of_getElem? (i := 15) rfl))) (Or.inl (hw _ (List.mem_of_getElem? (i := 41) rfl))) (by decide) (t := (.array .double)) (t' := .int) (by decide) (by decide)))
  have f28 := V10.other W24 (Ne.symm ne_a_vs)
  have f29 := f15.other W24 (Ne.symm ne_a_rs)
  have f30 := f14.same W24
  have N24 := Fr.snoc X24 N10 ge_a
  have K24 : Keep h0 h24 [a, vs, rs] := K10.wr W24 (Or.inl (List.mem_of_getElem? (i := 0) rfl))
  have Z24 : n0 ≤ h24.size := Nat.le_trans Z10 (Keep.of_wr W24).1
  have k31 : ∀ t, Steps p.tables e below (T24.setTop (mkF m 25 #[.val (.ref a), .val (.double p1), .second] [(.int (1 : Int32)), (.ref rs)])) t → Steps p.tables e below (s₁.setTop (entryFrame m #[(.ref a), (.double p1)] 3)) t := fun t k => k23 t (st24 t k)
  have k32 : ∀ t, Steps p.tables e below (T24.setTop (mkF m 26 #[.val (.ref a), .val (.double p1), .second] [(.double p1), (.int (1 : Int32)), (.ref rs)])) t → Steps p.tables e below (s₁.setTop (entryFrame m #[(.ref a), (.double p1)] 3)) t := by
    intro t k
    refine k31 t ?_
    show Steps p.tables e below (T24.setTop (mkF m 25 #[.val (.ref a), .val (.double p1), .second] [(.int (1 : Int32)), (.ref rs)])) _
    refine XS.dloadN X24.here hx rfl (hb hby own_d8_25) rfl ?_
    exact k
  obtain ⟨cl33, Ar33, qa33, Sa33, Na33, Ha33, Ga33⟩ := id f29
  have hin34 : ¬ ((1 : Int32) < 0 ∨ cl33.slots.size ≤ ((1 : Int32)).toNatClampNeg) := inb_of Sa33 ⟨by decide, by decide⟩
  obtain ⟨T35, h35, X35, e35, W35, st35⟩ := stD X24 hx hZ e24 Ar33 (j := (1 : Int32)) hin34 (g := (mkF m 26 #[.val (.ref a), .val (.double p1), .second] [(.double p1), (.int (1 : Int32)), (.ref rs)])) rfl rfl (hb hby own_d8_26)
  have f36 := f25.wr W35
  have f37 := f26.other W35 (Or.inl ne_a_rs)
  have f38 := f27.other W35 (Or.inl ne_a_rs)
  have f39 := f30.other W35 (Or.inl ne_a_rs)
  have f40 := f28.other W35 ne_vs_rs
  have V35 : Arv Z h35 rs cr .double (3 : Int32) [(.double d0), (.double p1), (.double d2)] (.double (0 : UInt64)) := Arv.set Ar33 qa33 Sa33 Na33 Ha33 Ga33 rfl W35 1 rfl (Nat.le_of_ble_eq_true rfl)
  have N35 := Fr.snoc X35 N24 ge_rs
  have K35 : Keep h0 h35 [a, vs, rs] := K24.wr W35 (Or.inl (List.mem_of_getElem? (i := 2) rfl))
  have Z35 : n0 ≤ h35.size := Nat.le_trans Z24 (Keep.of_wr W35).1
  have k41 : ∀ t, Steps p.tables e below (T35.setTop (mkF m 27 #[.val (.ref a), .val (.double p1), .second] [])) t → Steps p.tables e below (s₁.setTop (entryFrame m #[(.ref a), (.double p1)] 3)) t := fun t k => k32 t (st35 t k)
  obtain ⟨fs, hr, hrun, hended, hW, hsame⟩ := X35.leave (v := none) (fun _ => rfl)
  refine ⟨_, _, k41 _ ?_, hrun, hended, _, _, rfl, ?_, ⟨_, rfl⟩, hW, hsame.mono (by decide) (by decide)⟩
  · exact X35.returnOut hx Bd.returns (hb hby own_d8_27) hr
  · show own_Qpr1 Z a p1 vs rs cv cr el0 el1 el2 d0 d1 d2 h0 n0 _ T35.heap _
    rw [e35]
    exact ⟨rfl, N35, K35, f36, f37, f38, f39, f40, P5, V35⟩
theorem own_d10_0 : decode prog_69_method_9_code 0 = .ok (.aload_n 0, 1) := by decide +kernel
theorem own_d10_1 : decode prog_69_method_9_code 1 = .ok (.getfield 7, 3) := by decide +kernel
theorem own_d10_4 : decode prog_69_method_9_code 4 = .ok (.getstatic 21, 3) := by decide +kernel
theorem own_d10_7 : decode prog_69_method_9_code 7 = .ok (.if_acmp .ne 7, 3) := by decide +kernel
theorem own_d10_10 : decode prog_69_method_9_code 10 = .ok (.iconst 1, 1) := by decide +kernel
theorem own_d10_11 : decode prog_69_method_9_code 11 = .ok (.goto 4, 3) := by decide +kernel
theorem own_d10_15 : decode prog_69_method_9_code 15 = .ok (.ireturn, 1) := by decide +kernel
theorem own_efii (m : MethodId) (x0 : Addr) : entryFrame m #[(.ref x0)] 1 = mkF m 0 #[.val (.ref x0)] [] := by first | (simp [entryFrame, mkF, argsToLocals, Value.category]; done) | rfl
def own_Qii (Z : State) (a : Addr) (sI : Addr) (h0 : Heap) (n0 : Nat) (v : Option Value) (h : Heap) (L : List Loc) : Prop := v = some (.int (1 : Int32)) ∧ Fr n0 L ∧ Keep h0 h [] ∧ Exa Z h a "com/example/reckoner/reckoner/Value" ∧ Fld Z h a "com/example/reckoner/reckoner/Value" "type" "Lcom/example/reckoner/reckoner/Value$Type;" (.ref sI)
set_option maxRecDepth 65536 in
set_option maxHeartbeats 40000000 in
theorem own_rmii (l : Launch) (Z : State) (a0 : Array Value) (hw : ∀ d ∈ tables_1, d.before a0 Z = true) (ws : List Jvm.Cond) (a : Addr) (sI : Addr) (h0 : Heap) (n0 : Nat) (Z0 : n0 ≤ h0.size) (P0 : Exa Z h0 a "com/example/reckoner/reckoner/Value") (P1 : Fld Z h0 a "com/example/reckoner/reckoner/Value" "type" "Lcom/example/reckoner/reckoner/Value$Type;" (.ref sI)) (Xo : Old Z n0 h0) (SI : Sta Z Z.heap "com/example/reckoner/reckoner/Value$Type" "INTEGER" "Lcom/example/reckoner/reckoner/Value$Type;" (.ref sI)) :
    MetFree l (⟨"com/example/reckoner/reckoner/Value", "isInteger", "()Z"⟩ : MethodName) (head1 (Jvm.Cond.code (⟨"com/example/reckoner/reckoner/Value", "isInteger", "()Z"⟩ : MethodName) prog_69_method_9_code 1 (some .boolean) :: ws) ({ frames := 0, cells := 0, slots := 0, locals := 0 } : Room)) (fun aa U => aa = #[(.ref a)] ∧ Z.Warmed39 U.vm ∧ U.heap = h0) (fun _ _ _ _ _ => True) (fun _ U o U' => ∃ v L, o = .returned v ∧ own_Qii Z a sI h0 n0 v U'.heap L ∧ FrameEnd U o U' L ({ frames := 0, cells := 0, slots := 0, locals := 0 } : Room).cells ({ frames := 0, cells := 0, slots := 0, locals := 0 } : Room).slots) := by
  refine MetFree.of_bodySF (plainFor_of_name own_pn0) hisR ?_
  intro p e s m args below meth c s₁ Bd hml0 hP hK
  obtain ⟨rfl, hZ, hh⟩ := hP
  have hx := Bd.exec
  have hby := Bd.bytes
  have hml : c.maxLocals = 1 := hml0
  have hown : s.vm.findClass "com/example/reckoner/reckoner/Value" = some m.cls := findClass_of_methodNamed Bd.named
  have hnm := (name_of_methodNamed Bd.named Bd.method).1
  have X0 : Stand p l e ({ frames := 0, cells := 0, slots := 0, locals := 0 } : Room) s m #[(.ref a)] below meth c s₁ [] 0 0 := Stand.of_body Bd
  have e0 : s₁.heap = h0 := by rw [← hh, Bd.state]; rfl
  have N0 := Fr.nil n0
  have pre0 : ∀ t, Steps p.tables e below (s₁.setTop (mkF m 0 #[.val (.ref a)] [])) t → Steps p.tables e below (s₁.setTop (entryFrame m #[(.ref a)] 1)) t := fun t k => castTop (own_efii m a) k
  have k1 : ∀ t, Steps p.tables e below (s₁.setTop (mkF m 1 #[.val (.ref a)] [(.ref a)])) t → Steps p.tables e below (s₁.setTop (entryFrame m #[(.ref a)] 1)) t := by
    intro t k
    refine pre0 t ?_
    show Steps p.tables e below (s₁.setTop (mkF m 0 #[.val (.ref a)] [])) _
    refine XS.aloadN X0.here hx rfl (hb hby own_d10_0) rfl rfl ?_
    exact k
  obtain ⟨T2, X2, e2, st2⟩ := getF X0 hx hZ hown (host := "") (Or.inl (hw _ (List.mem_of_getElem? (i := 29) rfl))) Via.refl e0 P1 (g := (mkF m 1 #[.val (.ref a)] [(.ref a)])) rfl rfl (hb hby own_d10_1)
  have k3 : ∀ t, Steps p.tables e below (T2.setTop (mkF m 4 #[.val (.ref a)] [(.ref sI)])) t → Steps p.tables e below (s₁.setTop (entryFrame m #[(.ref a)] 1)) t := fun t k => k1 t (st2 t k)
  obtain ⟨T4, X4, e4, st4⟩ := getS2 X2 hx hZ hown (host := "") (Or.inl (hw _ (List.mem_of_getElem? (i := 22) rfl))) Via.refl e2 (SI.ext Xo.2) (g := (mkF m 4 #[.val (.ref a)] [(.ref sI)])) rfl (hb hby own_d10_4)
  have k5 : ∀ t, Steps p.tables e below (T4.setTop (mkF m 7 #[.val (.ref a)] [(.ref sI), (.ref sI)])) t → Steps p.tables e below (s₁.setTop (entryFrame m #[(.ref a)] 1)) t := fun t k => k3 t (st4 t k)
  have k6 : ∀ t, Steps p.tables e below (T4.setTop (mkF m 15 #[.val (.ref a)] [(.int (1 : Int32))])) t → Steps p.tables e below (s₁.setTop (entryFrame m #[(.ref a)] 1)) t := by
    intro t k
    refine k5 t ?_
    show Steps p.tables e below (T4.setTop (mkF m 7 #[.val (.ref a)] [(.ref sI), (.ref sI)])) _
    refine Jvm.RoadKit.acmp (g := (mkF m 7 #[.val (.ref a)] [(.ref sI), (.ref sI)])) X4 hx rfl rfl rfl (pc0 := 7) (pc' := 10) (same := true) rfl (hb hby own_d10_7) rfl (decide_eq_true rfl) (by decide) (by decide) ?_
    show Steps p.tables e below (T4.setTop (mkF m 10 #[.val (.ref a)] [])) _
    refine XS.iconst X4.here hx rfl (hb hby own_d10_10) ?_
    show Steps p.tables e below (T4.setTop (mkF m 11 #[.val (.ref a)] [(.int (1 : Int32))])) _
    refine XS.goto X4.here hx rfl (pc0 := 11) (pc' := 15) rfl (hb hby own_d10_11) (by decide) (by decide) ?_
    exact k
  obtain ⟨fs, hr, hrun, hended, hW, hsame⟩ := X4.leave (v := (some (.int (1 : Int32)))) (fun h => by rw [Bd.returns] at h; cases h)
  refine ⟨_, _, k6 _ ?_, hrun, hended, _, _, rfl, ?_, ⟨_, rfl⟩, hW, hsame.mono (by decide) (by decide)⟩
  · exact retN X4 hx (t := .boolean) Bd.returns (by simp) (hb hby own_d10_15) hr
  · show own_Qii Z a sI h0 n0 _ T4.heap _
    rw [e4]
    exact ⟨rfl, N0, (Keep.refl h0 []), P0, P1⟩
theorem own_d13_0 : decode prog_69_method_7_code 0 = .ok (.aload_n 0, 1) := by decide +kernel
theorem own_d13_1 : decode prog_69_method_7_code 1 = .ok (.getfield 7, 3) := by decide +kernel
theorem own_d13_4 : decode prog_69_method_7_code 4 = .ok (.areturn, 1) := by decide +kernel
theorem own_efty (m : MethodId) (x0 : Addr) : entryFrame m #[(.ref x0)] 1 = mkF m 0 #[.val (.ref x0)] [] := by first | (simp [entryFrame, mkF, argsToLocals, Value.category]; done) | rfl
def own_Qty (Z : State) (a : Addr) (sR : Addr) (h0 : Heap) (n0 : Nat) (v : Option Value) (h : Heap) (L : List Loc) : Prop := v = some (.ref sR) ∧ Fr n0 L ∧ Keep h0 h [] ∧ Exa Z h a "com/example/reckoner/reckoner/Value" ∧ Fld Z h a "com/example/reckoner/reckoner/Value" "type" "Lcom/example/reckoner/reckoner/Value$Type;" (.ref sR)
set_option maxRecDepth 65536 in
set_option maxHeartbeats 40000000 in
theorem own_rmty (l : Launch) (Z : State) (a0 : Array Value) (hw : ∀ d ∈ tables_1, d.before a0 Z = true) (ws : List Jvm.Cond) (a : Addr) (sR : Addr) (h0 : Heap) (n0 : Nat) (Z0 : n0 ≤ h0.size) (P0 : Exa Z h0 a "com/example/reckoner/reckoner/Value") (P1 : Fld Z h0 a "com/example/reckoner/reckoner/Value" "type" "Lcom/example/reckoner/reckoner/Value$Type;" (.ref sR)) (Xo : Old Z n0 h0) (SR : Sta Z Z.heap "com/example/reckoner/reckoner/Value$Type" "REAL" "Lcom/example/reckoner/reckoner/Value$Type;" (.ref sR)) :
    MetFree l (⟨"com/example/reckoner/reckoner/Value", "type", "()Lcom/example/reckoner/reckoner/Value$Type;"⟩ : MethodName) (head1 (Jvm.Cond.code (⟨"com/example/reckoner/reckoner/Value", "type", "()Lcom/example/reckoner/reckoner/Value$Type;"⟩ : MethodName) prog_69_method_7_code 1 (some (.object "com/example/reckoner/reckoner/Value$Type")) :: ws) ({ frames := 0, cells := 0, slots := 0, locals := 0 } : Room)) (fun aa U => aa = #[(.ref a)] ∧ Z.Warmed39 U.vm ∧ U.heap = h0) (fun _ _ _ _ _ => True) (fun _ U o U' => ∃ v L, o = .returned v ∧ own_Qty Z a sR h0 n0 v U'.heap L ∧ FrameEnd U o U' L ({ frames := 0, cells := 0, slots := 0, locals := 0 } : Room).cells ({ frames := 0, cells := 0, slots := 0, locals := 0 } : Room).slots) := by
  refine MetFree.of_bodySF (plainFor_of_name own_pn0) hisR ?_
  intro p e s m args below meth c s₁ Bd hml0 hP hK
  obtain ⟨rfl, hZ, hh⟩ := hP
  have hx := Bd.exec
  have hby := Bd.bytes
  have hml : c.maxLocals = 1 := hml0
  have hown : s.vm.findClass "com/example/reckoner/reckoner/Value" = some m.cls := findClass_of_methodNamed Bd.named
  have hnm := (name_of_methodNamed Bd.named Bd.method).1
  have X0 : Stand p l e ({ frames := 0, cells := 0, slots := 0, locals := 0 } : Room) s m #[(.ref a)] below meth c s₁ [] 0 0 := Stand.of_body Bd
  have e0 : s₁.heap = h0 := by rw [← hh, Bd.state]; rfl
  have N0 := Fr.nil n0
  have pre0 : ∀ t, Steps p.tables e below (s₁.setTop (mkF m 0 #[.val (.ref a)] [])) t → Steps p.tables e below (s₁.setTop (entryFrame m #[(.ref a)] 1)) t := fun t k => castTop (own_efty m a) k
  have k1 : ∀ t, Steps p.tables e below (s₁.setTop (mkF m 1 #[.val (.ref a)] [(.ref a)])) t → Steps p.tables e below (s₁.setTop (entryFrame m #[(.ref a)] 1)) t := by
    intro t k
    refine pre0 t ?_
    show Steps p.tables e below (s₁.setTop (mkF m 0 #[.val (.ref a)] [])) _
    refine XS.aloadN X0.here hx rfl (hb hby own_d13_0) rfl rfl ?_
    exact k
  obtain ⟨T2, X2, e2, st2⟩ := getF X0 hx hZ hown (host := "") (Or.inl (hw _ (List.mem_of_getElem? (i := 29) rfl))) Via.refl e0 P1 (g := (mkF m 1 #[.val (.ref a)] [(.ref a)])) rfl rfl (hb hby own_d13_1)
  have k3 : ∀ t, Steps p.tables e below (T2.setTop (mkF m 4 #[.val (.ref a)] [(.ref sR)])) t → Steps p.tables e below (s₁.setTop (entryFrame m #[(.ref a)] 1)) t := fun t k => k1 t (st2 t k)
  obtain ⟨fs, hr, hrun, hended, hW, hsame⟩ := X2.leave (v := (some (.ref sR))) (fun h => by rw [Bd.returns] at h; cases h)
  refine ⟨_, _, k3 _ ?_, hrun, hended, _, _, rfl, ?_, ⟨_, rfl⟩, hW, hsame.mono (by decide) (by decide)⟩
  · exact retOut X2 hx Bd.returns rfl (Or.inr (Or.inr (Or.inr (Or.inr ⟨rfl, rfl, rfl⟩)))) (hb hby own_d13_4) hr
  · show own_Qty Z a sR h0 n0 _ T2.heap _
    rw [e2]
    exact ⟨rfl, N0, (Keep.refl h0 []), P0, P1⟩
theorem own_d14_0 : decode prog_69_method_11_code 0 = .ok (.aload_n 0, 1) := by decide +kernel
theorem own_d14_1 : decode prog_69_method_11_code 1 = .ok (.getfield 7, 3) := by decide +kernel
theorem own_d14_4 : decode prog_69_method_11_code 4 = .ok (.getstatic 110, 3) := by decide +kernel
theorem own_d14_7 : decode prog_69_method_11_code 7 = .ok (.if_acmp .ne 20, 3) := by decide +kernel
theorem own_d14_27 : decode prog_69_method_11_code 27 = .ok (.aload_n 0, 1) := by decide +kernel
theorem own_d14_28 : decode prog_69_method_11_code 28 = .ok (.getfield 7, 3) := by decide +kernel
theorem own_d14_31 : decode prog_69_method_11_code 31 = .ok (.getstatic 21, 3) := by decide +kernel
theorem own_d14_34 : decode prog_69_method_11_code 34 = .ok (.if_acmp .ne 11, 3) := by decide +kernel
theorem own_d14_45 : decode prog_69_method_11_code 45 = .ok (.aload_n 0, 1) := by decide +kernel
theorem own_d14_46 : decode prog_69_method_11_code 46 = .ok (.getfield 17, 3) := by decide +kernel
theorem own_d14_49 : decode prog_69_method_11_code 49 = .ok (.dreturn, 1) := by decide +kernel
theorem own_efdv (m : MethodId) (x0 : Addr) : entryFrame m #[(.ref x0)] 1 = mkF m 0 #[.val (.ref x0)] [] := by first | (simp [entryFrame, mkF, argsToLocals, Value.category]; done) | rfl
def own_Qdv (Z : State) (a : Addr) (sI : Addr) (sR : Addr) (sB : Addr) (x : UInt64) (h0 : Heap) (n0 : Nat) (v : Option Value) (h : Heap) (L : List Loc) : Prop := v = some (.double x) ∧ Fr n0 L ∧ Keep h0 h [] ∧ Exa Z h a "com/example/reckoner/reckoner/Value" ∧ Fld Z h a "com/example/reckoner/reckoner/Value" "type" "Lcom/example/reckoner/reckoner/Value$Type;" (.ref sR) ∧ Fld Z h a "com/example/reckoner/reckoner/Value" "realValue" "D" (.double x)
set_option maxRecDepth 65536 in
set_option maxHeartbeats 40000000 in
theorem own_rmdv (l : Launch) (Z : State) (a0 : Array Value) (hw : ∀ d ∈ tables_1, d.before a0 Z = true) (ws : List Jvm.Cond) (a : Addr) (sI : Addr) (sR : Addr) (sB : Addr) (x : UInt64) (h0 : Heap) (n0 : Nat) (Z0 : n0 ≤ h0.size) (P0 : Exa Z h0 a "com/example/reckoner/reckoner/Value") (P1 : Fld Z h0 a "com/example/reckoner/reckoner/Value" "type" "Lcom/example/reckoner/reckoner/Value$Type;" (.ref sR)) (P2 : Fld Z h0 a "com/example/reckoner/reckoner/Value" "realValue" "D" (.double x)) (Xo : Old Z n0 h0) (SI : Sta Z Z.heap "com/example/reckoner/reckoner/Value$Type" "INTEGER" "Lcom/example/reckoner/reckoner/Value$Type;" (.ref sI)) (SR : Sta Z Z.heap "com/example/reckoner/reckoner/Value$Type" "REAL" "Lcom/example/reckoner/reckoner/Value$Type;" (.ref sR)) (SB : Sta Z Z.heap "com/example/reckoner/reckoner/Value$Type" "BOOLEAN" "Lcom/example/reckoner/reckoner/Value$Type;" (.ref sB)) (hRB : sR ≠ sB) (hIR : sI ≠ sR) :
    MetFree l (⟨"com/example/reckoner/reckoner/Value", "doubleValue", "()D"⟩ : MethodName) (head1 (Jvm.Cond.code (⟨"com/example/reckoner/reckoner/Value", "doubleValue", "()D"⟩ : MethodName) prog_69_method_11_code 1 (some .double) :: ws) ({ frames := 0, cells := 0, slots := 0, locals := 0 } : Room)) (fun aa U => aa = #[(.ref a)] ∧ Z.Warmed39 U.vm ∧ U.heap = h0) (fun _ _ _ _ _ => True) (fun _ U o U' => ∃ v L, o = .returned v ∧ own_Qdv Z a sI sR sB x h0 n0 v U'.heap L ∧ FrameEnd U o U' L ({ frames := 0, cells := 0, slots := 0, locals := 0 } : Room).cells ({ frames := 0, cells := 0, slots := 0, locals := 0 } : Room).slots) := by
  refine MetFree.of_bodySF (plainFor_of_name own_pn0) hisR ?_
  intro p e s m args below meth c s₁ Bd hml0 hP hK
  obtain ⟨rfl, hZ, hh⟩ := hP
  have hx := Bd.exec
  have hby := Bd.bytes
  have hml : c.maxLocals = 1 := hml0
  have hown : s.vm.findClass "com/example/reckoner/reckoner/Value" = some m.cls := findClass_of_methodNamed Bd.named
  have hnm := (name_of_methodNamed Bd.named Bd.method).1
  have X0 : Stand p l e ({ frames := 0, cells := 0, slots := 0, locals := 0 } : Room) s m #[(.ref a)] below meth c s₁ [] 0 0 := Stand.of_body Bd
  have e0 : s₁.heap = h0 := by rw [← hh, Bd.state]; rfl
  have N0 := Fr.nil n0
  have pre0 : ∀ t, Steps p.tables e below (s₁.setTop (mkF m 0 #[.val (.ref a)] [])) t → Steps p.tables e below (s₁.setTop (entryFrame m #[(.ref a)] 1)) t := fun t k => castTop (own_efdv m a) k
  have k1 : ∀ t, Steps p.tables e below (s₁.setTop (mkF m 1 #[.val (.ref a)] [(.ref a)])) t → Steps p.tables e below (s₁.setTop (entryFrame m #[(.ref a)] 1)) t := by
    intro t k
    refine pre0 t ?_
    show Steps p.tables e below (s₁.setTop (mkF m 0 #[.val (.ref a)] [])) _
    refine XS.aloadN X0.here hx rfl (hb hby own_d14_0) rfl rfl ?_
    exact k
  obtain ⟨T2, X2, e2, st2⟩ := getF X0 hx hZ hown (host := "") (Or.inl (hw _ (List.mem_of_getElem? (i := 29) rfl))) Via.refl e0 P1 (g := (mkF m 1 #[.val (.ref a)] [(.ref a)])) rfl rfl (hb hby own_d14_1)
  have k3 : ∀ t, Steps p.tables e below (T2.setTop (mkF m 4 #[.val (.ref a)] [(.ref sR)])) t → Steps p.tables e below (s₁.setTop (entryFrame m #[(.ref a)] 1)) t := fun t k => k1 t (st2 t k)
  obtain ⟨T4, X4, e4, st4⟩ := getS2 X2 hx hZ hown (host := "") (Or.inl (hw _ (List.mem_of_getElem? (i := 88) rfl))) Via.refl e2 (SB.ext Xo.2) (g := (mkF m 4 #[.val (.ref a)] [(.ref sR)])) rfl (hb hby own_d14_4)
  have k5 : ∀ t, Steps p.tables e below (T4.setTop (mkF m 7 #[.val (.ref a)] [(.ref sB), (.ref sR)])) t → Steps p.tables e below (s₁.setTop (entryFrame m #[(.ref a)] 1)) t := fun t k => k3 t (st4 t k)
  have k6 : ∀ t, Steps p.tables e below (T4.setTop (mkF m 28 #[.val (.ref a)] [(.ref a)])) t → Steps p.tables e below (s₁.setTop (entryFrame m #[(.ref a)] 1)) t := by
    intro t k
    refine k5 t ?_
    show Steps p.tables e below (T4.setTop (mkF m 7 #[.val (.ref a)] [(.ref sB), (.ref sR)])) _
    refine Jvm.RoadKit.acmp (g := (mkF m 7 #[.val (.ref a)] [(.ref sB), (.ref sR)])) X4 hx rfl rfl rfl (pc0 := 7) (pc' := 27) (same := false) rfl (hb hby own_d14_7) rfl (decide_eq_false fun q => hRB (Value.ref.inj q)) (by decide) (by decide) ?_
    show Steps p.tables e below (T4.setTop (mkF m 27 #[.val (.ref a)] [])) _
    refine XS.aloadN X4.here hx rfl (hb hby own_d14_27) rfl rfl ?_
    exact k
  obtain ⟨T7, X7, e7, st7⟩ := getF X4 hx hZ hown (host := "") (Or.inl (hw _ (List.mem_of_getElem? (i := 29) rfl))) Via.refl e4 P1 (g := (mkF m 28 #[.val (.ref a)] [(.ref a)])) rfl rfl (hb hby own_d14_28)
  have k8 : ∀ t, Steps p.tables e below (T7.setTop (mkF m 31 #[.val (.ref a)] [(.ref sR)])) t → Steps p.tables e below (s₁.setTop (entryFrame m #[(.ref a)] 1)) t := fun t k => k6 t (st7 t k)
  obtain ⟨T9, X9, e9, st9⟩ := getS2 X7 hx hZ hown (host := "") (Or.inl (hw _ (List.mem_of_getElem? (i := 22) rfl))) Via.refl e7 (SI.ext Xo.2) (g := (mkF m 31 #[.val (.ref a)] [(.ref sR)])) rfl (hb hby own_d14_31)
  have k10 : ∀ t, Steps p.tables e below (T9.setTop (mkF m 34 #[.val (.ref a)] [(.ref sI), (.ref sR)])) t → Steps p.tables e below (s₁.setTop (entryFrame m #[(.ref a)] 1)) t := fun t k => k8 t (st9 t k)
  have k11 : ∀ t, Steps p.tables e below (T9.setTop (mkF m 46 #[.val (.ref a)] [(.ref a)])) t → Steps p.tables e below (s₁.setTop (entryFrame m #[(.ref a)] 1)) t := by
    intro t k
    refine k10 t ?_
    show Steps p.tables e below (T9.setTop (mkF m 34 #[.val (.ref a)] [(.ref sI), (.ref sR)])) _
    refine Jvm.RoadKit.acmp (g := (mkF m 34 #[.val (.ref a)] [(.ref sI), (.ref sR)])) X9 hx rfl rfl rfl (pc0 := 34) (pc' := 45) (same := false) rfl (hb hby own_d14_34) rfl (decide_eq_false fun q => (Ne.symm hIR) (Value.ref.inj q)) (by decide) (by decide) ?_
    show Steps p.tables e below (T9.setTop (mkF m 45 #[.val (.ref a)] [])) _
    refine XS.aloadN X9.here hx rfl (hb hby own_d14_45) rfl rfl ?_
    exact k
  obtain ⟨T12, X12, e12, st12⟩ := getF X9 hx hZ hown (host := "") (Or.inl (hw _ (List.mem_of_getElem? (i := 33) rfl))) Via.refl e9 P2 (g := (mkF m 46 #[.val (.ref a)] [(.ref a)])) rfl rfl (hb hby own_d14_46)
  have k13 : ∀ t, Steps p.tables e below (T12.setTop (mkF m 49 #[.val (.ref a)] [(.double x)])) t → Steps p.tables e below (s₁.setTop (entryFrame m #[(.ref a)] 1)) t := fun t k => k11 t (st12 t k)
  obtain ⟨fs, hr, hrun, hended, hW, hsame⟩ := X12.leave (v := (some (.double x))) (fun h => by rw [Bd.returns] at h; cases h)
  refine ⟨_, _, k13 _ ?_, hrun, hended, _, _, rfl, ?_, ⟨_, rfl⟩, hW, hsame.mono (by decide) (by decide)⟩
  · exact retOut X12 hx Bd.returns rfl (Or.inr (Or.inr (Or.inl ⟨rfl, rfl, _, rfl⟩))) (hb hby own_d14_49) hr
  · show own_Qdv Z a sI sR sB x h0 n0 _ T12.heap _
    rw [e12]
    exact ⟨rfl, N0, (Keep.refl h0 []), P0, P1, P2⟩
theorem own_d16_0 : decode prog_69_method_10_code 0 = .ok (.aload_n 0, 1) := by decide +kernel
theorem own_d16_1 : decode prog_69_method_10_code 1 = .ok (.getfield 7, 3) := by decide +kernel
theorem own_d16_4 : decode prog_69_method_10_code 4 = .ok (.getstatic 21, 3) := by decide +kernel
theorem own_d16_7 : decode prog_69_method_10_code 7 = .ok (.if_acmp .eq 20, 3) := by decide +kernel
theorem own_d16_27 : decode prog_69_method_10_code 27 = .ok (.aload_n 0, 1) := by decide +kernel
theorem own_d16_28 : decode prog_69_method_10_code 28 = .ok (.getfield 13, 3) := by decide +kernel
theorem own_d16_31 : decode prog_69_method_10_code 31 = .ok (.lreturn, 1) := by decide +kernel
theorem own_eflv (m : MethodId) (x0 : Addr) : entryFrame m #[(.ref x0)] 1 = mkF m 0 #[.val (.ref x0)] [] := by first | (simp [entryFrame, mkF, argsToLocals, Value.category]; done) | rfl
def own_Qlv (Z : State) (a : Addr) (sI : Addr) (x : Int64) (h0 : Heap) (n0 : Nat) (v : Option Value) (h : Heap) (L : List Loc) : Prop := v = some (.long x) ∧ Fr n0 L ∧ Keep h0 h [] ∧ Exa Z h a "com/example/reckoner/reckoner/Value" ∧ Fld Z h a "com/example/reckoner/reckoner/Value" "type" "Lcom/example/reckoner/reckoner/Value$Type;" (.ref sI) ∧ Fld Z h a "com/example/reckoner/reckoner/Value" "integerValue" "J" (.long x)
set_option maxRecDepth 65536 in
set_option maxHeartbeats 40000000 in
theorem own_rmlv (l : Launch) (Z : State) (a0 : Array Value) (hw : ∀ d ∈ tables_1, d.before a0 Z = true) (ws : List Jvm.Cond) (a : Addr) (sI : Addr) (x : Int64) (h0 : Heap) (n0 : Nat) (Z0 : n0 ≤ h0.size) (P0 : Exa Z h0 a "com/example/reckoner/reckoner/Value") (P1 : Fld Z h0 a "com/example/reckoner/reckoner/Value" "type" "Lcom/example/reckoner/reckoner/Value$Type;" (.ref sI)) (P2 : Fld Z h0 a "com/example/reckoner/reckoner/Value" "integerValue" "J" (.long x)) (Xo : Old Z n0 h0) (SI : Sta Z Z.heap "com/example/reckoner/reckoner/Value$Type" "INTEGER" "Lcom/example/reckoner/reckoner/Value$Type;" (.ref sI)) :
    MetFree l (⟨"com/example/reckoner/reckoner/Value", "longValue", "()J"⟩ : MethodName) (head1 (Jvm.Cond.code (⟨"com/example/reckoner/reckoner/Value", "longValue", "()J"⟩ : MethodName) prog_69_method_10_code 1 (some .long) :: ws) ({ frames := 0, cells := 0, slots := 0, locals := 0 } : Room)) (fun aa U => aa = #[(.ref a)] ∧ Z.Warmed39 U.vm ∧ U.heap = h0) (fun _ _ _ _ _ => True) (fun _ U o U' => ∃ v L, o = .returned v ∧ own_Qlv Z a sI x h0 n0 v U'.heap L ∧ FrameEnd U o U' L ({ frames := 0, cells := 0, slots := 0, locals := 0 } : Room).cells ({ frames := 0, cells := 0, slots := 0, locals := 0 } : Room).slots) := by
  refine MetFree.of_bodySF (plainFor_of_name own_pn0) hisR ?_
  intro p e s m args below meth c s₁ Bd hml0 hP hK
  obtain ⟨rfl, hZ, hh⟩ := hP
  have hx := Bd.exec
  have hby := Bd.bytes
  have hml : c.maxLocals = 1 := hml0
  have hown : s.vm.findClass "com/example/reckoner/reckoner/Value" = some m.cls := findClass_of_methodNamed Bd.named
  have hnm := (name_of_methodNamed Bd.named Bd.method).1
  have X0 : Stand p l e ({ frames := 0, cells := 0, slots := 0, locals := 0 } : Room) s m #[(.ref a)] below meth c s₁ [] 0 0 := Stand.of_body Bd
  have e0 : s₁.heap = h0 := by rw [← hh, Bd.state]; rfl
  have N0 := Fr.nil n0
  have pre0 : ∀ t, Steps p.tables e below (s₁.setTop (mkF m 0 #[.val (.ref a)] [])) t → Steps p.tables e below (s₁.setTop (entryFrame m #[(.ref a)] 1)) t := fun t k => castTop (own_eflv m a) k
  have k1 : ∀ t, Steps p.tables e below (s₁.setTop (mkF m 1 #[.val (.ref a)] [(.ref a)])) t → Steps p.tables e below (s₁.setTop (entryFrame m #[(.ref a)] 1)) t := by
    intro t k
    refine pre0 t ?_
    show Steps p.tables e below (s₁.setTop (mkF m 0 #[.val (.ref a)] [])) _
    refine XS.aloadN X0.here hx rfl (hb hby own_d16_0) rfl rfl ?_
    exact k
  obtain ⟨T2, X2, e2, st2⟩ := getF X0 hx hZ hown (host := "") (Or.inl (hw _ (List.mem_of_getElem? (i := 29) rfl))) Via.refl e0 P1 (g := (mkF m 1 #[.val (.ref a)] [(.ref a)])) rfl rfl (hb hby own_d16_1)
  have k3 : ∀ t, Steps p.tables e below (T2.setTop (mkF m 4 #[.val (.ref a)] [(.ref sI)])) t → Steps p.tables e below (s₁.setTop (entryFrame m #[(.ref a)] 1)) t := fun t k => k1 t (st2 t k)
  obtain ⟨T4, X4, e4, st4⟩ := getS2 X2 hx hZ hown (host := "") (Or.inl (hw _ (List.mem_of_getElem? (i := 22) rfl))) Via.refl e2 (SI.ext Xo.2) (g := (mkF m 4 #[.val (.ref a)] [(.ref sI)])) rfl (hb hby own_d16_4)
  have k5 : ∀ t, Steps p.tables e below (T4.setTop (mkF m 7 #[.val (.ref a)] [(.ref sI), (.ref sI)])) t → Steps p.tables e below (s₁.setTop (entryFrame m #[(.ref a)] 1)) t := fun t k => k3 t (st4 t k)
  have k6 : ∀ t, Steps p.tables e below (T4.setTop (mkF m 28 #[.val (.ref a)] [(.ref a)])) t → Steps p.tables e below (s₁.setTop (entryFrame m #[(.ref a)] 1)) t := by
    intro t k
    refine k5 t ?_
    show Steps p.tables e below (T4.setTop (mkF m 7 #[.val (.ref a)] [(.ref sI), (.ref sI)])) _
    refine Jvm.RoadKit.acmp (g := (mkF m 7 #[.val (.ref a)] [(.ref sI), (.ref sI)])) X4 hx rfl rfl rfl (pc0 := 7) (pc' := 27) (same := true) rfl (hb hby own_d16_7) rfl (decide_eq_true rfl) (by decide) (by decide) ?_
    show Steps p.tables e below (T4.setTop (mkF m 27 #[.val (.ref a)] [])) _
    refine XS.aloadN X4.here hx rfl (hb hby own_d16_27) rfl rfl ?_
    exact k
  obtain ⟨T7, X7, e7, st7⟩ := getF X4 hx hZ hown (host := "") (Or.inl (hw _ (List.mem_of_getElem? (i := 31) rfl))) Via.refl e4 P2 (g := (mkF m 28 #[.val (.ref a)] [(.ref a)])) rfl rfl (hb hby own_d16_28)
  have k8 : ∀ t, Steps p.tables e below (T7.setTop (mkF m 31 #[.val (.ref a)] [(.long x)])) t → Steps p.tables e below (s₁.setTop (entryFrame m #[(.ref a)] 1)) t := fun t k => k6 t (st7 t k)
  obtain ⟨fs, hr, hrun, hended, hW, hsame⟩ := X7.leave (v := (some (.long x))) (fun h => by rw [Bd.returns] at h; cases h)
  refine ⟨_, _, k8 _ ?_, hrun, hended, _, _, rfl, ?_, ⟨_, rfl⟩, hW, hsame.mono (by decide) (by decide)⟩
  · exact X7.lreturnOut hx Bd.returns (hb hby own_d16_31) hr
  · show own_Qlv Z a sI x h0 n0 _ T7.heap _
    rw [e7]
    exact ⟨rfl, N0, (Keep.refl h0 []), P0, P1, P2⟩
theorem own_d9_0 : decode prog_48_method_8_code 0 = .ok (.aload_n 0, 1) := by decide +kernel
theorem own_d9_1 : decode prog_48_method_8_code 1 = .ok (.getfield 9, 3) := by decide +kernel
theorem own_d9_4 : decode prog_48_method_8_code 4 = .ok (.aload_n 0, 1) := by decide +kernel
theorem own_d9_5 : decode prog_48_method_8_code 5 = .ok (.getfield 19, 3) := by decide +kernel
theorem own_d9_8 : decode prog_48_method_8_code 8 = .ok (.iconst 1, 1) := by decide +kernel
theorem own_d9_9 : decode prog_48_method_8_code 9 = .ok (.isub, 1) := by decide +kernel
theorem own_d9_10 : decode prog_48_method_8_code 10 = .ok (.iload_n 1, 1) := by decide +kernel
theorem own_d9_11 : decode prog_48_method_8_code 11 = .ok (.isub, 1) := by decide +kernel
theorem own_d9_12 : decode prog_48_method_8_code 12 = .ok (.aaload, 1) := by decide +kernel
theorem own_d9_13 : decode prog_48_method_8_code 13 = .ok (.astore_n 2, 1) := by decide +kernel
theorem own_d9_14 : decode prog_48_method_8_code 14 = .ok (.aload_n 2, 1) := by decide +kernel
theorem own_d9_15 : decode prog_48_method_8_code 15 = .ok (.ifnull 14, 3) := by decide +kernel
theorem own_d9_29 : decode prog_48_method_8_code 29 = .ok (.iconst 0, 1) := by decide +kernel
theorem own_d9_30 : decode prog_48_method_8_code 30 = .ok (.ireturn, 1) := by decide +kernel
theorem own_efsi1 (m : MethodId) (x0 : Addr) : entryFrame m #[(.ref x0), (.int (0 : Int32))] 3 = mkF m 0 #[.val (.ref x0), .val (.int (0 : Int32)), .unset] [] := by first | (simp [entryFrame, mkF, argsToLocals, Value.category]; done) | rfl
def own_Qsi1 (Z : State) (a : Addr) (vs : Addr) (rs : Addr) (cv : ClassId) (cr : ClassId) (el1 : Value) (el2 : Value) (d0 : UInt64) (d1 : UInt64) (d2 : UInt64) (h0 : Heap) (n0 : Nat) (v : Option Value) (h : Heap) (L : List Loc) : Prop := v = some (.int (0 : Int32)) ∧ Fr n0 L ∧ Keep h0 h [] ∧ Exa Z h a "com/example/reckoner/reckoner/OperandStack" ∧ Fld Z h a "com/example/reckoner/reckoner/OperandStack" "values" "[Lcom/example/reckoner/reckoner/Value;" (.ref vs) ∧ Fld Z h a "com/example/reckoner/reckoner/OperandStack" "reals" "[D" (.ref rs) ∧ Fld Z h a "com/example/reckoner/reckoner/OperandStack" "height" "I" (.int (1 : Int32)) ∧ Arv Z h vs cv (.object "com/example/reckoner/reckoner/Value") (3 : Int32) [.null, el1, el2] .null ∧ Ovr Z cv "com/example/reckoner/reckoner/Value" ∧ Arv Z h rs cr .double (3 : Int32) [(.double d0), (.double d1), (.double d2)] (.double (0 : UInt64))
set_option maxRecDepth 65536 in
set_option maxHeartbeats 40000000 in
theorem own_rmsi1 (l : Launch) (Z : State) (a0 : Array Value) (hw : ∀ d ∈ tables_1, d.before a0 Z = true) (ws : List Jvm.Cond) (a : Addr) (vs : Addr) (rs : Addr) (cv : ClassId) (cr : ClassId) (el1 : Value) (el2 : Value) (d0 : UInt64) (d1 : UInt64) (d2 : UInt64) (h0 : Heap) (n0 : Nat) (Z0 : n0 ≤ h0.size) (P0 : Exa Z h0 a "com/example/reckoner/reckoner/OperandStack") (P1 : Fld Z h0 a "com/example/reckoner/reckoner/OperandStack" "values" "[Lcom/example/reckoner/reckoner/Value;" (.ref vs)) (P2 : Fld Z h0 a "com/example/reckoner/reckoner/OperandStack" "reals" "[D" (.ref rs)) (P3 : Fld Z h0 a "com/example/reckoner/reckoner/OperandStack" "height" "I" (.int (1 : Int32))) (P4 : Arv Z h0 vs cv (.object "com/example/reckoner/reckoner/Value") (3 : Int32) [.null, el1, el2] .null) (P5 : Ovr Z cv "com/example/reckoner/reckoner/Value") (P6 : Arv Z h0 rs cr .double (3 : Int32) [(.double d0), (.double d1), (.double d2)] (.double (0 : UInt64))) (ge_a : n0 ≤ a) (ge_vs : n0 ≤ vs) (ge_rs : n0 ≤ rs) (ne_a_vs : a ≠ vs) (ne_a_rs : a ≠ rs) (ne_vs_rs : vs ≠ rs) :
    MetFree l (⟨"com/example/reckoner/reckoner/OperandStack", "isInteger", "(I)Z"⟩ : MethodName) (head1 (Jvm.Cond.code (⟨"com/example/reckoner/reckoner/OperandStack", "isInteger", "(I)Z"⟩ : MethodName) prog_48_method_8_code 3 (some .boolean) :: ws) ({ frames := 0, cells := 0, slots := 0, locals := 0 } : Room)) (fun aa U => aa = #[(.ref a), (.int (0 : Int32))] ∧ Z.Warmed39 U.vm ∧ U.heap = h0) (fun _ _ _ _ _ => True) (fun _ U o U' => ∃ v L, o = .returned v ∧ own_Qsi1 Z a vs rs cv cr el1 el2 d0 d1 d2 h0 n0 v U'.heap L ∧ FrameEnd U o U' L ({ frames := 0, cells := 0, slots := 0, locals := 0 } : Room).cells ({ frames := 0, cells := 0, slots := 0, locals := 0 } : Room).slots) := by
  refine MetFree.of_bodySF (plainFor_of_name own_pn1) hisR ?_
  intro p e s m args below meth c s₁ Bd hml0 hP hK
  obtain ⟨rfl, hZ, hh⟩ := hP
  have hx := Bd.exec
  have hby := Bd.bytes
  have hml : c.maxLocals = 3 := hml0
  have hown : s.vm.findClass "com/example/reckoner/reckoner/OperandStack" = some m.cls := findClass_of_methodNamed Bd.named
  have hnm := (name_of_methodNamed Bd.named Bd.method).1
  have X0 : Stand p l e ({ frames := 0, cells := 0, slots := 0, locals := 0 } : Room) s m #[(.ref a), (.int (0 : Int32))] below meth c s₁ [] 0 0 := Stand.of_body Bd
  have e0 : s₁.heap = h0 := by rw [← hh, Bd.state]; rfl
  have N0 := Fr.nil n0
  have pre0 : ∀ t, Steps p.tables e below (s₁.setTop (mkF m 0 #[.val (.ref a), .val (.int (0 : Int32)), .unset] [])) t → Steps p.tables e below (s₁.setTop (entryFrame m #[(.ref a), (.int (0 : Int32))] 3)) t := fun t k => castTop (own_efsi1 m a) k
  have k1 : ∀ t, Steps p.tables e below (s₁.setTop (mkF m 1 #[.val (.ref a), .val (.int (0 : Int32)), .unset] [(.ref a)])) t → Steps p.tables e below (s₁.setTop (entryFrame m #[(.ref a), (.int (0 : Int32))] 3)) t := by
    intro t k
    refine pre0 t ?_
    show Steps p.tables e below (s₁.setTop (mkF m 0 #[.val (.ref a), .val (.int (0 : Int32)), .unset] [])) _
    refine XS.aloadN X0.here hx rfl (hb hby own_d9_0) rfl rfl ?_
    exact k
  obtain ⟨T2, X2, e2, st2⟩ := getF X0 hx hZ hown (host := "") (Or.inl (hw _ (List.mem_of_getElem? (i := 11) rfl))) Via.refl e0 P1 (g := (mkF m 1 #[.val (.ref a), .val (.int (0 : Int32)), .unset] [(.ref a)])) rfl rfl (hb hby own_d9_1)
  have k3 : ∀ t, Steps p.tables e below (T2.setTop (mkF m 4 #[.val (.ref a), .val (.int (0 : Int32)), .unset] [(.ref vs)])) t → Steps p.tables e below (s₁.setTop (entryFrame m #[(.ref a), (.int (0 : Int32))] 3)) t := fun t k => k1 t (st2 t k)
  have k4 : ∀ t, Steps p.tables e below (T2.setTop (mkF m 5 #[.val (.ref a), .val (.int (0 : Int32)), .unset] [(.ref a), (.ref vs)])) t → Steps p.tables e below (s₁.setTop (entryFrame m #[(.ref a), (.int (0 : Int32))] 3)) t := by
    intro t k
    refine k3 t ?_
    show Steps p.tables e below (T2.setTop (mkF m 4 #[.val (.ref a), .val (.int (0 : Int32)), .unset] [(.ref vs)])) _
    refine XS.aloadN X2.here hx rfl (hb hby own_d9_4) rfl rfl ?_
    exact k
  obtain ⟨T5, X5, e5, st5⟩ := getF X2 hx hZ hown (host := "") (Or.inl (hw _ (List.mem_of_getElem? (i := 40) rfl))) Via.refl e2 P3 (g := (mkF m 5 #[.val (.ref a), .val (.int (0 : Int32)), .unset] [(.ref a), (.ref vs)])) rfl rfl (hb hby own_d9_5)
  have k6 : ∀ t, Steps p.tables e below (T5.setTop (mkF m 8 #[.val (.ref a), .val (.int (0 : Int32)), .unset] [(.int (1 : Int32)), (.ref vs)])) t → Steps p.tables e below (s₁.setTop (entryFrame m #[(.ref a), (.int (0 : Int32))] 3)) t := fun t k => k4 t (st5 t k)
  obtain ⟨cl7, Ar7, qa7, Sa7, Na7, Ha7, Ga7⟩ := id P4
  have hin8 : ¬ ((0 : Int32) < 0 ∨ cl7.slots.size ≤ ((0 : Int32)).toNatClampNeg) := inb_of Sa7 ⟨by decide, by decide⟩
  have hat9 : cl7.slots[((0 : Int32)).toNatClampNeg]? = some .null := Ha7 0 (Nat.lt_of_not_le fun q => hin8 (Or.inr q))
  have k10 : ∀ t, Steps p.tables e below (T5.setTop (mkF m 30 #[.val (.ref a), .val (.int (0 : Int32)), .val .null] [(.int (0 : Int32))])) t → Steps p.tables e below (s₁.setTop (entryFrame m #[(.ref a), (.int (0 : Int32))] 3)) t := by
    intro t k
    refine k6 t ?_
    show Steps p.tables e below (T5.setTop (mkF m 8 #[.val (.ref a), .val (.int (0 : Int32)), .unset] [(.int (1 : Int32)), (.ref vs)])) _
    refine XS.iconst X5.here hx rfl (hb hby own_d9_8) ?_
    show Steps p.tables e below (T5.setTop (mkF m 9 #[.val (.ref a), .val (.int (0 : Int32)), .unset] [(.int (1 : Int32)), (.int (1 : Int32)), (.ref vs)])) _
    refine XS.isub X5.here hx rfl (hb hby own_d9_9) rfl ?_
    show Steps p.tables e below (T5.setTop (mkF m 10 #[.val (.ref a), .val (.int (0 : Int32)), .unset] [(.int (0 : Int32)), (.ref vs)])) _
    refine XS.iloadN X5.here hx rfl (hb hby own_d9_10) rfl ?_
    show Steps p.tables e below (T5.setTop (mkF m 11 #[.val (.ref a), .val (.int (0 : Int32)), .unset] [(.int (0 : Int32)), (.int (0 : Int32)), (.ref vs)])) _
    refine XS.isub X5.here hx rfl (hb hby own_d9_11) rfl ?_
    show Steps p.tables e below (T5.setTop (mkF m 12 #[.val (.ref a), .val (.int (0 : Int32)), .unset] [(.int (0 : Int32)), (.ref vs)])) _
    refine X5.aaload hx (j := (0 : Int32)) (v := .null) (by rw [e5]; exact Ar7.1) (State.isArrayOf_alike hZ.alike Ar7.2.1) rfl Ar7.2.2 hin8 hat9 (g := (mkF m 12 #[.val (.ref a), .val (.int (0 : Int32)), .unset] [(.int (0 : Int32)), (.ref vs)])) rfl rfl (hb hby own_d9_12) _ ?_
    show Steps p.tables e below (T5.setTop (mkF m 13 #[.val (.ref a), .val (.int (0 : Int32)), .unset] [.null])) _
    refine XS.astoreN X5.here hx rfl (hb hby own_d9_13) rfl rfl (l' := #[.val (.ref a), .val (.int (0 : Int32)), .val .null]) rfl ?_
    show Steps p.tables e below (T5.setTop (mkF m 14 #[.val (.ref a), .val (.int (0 : Int32)), .val .null] [])) _
    refine XS.aloadN X5.here hx rfl (hb hby own_d9_14) rfl rfl ?_
    show Steps p.tables e below (T5.setTop (mkF m 15 #[.val (.ref a), .val (.int (0 : Int32)), .val .null] [.null])) _
    refine XS.ifnullYes X5.here hx rfl (pc0 := 15) (pc' := 29) rfl (hb hby own_d9_15) rfl (by decide) (by decide) ?_
    show Steps p.tables e below (T5.setTop (mkF m 29 #[.val (.ref a), .val (.int (0 : Int32)), .val .null] [])) _
    refine XS.iconst X5.here hx rfl (hb hby own_d9_29) ?_
    exact k
  obtain ⟨fs, hr, hrun, hended, hW, hsame⟩ := X5.leave (v := (some (.int (0 : Int32)))) (fun h => by rw [Bd.returns] at h; cases h)
  refine ⟨_, _, k10 _ ?_, hrun, hended, _, _, rfl, ?_, ⟨_, rfl⟩, hW, hsame.mono (by decide) (by decide)⟩
  · exact retN X5 hx (t := .boolean) Bd.returns (by simp) (hb hby own_d9_30) hr
  · show own_Qsi1 Z a vs rs cv cr el1 el2 d0 d1 d2 h0 n0 _ T5.heap _
    rw [e5]
    exact ⟨rfl, N0, (Keep.refl h0 []), P0, P1, P2, P3, P4, P5, P6⟩
theorem own_efsi2 (m : MethodId) (x0 : Addr) : entryFrame m #[(.ref x0), (.int (0 : Int32))] 3 = mkF m 0 #[.val (.ref x0), .val (.int (0 : Int32)), .unset] [] := by first | (simp [entryFrame, mkF, argsToLocals, Value.category]; done) | rfl
def own_Qsi2 (Z : State) (a : Addr) (vs : Addr) (rs : Addr) (cv : ClassId) (cr : ClassId) (el0 : Value) (el2 : Value) (d0 : UInt64) (d1 : UInt64) (d2 : UInt64) (h0 : Heap) (n0 : Nat) (v : Option Value) (h : Heap) (L : List Loc) : Prop := v = some (.int (0 : Int32)) ∧ Fr n0 L ∧ Keep h0 h [] ∧ Exa Z h a "com/example/reckoner/reckoner/OperandStack" ∧ Fld Z h a "com/example/reckoner/reckoner/OperandStack" "values" "[Lcom/example/reckoner/reckoner/Value;" (.ref vs) ∧ Fld Z h a "com/example/reckoner/reckoner/OperandStack" "reals" "[D" (.ref rs) ∧ Fld Z h a "com/example/reckoner/reckoner/OperandStack" "height" "I" (.int (2 : Int32)) ∧ Arv Z h vs cv (.object "com/example/reckoner/reckoner/Value") (3 : Int32) [el0, .null, el2] .null ∧ Ovr Z cv "com/example/reckoner/reckoner/Value" ∧ Arv Z h rs cr .double (3 : Int32) [(.double d0), (.double d1), (.double d2)] (.double (0 : UInt64))
set_option maxRecDepth 65536 in
set_option maxHeartbeats 40000000 in
theorem own_rmsi2 (l : Launch) (Z : State) (a0 : Array Value) (hw : ∀ d ∈ tables_1, d.before a0 Z = true) (ws : List Jvm.Cond) (a : Addr) (vs : Addr) (rs : Addr) (cv : ClassId) (cr : ClassId) (el0 : Value) (el2 : Value) (d0 : UInt64) (d1 : UInt64) (d2 : UInt64) (h0 : Heap) (n0 : Nat) (Z0 : n0 ≤ h0.size) (P0 : Exa Z h0 a "com/example/reckoner/reckoner/OperandStack") (P1 : Fld Z h0 a "com/example/reckoner/reckoner/OperandStack" "values" "[Lcom/example/reckoner/reckoner/Value;" (.ref vs)) (P2 : Fld Z h0 a "com/example/reckoner/reckoner/OperandStack" "reals" "[D" (.ref rs)) (P3 : Fld Z h0 a "com/example/reckoner/reckoner/OperandStack" "height" "I" (.int (2 : Int32))) (P4 : Arv Z h0 vs cv (.object "com/example/reckoner/reckoner/Value") (3 : Int32) [el0, .null, el2] .null) (P5 : Ovr Z cv "com/example/reckoner/reckoner/Value") (P6 : Arv Z h0 rs cr .double (3 : Int32) [(.double d0), (.double d1), (.double d2)] (.double (0 : UInt64))) (ge_a : n0 ≤ a) (ge_vs : n0 ≤ vs) (ge_rs : n0 ≤ rs) (ne_a_vs : a ≠ vs) (ne_a_rs : a ≠ rs) (ne_vs_rs : vs ≠ rs) :
    MetFree l (⟨"com/example/reckoner/reckoner/OperandStack", "isInteger", "(I)Z"⟩ : MethodName) (head1 (Jvm.Cond.code (⟨"com/example/reckoner/reckoner/OperandStack", "isInteger", "(I)Z"⟩ : MethodName) prog_48_method_8_code 3 (some .boolean) :: ws) ({ frames := 0, cells := 0, slots := 0, locals := 0 } : Room)) (fun aa U => aa = #[(.ref a), (.int (0 : Int32))] ∧ Z.Warmed39 U.vm ∧ U.heap = h0) (fun _ _ _ _ _ => True) (fun _ U o U' => ∃ v L, o = .returned v ∧ own_Qsi2 Z a vs rs cv cr el0 el2 d0 d1 d2 h0 n0 v U'.heap L ∧ FrameEnd U o U' L ({ frames := 0, cells := 0, slots := 0, locals := 0 } : Room).cells ({ frames := 0, cells := 0, slots := 0, locals := 0 } : Room).slots) := by
  refine MetFree.of_bodySF (plainFor_of_name own_pn1) hisR ?_
  intro p e s m args below meth c s₁ Bd hml0 hP hK
  obtain ⟨rfl, hZ, hh⟩ := hP
  have hx := Bd.exec
  have hby := Bd.bytes
  have hml : c.maxLocals = 3 := hml0
  have hown : s.vm.findClass "com/example/reckoner/reckoner/OperandStack" = some m.cls := findClass_of_methodNamed Bd.named
  have hnm := (name_of_methodNamed Bd.named Bd.method).1
  have X0 : Stand p l e ({ frames := 0, cells := 0, slots := 0, locals := 0 } : Room) s m #[(.ref a), (.int (0 : Int32))] below meth c s₁ [] 0 0 := Stand.of_body Bd
  have e0 : s₁.heap = h0 := by rw [← hh, Bd.state]; rfl
  have N0 := Fr.nil n0
  have pre0 : ∀ t, Steps p.tables e below (s₁.setTop (mkF m 0 #[.val (.ref a), .val (.int (0 : Int32)), .unset] [])) t → Steps p.tables e below (s₁.setTop (entryFrame m #[(.ref a), (.int (0 : Int32))] 3)) t := fun t k => castTop (own_efsi2 m a) k
  have k1 : ∀ t, Steps p.tables e below (s₁.setTop (mkF m 1 #[.val (.ref a), .val (.int (0 : Int32)), .unset] [(.ref a)])) t → Steps p.tables e below (s₁.setTop (entryFrame m #[(.ref a), (.int (0 : Int32))] 3)) t := by
    intro t k
    refine pre0 t ?_
    show Steps p.tables e below (s₁.setTop (mkF m 0 #[.val (.ref a), .val (.int (0 : Int32)), .unset] [])) _
    refine XS.aloadN X0.here hx rfl (hb hby own_d9_0) rfl rfl ?_
    exact k
  obtain ⟨T2, X2, e2, st2⟩ := getF X0 hx hZ hown (host := "") (Or.inl (hw _ (List.mem_of_getElem? (i := 11) rfl))) Via.refl e0 P1 (g := (mkF m 1 #[.val (.ref a), .val (.int (0 : Int32)), .unset] [(.ref a)])) rfl rfl (hb hby own_d9_1)
  have k3 : ∀ t, Steps p.tables e below (T2.setTop (mkF m 4 #[.val (.ref a), .val (.int (0 : Int32)), .unset] [(.ref vs)])) t → Steps p.tables e below (s₁.setTop (entryFrame m #[(.ref a), (.int (0 : Int32))] 3)) t := fun t k => k1 t (st2 t k)
  have k4 : ∀ t, Steps p.tables e below (T2.setTop (mkF m 5 #[.val (.ref a), .val (.int (0 : Int32)), .unset] [(.ref a), (.ref vs)])) t → Steps p.tables e below (s₁.setTop (entryFrame m #[(.ref a), (.int (0 : Int32))] 3)) t := by
    intro t k
    refine k3 t ?_
    show Steps p.tables e below (T2.setTop (mkF m 4 #[.val (.ref a), .val (.int (0 : Int32)), .unset] [(.ref vs)])) _
    refine XS.aloadN X2.here hx rfl (hb hby own_d9_4) rfl rfl ?_
    exact k
  obtain ⟨T5, X5, e5, st5⟩ := getF X2 hx hZ hown (host := "") (Or.inl (hw _ (List.mem_of_getElem? (i := 40) rfl))) Via.refl e2 P3 (g := (mkF m 5 #[.val (.ref a), .val (.int (0 : Int32)), .unset] [(.ref a), (.ref vs)])) rfl rfl (hb hby own_d9_5)
  have k6 : ∀ t, Steps p.tables e below (T5.setTop (mkF m 8 #[.val (.ref a), .val (.int (0 : Int32)), .unset] [(.int (2 : Int32)), (.ref vs)])) t → Steps p.tables e below (s₁.setTop (entryFrame m #[(.ref a), (.int (0 : Int32))] 3)) t := fun t k => k4 t (st5 t k)
  obtain ⟨cl7, Ar7, qa7, Sa7, Na7, Ha7, Ga7⟩ := id P4
  have hin8 : ¬ ((1 : Int32) < 0 ∨ cl7.slots.size ≤ ((1 : Int32)).toNatClampNeg) := inb_of Sa7 ⟨by decide, by decide⟩
  have hat9 : cl7.slots[((1 : Int32)).toNatClampNeg]? = some .null := Ha7 1 (Nat.lt_of_not_le fun q => hin8 (Or.inr q))
  have k10 : ∀ t, Steps p.tables e below (T5.setTop (mkF m 30 #[.val (.ref a), .val (.int (0 : Int32)), .val .null] [(.int (0 : Int32))])) t → Steps p.tables e below (s₁.setTop (entryFrame m #[(.ref a), (.int (0 : Int32))] 3)) t := by
    intro t k
    refine k6 t ?_
    show Steps p.tables e below (T5.setTop (mkF m 8 #[.val (.ref a), .val (.int (0 : Int32)), .unset] [(.int (2 : Int32)), (.ref vs)])) _
    refine XS.iconst X5.here hx rfl (hb hby own_d9_8) ?_
    show Steps p.tables e below (T5.setTop (mkF m 9 #[.val (.ref a), .val (.int (0 : Int32)), .unset] [(.int (1 : Int32)), (.int (2 : Int32)), (.ref vs)])) _
    refine XS.isub X5.here hx rfl (hb hby own_d9_9) rfl ?_
    show Steps p.tables e below (T5.setTop (mkF m 10 #[.val (.ref a), .val (.int (0 : Int32)), .unset] [(.int (1 : Int32)), (.ref vs)])) _
    refine XS.iloadN X5.here hx rfl (hb hby own_d9_10) rfl ?_
    show Steps p.tables e below (T5.setTop (mkF m 11 #[.val (.ref a), .val (.int (0 : Int32)), .unset] [(.int (0 : Int32)), (.int (1 : Int32)), (.ref vs)])) _
    refine XS.isub X5.here hx rfl (hb hby own_d9_11) rfl ?_
    show Steps p.tables e below (T5.setTop (mkF m 12 #[.val (.ref a), .val (.int (0 : Int32)), .unset] [(.int (1 : Int32)), (.ref vs)])) _
    refine X5.aaload hx (j := (1 : Int32)) (v := .null) (by rw [e5]; exact Ar7.1) (State.isArrayOf_alike hZ.alike Ar7.2.1) rfl Ar7.2.2 hin8 hat9 (g := (mkF m 12 #[.val (.ref a), .val (.int (0 : Int32)), .unset] [(.int (1 : Int32)), (.ref vs)])) rfl rfl (hb hby own_d9_12) _ ?_
    show Steps p.tables e below (T5.setTop (mkF m 13 #[.val (.ref a), .val (.int (0 : Int32)), .unset] [.null])) _
    refine XS.astoreN X5.here hx rfl (hb hby own_d9_13) rfl rfl (l' := #[.val (.ref a), .val (.int (0 : Int32)), .val .null]) rfl ?_
    show Steps p.tables e below (T5.setTop (mkF m 14 #[.val (.ref a), .val (.int (0 : Int32)), .val .null] [])) _
    refine XS.aloadN X5.here hx rfl (hb hby own_d9_14) rfl rfl ?_
    show Steps p.tables e below (T5.setTop (mkF m 15 #[.val (.ref a), .val (.int (0 : Int32)), .val .null] [.null])) _
    refine XS.ifnullYes X5.here hx rfl (pc0 := 15) (pc' := 29) rfl (hb hby own_d9_15) rfl (by decide) (by decide) ?_
    show Steps p.tables e below (T5.setTop (mkF m 29 #[.val (.ref a), .val (.int (0 : Int32)), .val .null] [])) _
    refine XS.iconst X5.here hx rfl (hb hby own_d9_29) ?_
    exact k
  obtain ⟨fs, hr, hrun, hended, hW, hsame⟩ := X5.leave (v := (some (.int (0 : Int32)))) (fun h => by rw [Bd.returns] at h; cases h)
  refine ⟨_, _, k10 _ ?_, hrun, hended, _, _, rfl, ?_, ⟨_, rfl⟩, hW, hsame.mono (by decide) (by decide)⟩
  · exact retN X5 hx (t := .boolean) Bd.returns (by simp) (hb hby own_d9_30) hr
  · show own_Qsi2 Z a vs rs cv cr el0 el2 d0 d1 d2 h0 n0 _ T5.heap _
    rw [e5]
    exact ⟨rfl, N0, (Keep.refl h0 []), P0, P1, P2, P3, P4, P5, P6⟩
theorem own_d9_18 : decode prog_48_method_8_code 18 = .ok (.aload_n 2, 1) := by decide +kernel
theorem own_d9_19 : decode prog_48_method_8_code 19 = .ok (.invokevirtual 35, 3) := by decide +kernel
theorem own_d9_22 : decode prog_48_method_8_code 22 = .ok (.ifCond .eq 7, 3) := by decide +kernel
theorem own_d9_25 : decode prog_48_method_8_code 25 = .ok (.iconst 1, 1) := by decide +kernel
theorem own_d9_26 : decode prog_48_method_8_code 26 = .ok (.goto 4, 3) := by decide +kernel
theorem own_pd3 : parseMethodDescriptor "()Z" = some ⟨[], some .boolean⟩ := by decide +kernel
theorem own_efsj (m : MethodId) (x0 : Addr) : entryFrame m #[(.ref x0), (.int (1 : Int32))] 3 = mkF m 0 #[.val (.ref x0), .val (.int (1 : Int32)), .unset] [] := by first | (simp [entryFrame, mkF, argsToLocals, Value.category]; done) | rfl
def own_Qsj (Z : State) (a : Addr) (vs : Addr) (rs : Addr) (cv : ClassId) (cr : ClassId) (x0 : Addr) (el1 : Value) (el2 : Value) (d0 : UInt64) (d1 : UInt64) (d2 : UInt64)  (sI : Addr) (h0 : Heap) (n0 : Nat) (v : Option Value) (h : Heap) (L : List Loc) : Prop := v = some (.int (1 : Int32)) ∧ Fr n0 L ∧ Keep h0 h [] ∧ Exa Z h a "com/example/reckoner/reckoner/OperandStack" ∧ Fld Z h a "com/example/reckoner/reckoner/OperandStack" "values" "[Lcom/example/reckoner/reckoner/Value;" (.ref vs) ∧ Fld Z h a "com/example/reckoner/reckoner/OperandStack" "reals" "[D" (.ref rs) ∧ Fld Z h a "com/example/reckoner/reckoner/OperandStack" "height" "I" (.int (2 : Int32)) ∧ Arv Z h vs cv (.object "com/example/reckoner/reckoner/Value") (3 : Int32) [(.ref x0), el1, el2] .null ∧ Ovr Z cv "com/example/reckoner/reckoner/Value" ∧ Arv Z h rs cr .double (3 : Int32) [(.double d0), (.double d1), (.double d2)] (.double (0 : UInt64)) ∧ Exa Z h x0 "com/example/reckoner/reckoner/Value" ∧ Fld Z h x0 "com/example/reckoner/reckoner/Value" "type" "Lcom/example/reckoner/reckoner/Value$Type;" (.ref sI)
set_option maxRecDepth 65536 in
set_option maxHeartbeats 40000000 in
theorem own_rmsj (l : Launch) (Z : State) (a0 : Array Value) (hw : ∀ d ∈ tables_1, d.before a0 Z = true) (ws : List Jvm.Cond) (a : Addr) (vs : Addr) (rs : Addr) (cv : ClassId) (cr : ClassId) (x0 : Addr) (el1 : Value) (el2 : Value) (d0 : UInt64) (d1 : UInt64) (d2 : UInt64)  (sI : Addr) (h0 : Heap) (n0 : Nat) (Z0 : n0 ≤ h0.size) (P0 : Exa Z h0 a "com/example/reckoner/reckoner/OperandStack") (P1 : Fld Z h0 a "com/example/reckoner/reckoner/OperandStack" "values" "[Lcom/example/reckoner/reckoner/Value;" (.ref vs)) (P2 : Fld Z h0 a "com/example/reckoner/reckoner/OperandStack" "reals" "[D" (.ref rs)) (P3 : Fld Z h0 a "com/example/reckoner/reckoner/OperandStack" "height" "I" (.int (2 : Int32))) (P4 : Arv Z h0 vs cv (.object "com/example/reckoner/reckoner/Value") (3 : Int32) [(.ref x0), el1, el2] .null) (P5 : Ovr Z cv "com/example/reckoner/reckoner/Value") (P6 : Arv Z h0 rs cr .double (3 : Int32) [(.double d0), (.double d1), (.double d2)] (.double (0 : UInt64))) (P7 : Exa Z h0 x0 "com/example/reckoner/reckoner/Value") (P8 : Fld Z h0 x0 "com/example/reckoner/reckoner/Value" "type" "Lcom/example/reckoner/reckoner/Value$Type;" (.ref sI)) (ge_a : n0 ≤ a) (ge_vs : n0 ≤ vs) (ge_rs : n0 ≤ rs) (ne_a_vs : a ≠ vs) (ne_a_rs : a ≠ rs) (ne_vs_rs : vs ≠ rs) (Xo : Old Z n0 h0) (SI : Sta Z Z.heap "com/example/reckoner/reckoner/Value$Type" "INTEGER" "Lcom/example/reckoner/reckoner/Value$Type;" (.ref sI)) :
    MetFree l (⟨"com/example/reckoner/reckoner/OperandStack", "isInteger", "(I)Z"⟩ : MethodName) (head1 (Jvm.Cond.code (⟨"com/example/reckoner/reckoner/OperandStack", "isInteger", "(I)Z"⟩ : MethodName) prog_48_method_8_code 3 (some .boolean) :: ws) ({ frames := 1, cells := 0, slots := 0, locals := 12 } : Room)) (fun aa U => aa = #[(.ref a), (.int (1 : Int32))] ∧ Z.Warmed39 U.vm ∧ U.heap = h0) (fun _ _ _ _ _ => True) (fun _ U o U' => ∃ v L, o = .returned v ∧ own_Qsj Z a vs rs cv cr x0 el1 el2 d0 d1 d2 sI h0 n0 v U'.heap L ∧ FrameEnd U o U' L ({ frames := 1, cells := 0, slots := 0, locals := 12 } : Room).cells ({ frames := 1, cells := 0, slots := 0, locals := 12 } : Room).slots) := by
  refine MetFree.of_bodySF (plainFor_of_name own_pn1) hisR ?_
  intro p e s m args below meth c s₁ Bd hml0 hP hK
  obtain ⟨rfl, hZ, hh⟩ := hP
  have hx := Bd.exec
  have hby := Bd.bytes
  have hml : c.maxLocals = 3 := hml0
  have hown : s.vm.findClass "com/example/reckoner/reckoner/OperandStack" = some m.cls := findClass_of_methodNamed Bd.named
  have hnm := (name_of_methodNamed Bd.named Bd.method).1
  have X0 : Stand p l e ({ frames := 1, cells := 0, slots := 0, locals := 12 } : Room) s m #[(.ref a), (.int (1 : Int32))] below meth c s₁ [] 0 0 := Stand.of_body Bd
  have e0 : s₁.heap = h0 := by rw [← hh, Bd.state]; rfl
  have N0 := Fr.nil n0
  have pre0 : ∀ t, Steps p.tables e below (s₁.setTop (mkF m 0 #[.val (.ref a), .val (.int (1 : Int32)), .unset] [])) t → Steps p.tables e below (s₁.setTop (entryFrame m #[(.ref a), (.int (1 : Int32))] 3)) t := fun t k => castTop (own_efsj m a) k
  have k1 : ∀ t, Steps p.tables e below (s₁.setTop (mkF m 1 #[.val (.ref a), .val (.int (1 : Int32)), .unset] [(.ref a)])) t → Steps p.tables e below (s₁.setTop (entryFrame m #[(.ref a), (.int (1 : Int32))] 3)) t := by
    intro t k
    refine pre0 t ?_
    show Steps p.tables e below (s₁.setTop (mkF m 0 #[.val (.ref a), .val (.int (1 : Int32)), .unset] [])) _
    refine XS.aloadN X0.here hx rfl (hb hby own_d9_0) rfl rfl ?_
    exact k
  obtain ⟨T2, X2, e2, st2⟩ := getF X0 hx hZ hown (host := "") (Or.inl (hw _ (List.mem_of_getElem? (i := 11) rfl))) Via.refl e0 P1 (g := (mkF m 1 #[.val (.ref a), .val (.int (1 : Int32)), .unset] [(.ref a)])) rfl rfl (hb hby own_d9_1)
  have k3 : ∀ t, Steps p.tables e below (T2.setTop (mkF m 4 #[.val (.ref a), .val (.int (1 : Int32)), .unset] [(.ref vs)])) t → Steps p.tables e below (s₁.setTop (entryFrame m #[(.ref a), (.int (1 : Int32))] 3)) t := fun t k => k1 t (st2 t k)
  have k4 : ∀ t, Steps p.tables e below (T2.setTop (mkF m 5 #[.val (.ref a), .val (.int (1 : Int32)), .unset] [(.ref a), (.ref vs)])) t → Steps p.tables e below (s₁.setTop (entryFrame m #[(.ref a), (.int (1 : Int32))] 3)) t := by
    intro t k
    refine k3 t ?_
    show Steps p.tables e below (T2.setTop (mkF m 4 #[.val (.ref a), .val (.int (1 : Int32)), .unset] [(.ref vs)])) _
    refine XS.aloadN X2.here hx rfl (hb hby own_d9_4) rfl rfl ?_
    exact k
  obtain ⟨T5, X5, e5, st5⟩ := getF X2 hx hZ hown (host := "") (Or.inl (hw _ (List.mem_of_getElem? (i := 40) rfl))) Via.refl e2 P3 (g := (mkF m 5 #[.val (.ref a), .val (.int (1 : Int32)), .unset] [(.ref a), (.ref vs)])) rfl rfl (hb hby own_d9_5)
  have k6 : ∀ t, Steps p.tables e below (T5.setTop (mkF m 8 #[.val (.ref a), .val (.int (1 : Int32)), .unset] [(.int (2 : Int32)), (.ref vs)])) t → Steps p.tables e below (s₁.setTop (entryFrame m #[(.ref a), (.int (1 : Int32))] 3)) t := fun t k => k4 t (st5 t k)
  obtain ⟨cl7, Ar7, qa7, Sa7, Na7, Ha7, Ga7⟩ := id P4
  have hin8 : ¬ ((0 : Int32) < 0 ∨ cl7.slots.size ≤ ((0 : Int32)).toNatClampNeg) := inb_of Sa7 ⟨by decide, by decide⟩
  have hat9 : cl7.slots[((0 : Int32)).toNatClampNeg]? = some (.ref x0) := Ha7 0 (Nat.lt_of_not_le fun q => hin8 (Or.inr q))
  have k10 : ∀ t, Steps p.tables e below (T5.setTop (mkF m 19 #[.val (.ref a), .val (.int (1 : Int32)), .val (.ref x0)] [(.ref x0)])) t → Steps p.tables e below (s₁.setTop (entryFrame m #[(.ref a), (.int (1 : Int32))] 3)) t := by
    intro t k
    refine k6 t ?_
    show Steps p.tables e below (T5.setTop (mkF m 8 #[.val (.ref a), .val (.int (1 : Int32)), .unset] [(.int (2 : Int32)), (.ref vs)])) _
    refine XS.iconst X5.here hx rfl (hb hby own_d9_8) ?_
    show Steps p.tables e below (T5.setTop (mkF m 9 #[.val (.ref a), .val (.int (1 : Int32)), .unset] [(.int (1 : Int32)), (.int (2 : Int32)), (.ref vs)])) _
    refine XS.isub X5.here hx rfl (hb hby own_d9_9) rfl ?_
    show Steps p.tables e below (T5.setTop (mkF m 10 #[.val (.ref a), .val (.int (1 : Int32)), .unset] [(.int (1 : Int32)), (.ref vs)])) _
    refine XS.iloadN X5.here hx rfl (hb hby own_d9_10) rfl ?_
    show Steps p.tables e below (T5.setTop (mkF m 11 #[.val (.ref a), .val (.int (1 : Int32)), .unset] [(.int (1 : Int32)), (.int (1 : Int32)), (.ref vs)])) _
    refine XS.isub X5.here hx rfl (hb hby own_d9_11) rfl ?_
    show Steps p.tables e below (T5.setTop (mkF m 12 #[.val (.ref a), .val (.int (1 : Int32)), .unset] [(.int (0 : Int32)), (.ref vs)])) _
    refine X5.aaload hx (j := (0 : Int32)) (v := (.ref x0)) (by rw [e5]; exact Ar7.1) (State.isArrayOf_alike hZ.alike Ar7.2.1) rfl Ar7.2.2 hin8 hat9 (g := (mkF m 12 #[.val (.ref a), .val (.int (1 : Int32)), .unset] [(.int (0 : Int32)), (.ref vs)])) rfl rfl (hb hby own_d9_12) _ ?_
    show Steps p.tables e below (T5.setTop (mkF m 13 #[.val (.ref a), .val (.int (1 : Int32)), .unset] [(.ref x0)])) _
    refine XS.astoreN X5.here hx rfl (hb hby own_d9_13) rfl rfl (l' := #[.val (.ref a), .val (.int (1 : Int32)), .val (.ref x0)]) rfl ?_
    show Steps p.tables e below (T5.setTop (mkF m 14 #[.val (.ref a), .val (.int (1 : Int32)), .val (.ref x0)] [])) _
    refine XS.aloadN X5.here hx rfl (hb hby own_d9_14) rfl rfl ?_
    show Steps p.tables e below (T5.setTop (mkF m 15 #[.val (.ref a), .val (.int (1 : Int32)), .val (.ref x0)] [(.ref x0)])) _
    refine XS.ifnullNo X5.here hx rfl (hb hby own_d9_15) rfl ?_
    show Steps p.tables e below (T5.setTop (mkF m 18 #[.val (.ref a), .val (.int (1 : Int32)), .val (.ref x0)] [])) _
    refine XS.aloadN X5.here hx rfl (hb hby own_d9_18) rfl rfl ?_
    exact k
  obtain ⟨cq11, kq11, q11a, q11b, q11c⟩ := isOf hZ e5 P7
  obtain ⟨_, _, ⟨T11, L11, k11c, n11⟩, -, X11, ⟨Lc11, hQ11, l11, y11, z11⟩, st11⟩ := X5.virtualBack hx (y := (⟨"com/example/reckoner/reckoner/Value", "isInteger", "()Z"⟩ : MethodName)) (z := (⟨"com/example/reckoner/reckoner/Value", "isInteger", "()Z"⟩ : MethodName)) hown (mvT hZ (hw _ (List.mem_of_getElem? (i := 62) rfl))) (mvT hZ (hw _ (List.mem_of_getElem? (i := 63) rfl))) (notFace_of_selects (args := #[]) (mvT hZ (hw _ (List.mem_of_getElem? (i := 65) rfl)))) (mvT hZ (hw _ (List.mem_of_getElem? (i := 65) rfl))) (mvT hZ (hw _ (List.mem_of_getElem? (i := 64) rfl))) (by decide) (backOf (W := 0) (own_rmii l Z a0 hw [] x0 sI h0 n0 Z0 P7 P8 Xo SI) hZ (hw _ (List.mem_of_getElem? (i := 66) rfl)) (hw _ (List.mem_of_getElem? (i := 18) rfl)) (by decide) (by decide)) q11a q11c (g := (mkF m 19 #[.val (.ref a), .val (.int (1 : Int32)), .val (.ref x0)] [(.ref x0)])) rfl (by rw [hml]; rfl) (Steps.refl _) (argsL := []) (rest := []) (lenOf own_pd3 rfl) rfl (by show 2 * 0 + _ ≤ _; exact Nat.le_of_eq rfl) (hb hby own_d9_19) (fun _ _ => ⟨rfl, e5, (by decide : 0 + 0 ≤ _), (by decide : 0 + 0 ≤ _)⟩)
  dsimp only [Pt.U, Pt.locs, Pt.cells, Pt.slots] at X11 l11 y11 z11 st11 hQ11
  subst l11 y11 z11
  obtain ⟨rfl, N11q, Kq11, fq11_0, fq11_1⟩ := hQ11
  have N11 := Fr.app N0 N11q
  have f12 := P0.keep Kq11
  have f13 := P1.keep Kq11 List.not_mem_nil
  have f14 := P2.keep Kq11 List.not_mem_nil
  have f15 := P3.keep Kq11 List.not_mem_nil
  have f16 := P4.keep Kq11 List.not_mem_nil
  have f17 := P6.keep Kq11 List.not_mem_nil
  have Z11 : n0 ≤ T11.heap.size := Nat.le_trans Z0 Kq11.1
  have K11 : Keep h0 T11.heap [] := (Keep.refl h0 []).trans Kq11 (fun x hx => nomatch hx)
  have Xo11 := Xo.keep Kq11 all0
  have k18 : ∀ t, Steps p.tables e below (T11.setTop (mkF m 22 #[.val (.ref a), .val (.int (1 : Int32)), .val (.ref x0)] [(.int (1 : Int32))])) t → Steps p.tables e below (s₁.setTop (entryFrame m #[(.ref a), (.int (1 : Int32))] 3)) t := fun t k => k10 t (st11.trans k)
  have k19 : ∀ t, Steps p.tables e below (T11.setTop (mkF m 30 #[.val (.ref a), .val (.int (1 : Int32)), .val (.ref x0)] [(.int (1 : Int32))])) t → Steps p.tables e below (s₁.setTop (entryFrame m #[(.ref a), (.int (1 : Int32))] 3)) t := by
    intro t k
    refine k18 t ?_
    show Steps p.tables e below (T11.setTop (mkF m 22 #[.val (.ref a), .val (.int (1 : Int32)), .val (.ref x0)] [(.int (1 : Int32))])) _
    refine XS.ifNo X11.here hx rfl (hb hby own_d9_22) rfl ((if0 _ _).trans (feq (by decide : ¬ ((1 : Int32) = (0 : Int32)))).1) ?_
    show Steps p.tables e below (T11.setTop (mkF m 25 #[.val (.ref a), .val (.int (1 : Int32)), .val (.ref x0)] [])) _
    refine XS.iconst X11.here hx rfl (hb hby own_d9_25) ?_
    show Steps p.tables e below (T11.setTop (mkF m 26 #[.val (.ref a), .val (.int (1 : Int32)), .val (.ref x0)] [(.int (1 : Int32))])) _
    refine XS.goto X11.here hx rfl (pc0 := 26) (pc' := 30) rfl (hb hby own_d9_26) (by decide) (by decide) ?_
    exact k
  obtain ⟨fs, hr, hrun, hended, hW, hsame⟩ := X11.leave (v := (some (.int (1 : Int32)))) (fun h => by rw [Bd.returns] at h; cases h)
  refine ⟨_, _, k19 _ ?_, hrun, hended, _, _, rfl, ?_, ⟨_, rfl⟩, hW, hsame.mono (by decide) (by decide)⟩
  · exact retN X11 hx (t := .boolean) Bd.returns (by simp) (hb hby own_d9_30) hr
  · show own_Qsj Z a vs rs cv cr x0 el1 el2 d0 d1 d2 sI h0 n0 _ T11.heap _
    exact ⟨rfl, N11, K11, f12, f13, f14, f15, f16, P5, f17, fq11_0, fq11_1⟩
def own_bel (p4 : Int32) : Int32 := if (p4 &&& (1 : Int32)) = (0 : Int32) then (0 : Int32) else (1 : Int32)
def own_via (p4 : Int32) : Int32 := if (p4 &&& (2 : Int32)) = (0 : Int32) then (0 : Int32) else (1 : Int32)
theorem own_pd4 : parseMethodDescriptor "(I)V" = some ⟨[.int], none⟩ := by decide +kernel
theorem own_pd5 : parseMethodDescriptor "(J)Lcom/example/reckoner/reckoner/Value;" = some ⟨[.long], some (.object "com/example/reckoner/reckoner/Value")⟩ := by decide +kernel
theorem own_pd6 : parseMethodDescriptor "(Lcom/example/reckoner/reckoner/Value;)V" = some ⟨[(.object "com/example/reckoner/reckoner/Value")], none⟩ := by decide +kernel
theorem own_pd7 : parseMethodDescriptor "()Lcom/example/reckoner/reckoner/Value;" = some ⟨[], some (.object "com/example/reckoner/reckoner/Value")⟩ := by decide +kernel
theorem own_pd8 : parseMethodDescriptor "(D)V" = some ⟨[.double], none⟩ := by decide +kernel
theorem own_pd9 : parseMethodDescriptor "(I)Z" = some ⟨[.int], some .boolean⟩ := by decide +kernel
theorem own_pd10 : parseMethodDescriptor "()Lcom/example/reckoner/reckoner/Value$Type;" = some ⟨[], some (.object "com/example/reckoner/reckoner/Value$Type")⟩ := by decide +kernel
theorem own_pd11 : parseMethodDescriptor "()D" = some ⟨[], some .double⟩ := by decide +kernel
theorem own_pd12 : parseMethodDescriptor "()J" = some ⟨[], some .long⟩ := by decide +kernel
theorem own_pn2 : plainName "com/example/reckoner/reckoner/OperandStackPushRealPinLaw" = true := by first | (simp [plainName, overriddenIn]; done) | decide +kernel
theorem own_ef0 (m : MethodId) (x0 : Int64) (x1 : Int64) (x2 : Int32) (x3 : Int32) : entryFrame m #[(.long x0), (.long x1), (.int x2), (.int x3)] maxLocals = mkF m 0 #[.val (.long x0), .second, .val (.long x1), .second, .val (.int x2), .val (.int x3), .unset, .unset, .unset, .unset, .unset, .unset, .unset, .unset] [] := by first | (simp [entryFrame, mkF, argsToLocals, Value.category, maxLocals]; done) | rfl
def own_Q0 (Z : State) (p1 : Int64) (p2 : Int64) (p3 : Int32) (p4 : Int32) (sI : Addr) (sR : Addr) (sB : Addr) (h0 : Heap) (n0 : Nat) (v : Option Value) (h : Heap) (L : List Loc) : Prop := v = some (.int (1 : Int32)) ∧ Fr n0 L
set_option maxRecDepth 65536 in
set_option maxHeartbeats 40000000 in
theorem own_rm0 (l : Launch) (Z : State) (a0 : Array Value) (hw : ∀ d ∈ tables_1, d.before a0 Z = true) (ws : List Jvm.Cond) (p1 : Int64) (p2 : Int64) (p3 : Int32) (p4 : Int32) (sI : Addr) (sR : Addr) (sB : Addr) (h0 : Heap) (n0 : Nat) (Z0 : n0 ≤ h0.size) (Xo : Old Z n0 h0) (SI : Sta Z Z.heap "com/example/reckoner/reckoner/Value$Type" "INTEGER" "Lcom/example/reckoner/reckoner/Value$Type;" (.ref sI)) (SR : Sta Z Z.heap "com/example/reckoner/reckoner/Value$Type" "REAL" "Lcom/example/reckoner/reckoner/Value$Type;" (.ref sR)) (SB : Sta Z Z.heap "com/example/reckoner/reckoner/Value$Type" "BOOLEAN" "Lcom/example/reckoner/reckoner/Value$Type;" (.ref sB)) (hIR : sI ≠ sR) (hIB : sI ≠ sB) (hRB : sR ≠ sB) :
    MetFree l x (head1 (Jvm.Cond.code x code maxLocals ret :: ws) room_1) (fun aa U => aa = #[(.long p1), (.long p2), (.int p3), (.int p4)] ∧ Z.Warmed39 U.vm ∧ U.heap = h0) (fun _ _ _ _ _ => True) (fun _ U o U' => ∃ v L, o = .returned v ∧ own_Q0 Z p1 p2 p3 p4 sI sR sB h0 n0 v U'.heap L ∧ FrameEnd U o U' L room_1.cells room_1.slots) := by
  refine MetFree.of_bodySF (plainFor_of_name own_pn2) hisR ?_
  intro p e s m args below meth c s₁ Bd hml0 hP hK
  obtain ⟨rfl, hZ, hh⟩ := hP
  have hx := Bd.exec
  have hby := Bd.bytes
  have hml : c.maxLocals = 14 := hml0
  have hown : s.vm.findClass "com/example/reckoner/reckoner/OperandStackPushRealPinLaw" = some m.cls := findClass_of_methodNamed Bd.named
  have hnm := (name_of_methodNamed Bd.named Bd.method).1
  have X0 : Stand p l e room_1 s m #[(.long p1), (.long p2), (.int p3), (.int p4)] below meth c s₁ [] 0 0 := Stand.of_body Bd
  have e0 : s₁.heap = h0 := by rw [← hh, Bd.state]; rfl
  have N0 := Fr.nil n0
  have pre0 : ∀ t, Steps p.tables e below (s₁.setTop (mkF m 0 #[.val (.long p1), .second, .val (.long p2), .second, .val (.int p3), .val (.int p4), .unset, .unset, .unset, .unset, .unset, .unset, .unset, .unset] [])) t → Steps p.tables e below (s₁.setTop (entryFrame m #[(.long p1), (.long p2), (.int p3), (.int p4)] maxLocals)) t := fun t k => castTop (own_ef0 m p1 p2 p3 p4) k
  have k1 : ∀ t, Steps p.tables e below (s₁.setTop (mkF m 5 #[.val (.long p1), .second, .val (.long p2), .second, .val (.int p3), .val (.int p4), .val (.double (FP.i2d p3)), .second, .unset, .unset, .unset, .unset, .unset, .unset] [])) t → Steps p.tables e below (s₁.setTop (entryFrame m #[(.long p1), (.long p2), (.int p3), (.int p4)] maxLocals)) t := by
    intro t k
    refine pre0 t ?_
    show Steps p.tables e below (s₁.setTop (mkF m 0 #[.val (.long p1), .second, .val (.long p2), .second, .val (.int p3), .val (.int p4), .unset, .unset, .unset, .unset, .unset, .unset, .unset, .unset] [])) _
    refine XS.iload X0.here hx rfl (hb hby at_0) rfl ?_
    show Steps p.tables e below (s₁.setTop (mkF m 2 #[.val (.long p1), .second, .val (.long p2), .second, .val (.int p3), .val (.int p4), .unset, .unset, .unset, .unset, .unset, .unset, .unset, .unset] [(.int p3)])) _
    refine XS.i2dS X0.here hx rfl (hb hby at_2) rfl rfl ?_
    show Steps p.tables e below (s₁.setTop (mkF m 3 #[.val (.long p1), .second, .val (.long p2), .second, .val (.int p3), .val (.int p4), .unset, .unset, .unset, .unset, .unset, .unset, .unset, .unset] [(.double (FP.i2d p3))])) _
    refine XS.dstore X0.here hx rfl (hb hby at_3) rfl (l' := #[.val (.long p1), .second, .val (.long p2), .second, .val (.int p3), .val (.int p4), .val (.double (FP.i2d p3)), .second, .unset, .unset, .unset, .unset, .unset, .unset]) rfl ?_
    exact k
  have k2 : ∀ t, Steps p.tables e below (s₁.setTop (mkF m 33 #[.val (.long p1), .second, .val (.long p2), .second, .val (.int p3), .val (.int p4), .val (.double (FP.i2d p3)), .second, .val (.int (own_bel p4)), .val (.int (own_via p4)), .unset, .unset, .unset, .unset] [])) t → Steps p.tables e below (s₁.setTop (entryFrame m #[(.long p1), (.long p2), (.int p3), (.int p4)] maxLocals)) t := by
    intro t k
    refine k1 t ?_
    show Steps p.tables e below (s₁.setTop (mkF m 5 #[.val (.long p1), .second, .val (.long p2), .second, .val (.int p3), .val (.int p4), .val (.double (FP.i2d p3)), .second, .unset, .unset, .unset, .unset, .unset, .unset] [])) _
    refine XS.iload X0.here hx rfl (hb hby at_5) rfl ?_
    show Steps p.tables e below (s₁.setTop (mkF m 7 #[.val (.long p1), .second, .val (.long p2), .second, .val (.int p3), .val (.int p4), .val (.double (FP.i2d p3)), .second, .unset, .unset, .unset, .unset, .unset, .unset] [(.int p4)])) _
    refine XS.iconst X0.here hx rfl (hb hby at_7) ?_
    show Steps p.tables e below (s₁.setTop (mkF m 8 #[.val (.long p1), .second, .val (.long p2), .second, .val (.int p3), .val (.int p4), .val (.double (FP.i2d p3)), .second, .unset, .unset, .unset, .unset, .unset, .unset] [(.int (1 : Int32)), (.int p4)])) _
    refine XS.iand X0.here hx rfl (hb hby at_8) rfl ?_
    by_cases hc9_3 : (p4 &&& (1 : Int32)) = (0 : Int32)
    · show Steps p.tables e below (s₁.setTop (mkF m 9 #[.val (.long p1), .second, .val (.long p2), .second, .val (.int p3), .val (.int p4), .val (.double (FP.i2d p3)), .second, .unset, .unset, .unset, .unset, .unset, .unset] [(.int (p4 &&& (1 : Int32)))])) _
      refine XS.ifYes X0.here hx rfl (pc0 := 9) (pc' := 16) rfl (hb hby at_9) rfl ((if0 _ _).trans (teq hc9_3).1) (by decide) (by decide) ?_
      show Steps p.tables e below (s₁.setTop (mkF m 16 #[.val (.long p1), .second, .val (.long p2), .second, .val (.int p3), .val (.int p4), .val (.double (FP.i2d p3)), .second, .unset, .unset, .unset, .unset, .unset, .unset] [])) _
      refine XS.iconst X0.here hx rfl (hb hby at_16) ?_
      show Steps p.tables e below (s₁.setTop (mkF m 17 #[.val (.long p1), .second, .val (.long p2), .second, .val (.int p3), .val (.int p4), .val (.double (FP.i2d p3)), .second, .unset, .unset, .unset, .unset, .unset, .unset] [(.int (0 : Int32))])) _
      refine XS.istore X0.here hx rfl (hb hby at_17) rfl (l' := #[.val (.long p1), .second, .val (.long p2), .second, .val (.int p3), .val (.int p4), .val (.double (FP.i2d p3)), .second, .val (.int (0 : Int32)), .unset, .unset, .unset, .unset, .unset]) rfl ?_
      show Steps p.tables e below (s₁.setTop (mkF m 19 #[.val (.long p1), .second, .val (.long p2), .second, .val (.int p3), .val (.int p4), .val (.double (FP.i2d p3)), .second, .val (.int (0 : Int32)), .unset, .unset, .unset, .unset, .unset] [])) _
      refine XS.iload X0.here hx rfl (hb hby at_19) rfl ?_
      show Steps p.tables e below (s₁.setTop (mkF m 21 #[.val (.long p1), .second, .val (.long p2), .second, .val (.int p3), .val (.int p4), .val (.double (FP.i2d p3)), .second, .val (.int (0 : Int32)), .unset, .unset, .unset, .unset, .unset] [(.int p4)])) _
      refine XS.iconst X0.here hx rfl (hb hby at_21) ?_
      show Steps p.tables e below (s₁.setTop (mkF m 22 #[.val (.long p1), .second, .val (.long p2), .second, .val (.int p3), .val (.int p4), .val (.double (FP.i2d p3)), .second, .val (.int (0 : Int32)), .unset, .unset, .unset, .unset, .unset] [(.int (2 : Int32)), (.int p4)])) _
      refine XS.iand X0.here hx rfl (hb hby at_22) rfl ?_
      by_cases hc23_4 : (p4 &&& (2 : Int32)) = (0 : Int32)
      · show Steps p.tables e below (s₁.setTop (mkF m 23 #[.val (.long p1), .second, .val (.long p2), .second, .val (.int p3), .val (.int p4), .val (.double (FP.i2d p3)), .second, .val (.int (0 : Int32)), .unset, .unset, .unset, .unset, .unset] [(.int (p4 &&& (2 : Int32)))])) _
        refine XS.ifYes X0.here hx rfl (pc0 := 23) (pc' := 30) rfl (hb hby at_23) rfl ((if0 _ _).trans (teq hc23_4).1) (by decide) (by decide) ?_
        show Steps p.tables e below (s₁.setTop (mkF m 30 #[.val (.long p1), .second, .val (.long p2), .second, .val (.int p3), .val (.int p4), .val (.double (FP.i2d p3)), .second, .val (.int (0 : Int32)), .unset, .unset, .unset, .unset, .unset] [])) _
        refine XS.iconst X0.here hx rfl (hb hby at_30) ?_
        show Steps p.tables e below (s₁.setTop (mkF m 31 #[.val (.long p1), .second, .val (.long p2), .second, .val (.int p3), .val (.int p4), .val (.double (FP.i2d p3)), .second, .val (.int (0 : Int32)), .unset, .unset, .unset, .unset, .unset] [(.int (0 : Int32))])) _
        refine XS.istore X0.here hx rfl (hb hby at_31) rfl (l' := #[.val (.long p1), .second, .val (.long p2), .second, .val (.int p3), .val (.int p4), .val (.double (FP.i2d p3)), .second, .val (.int (0 : Int32)), .val (.int (0 : Int32)), .unset, .unset, .unset, .unset]) rfl ?_
        have q0 : (own_bel p4) = (0 : Int32) := (if_pos hc9_3)
        have q1 : (own_via p4) = (0 : Int32) := (if_pos hc23_4)
        rw [q0, q1] at k
        exact k
      · show Steps p.tables e below (s₁.setTop (mkF m 23 #[.val (.long p1), .second, .val (.long p2), .second, .val (.int p3), .val (.int p4), .val (.double (FP.i2d p3)), .second, .val (.int (0 : Int32)), .unset, .unset, .unset, .unset, .unset] [(.int (p4 &&& (2 : Int32)))])) _
        refine XS.ifNo X0.here hx rfl (hb hby at_23) rfl ((if0 _ _).trans (feq hc23_4).1) ?_
        show Steps p.tables e below (s₁.setTop (mkF m 26 #[.val (.long p1), .second, .val (.long p2), .second, .val (.int p3), .val (.int p4), .val (.double (FP.i2d p3)), .second, .val (.int (0 : Int32)), .unset, .unset, .unset, .unset, .unset] [])) _
        refine XS.iconst X0.here hx rfl (hb hby at_26) ?_
        show Steps p.tables e below (s₁.setTop (mkF m 27 #[.val (.long p1), .second, .val (.long p2), .second, .val (.int p3), .val (.int p4), .val (.double (FP.i2d p3)), .second, .val (.int (0 : Int32)), .unset, .unset, .unset, .unset, .unset] [(.int (1 : Int32))])) _
        refine XS.goto X0.here hx rfl (pc0 := 27) (pc' := 31) rfl (hb hby at_27) (by decide) (by decide) ?_
        show Steps p.tables e below (s₁.setTop (mkF m 31 #[.val (.long p1), .second, .val (.long p2), .second, .val (.int p3), .val (.int p4), .val (.double (FP.i2d p3)), .second, .val (.int (0 : Int32)), .unset, .unset, .unset, .unset, .unset] [(.int (1 : Int32))])) _
        refine XS.istore X0.here hx rfl (hb hby at_31) rfl (l' := #[.val (.long p1), .second, .val (.long p2), .second, .val (.int p3), .val (.int p4), .val (.double (FP.i2d p3)), .second, .val (.int (0 : Int32)), .val (.int (1 : Int32)), .unset, .unset, .unset, .unset]) rfl ?_
        have q0 : (own_bel p4) = (0 : Int32) := (if_pos hc9_3)
        have q1 : (own_via p4) = (1 : Int32) := (if_neg hc23_4)
        rw [q0, q1] at k
        exact k
    · show Steps p.tables e below (s₁.setTop (mkF m 9 #[.val (.long p1), .second, .val (.long p2), .second, .val (.int p3), .val (.int p4), .val (.double (FP.i2d p3)), .second, .unset, .unset, .unset, .unset, .unset, .unset] [(.int (p4 &&& (1 : Int32)))])) _
      refine XS.ifNo X0.here hx rfl (hb hby at_9) rfl ((if0 _ _).trans (feq hc9_3).1) ?_
      show Steps p.tables e below (s₁.setTop (mkF m 12 #[.val (.long p1), .second, .val (.long p2), .second, .val (.int p3), .val (.int p4), .val (.double (FP.i2d p3)), .second, .unset, .unset, .unset, .unset, .unset, .unset] [])) _
      refine XS.iconst X0.here hx rfl (hb hby at_12) ?_
      show Steps p.tables e below (s₁.setTop (mkF m 13 #[.val (.long p1), .second, .val (.long p2), .second, .val (.int p3), .val (.int p4), .val (.double (FP.i2d p3)), .second, .unset, .unset, .unset, .unset, .unset, .unset] [(.int (1 : Int32))])) _
      refine XS.goto X0.here hx rfl (pc0 := 13) (pc' := 17) rfl (hb hby at_13) (by decide) (by decide) ?_
      show Steps p.tables e below (s₁.setTop (mkF m 17 #[.val (.long p1), .second, .val (.long p2), .second, .val (.int p3), .val (.int p4), .val (.double (FP.i2d p3)), .second, .unset, .unset, .unset, .unset, .unset, .unset] [(.int (1 : Int32))])) _
      refine XS.istore X0.here hx rfl (hb hby at_17) rfl (l' := #[.val (.long p1), .second, .val (.long p2), .second, .val (.int p3), .val (.int p4), .val (.double (FP.i2d p3)), .second, .val (.int (1 : Int32)), .unset, .unset, .unset, .unset, .unset]) rfl ?_
      show Steps p.tables e below (s₁.setTop (mkF m 19 #[.val (.long p1), .second, .val (.long p2), .second, .val (.int p3), .val (.int p4), .val (.double (FP.i2d p3)), .second, .val (.int (1 : Int32)), .unset, .unset, .unset, .unset, .unset] [])) _
      refine XS.iload X0.here hx rfl (hb hby at_19) rfl ?_
      show Steps p.tables e below (s₁.setTop (mkF m 21 #[.val (.long p1), .second, .val (.long p2), .second, .val (.int p3), .val (.int p4), .val (.double (FP.i2d p3)), .second, .val (.int (1 : Int32)), .unset, .unset, .unset, .unset, .unset] [(.int p4)])) _
      refine XS.iconst X0.here hx rfl (hb hby at_21) ?_
      show Steps p.tables e below (s₁.setTop (mkF m 22 #[.val (.long p1), .second, .val (.long p2), .second, .val (.int p3), .val (.int p4), .val (.double (FP.i2d p3)), .second, .val (.int (1 : Int32)), .unset, .unset, .unset, .unset, .unset] [(.int (2 : Int32)), (.int p4)])) _
      refine XS.iand X0.here hx rfl (hb hby at_22) rfl ?_
      by_cases hc23_5 : (p4 &&& (2 : Int32)) = (0 : Int32)
      · show Steps p.tables e below (s₁.setTop (mkF m 23 #[.val (.long p1), .second, .val (.long p2), .second, .val (.int p3), .val (.int p4), .val (.double (FP.i2d p3)), .second, .val (.int (1 : Int32)), .unset, .unset, .unset, .unset, .unset] [(.int (p4 &&& (2 : Int32)))])) _
        refine XS.ifYes X0.here hx rfl (pc0 := 23) (pc' := 30) rfl (hb hby at_23) rfl ((if0 _ _).trans (teq hc23_5).1) (by decide) (by decide) ?_
        show Steps p.tables e below (s₁.setTop (mkF m 30 #[.val (.long p1), .second, .val (.long p2), .second, .val (.int p3), .val (.int p4), .val (.double (FP.i2d p3)), .second, .val (.int (1 : Int32)), .unset, .unset, .unset, .unset, .unset] [])) _
        refine XS.iconst X0.here hx rfl (hb hby at_30) ?_
        show Steps p.tables e below (s₁.setTop (mkF m 31 #[.val (.long p1), .second, .val (.long p2), .second, .val (.int p3), .val (.int p4), .val (.double (FP.i2d p3)), .second, .val (.int (1 : Int32)), .unset, .unset, .unset, .unset, .unset] [(.int (0 : Int32))])) _
        refine XS.istore X0.here hx rfl (hb hby at_31) rfl (l' := #[.val (.long p1), .second, .val (.long p2), .second, .val (.int p3), .val (.int p4), .val (.double (FP.i2d p3)), .second, .val (.int (1 : Int32)), .val (.int (0 : Int32)), .unset, .unset, .unset, .unset]) rfl ?_
        have q0 : (own_bel p4) = (1 : Int32) := (if_neg hc9_3)
        have q1 : (own_via p4) = (0 : Int32) := (if_pos hc23_5)
        rw [q0, q1] at k
        exact k
      · show Steps p.tables e below (s₁.setTop (mkF m 23 #[.val (.long p1), .second, .val (.long p2), .second, .val (.int p3), .val (.int p4), .val (.double (FP.i2d p3)), .second, .val (.int (1 : Int32)), .unset, .unset, .unset, .unset, .unset] [(.int (p4 &&& (2 : Int32)))])) _
        refine XS.ifNo X0.here hx rfl (hb hby at_23) rfl ((if0 _ _).trans (feq hc23_5).1) ?_
        show Steps p.tables e below (s₁.setTop (mkF m 26 #[.val (.long p1), .second, .val (.long p2), .second, .val (.int p3), .val (.int p4), .val (.double (FP.i2d p3)), .second, .val (.int (1 : Int32)), .unset, .unset, .unset, .unset, .unset] [])) _
        refine XS.iconst X0.here hx rfl (hb hby at_26) ?_
        show Steps p.tables e below (s₁.setTop (mkF m 27 #[.val (.long p1), .second, .val (.long p2), .second, .val (.int p3), .val (.int p4), .val (.double (FP.i2d p3)), .second, .val (.int (1 : Int32)), .unset, .unset, .unset, .unset, .unset] [(.int (1 : Int32))])) _
        refine XS.goto X0.here hx rfl (pc0 := 27) (pc' := 31) rfl (hb hby at_27) (by decide) (by decide) ?_
        show Steps p.tables e below (s₁.setTop (mkF m 31 #[.val (.long p1), .second, .val (.long p2), .second, .val (.int p3), .val (.int p4), .val (.double (FP.i2d p3)), .second, .val (.int (1 : Int32)), .unset, .unset, .unset, .unset, .unset] [(.int (1 : Int32))])) _
        refine XS.istore X0.here hx rfl (hb hby at_31) rfl (l' := #[.val (.long p1), .second, .val (.long p2), .second, .val (.int p3), .val (.int p4), .val (.double (FP.i2d p3)), .second, .val (.int (1 : Int32)), .val (.int (1 : Int32)), .unset, .unset, .unset, .unset]) rfl ?_
        have q0 : (own_bel p4) = (1 : Int32) := (if_neg hc9_3)
        have q1 : (own_via p4) = (1 : Int32) := (if_neg hc23_5)
        rw [q0, q1] at k
        exact k
  obtain ⟨T6, h6, X6, e6, E6, A6, D6, -, st6⟩ := newO X0 hx hZ hown (hw _ (List.mem_of_getElem? (i := 0) rfl)) (hw _ (List.mem_of_getElem? (i := 1) rfl)) (hw _ (List.mem_of_getElem? (i := 2) rfl)) e0 (g := (mkF m 33 #[.val (.long p1), .second, .val (.long p2), .second, .val (.int p3), .val (.int p4), .val (.double (FP.i2d p3)), .second, .val (.int (own_bel p4)), .val (.int (own_via p4)), .unset, .unset, .unset, .unset] [])) rfl (hb hby at_33) (by decide) (by decide)
  obtain ⟨b6, g6⟩ : ∃ z, z = h0.size := ⟨_, rfl⟩
  rw [← g6] at A6 D6 st6
  have ge6 : n0 ≤ b6 := Nat.le_trans Z0 (Nat.le_of_eq g6.symm)
  have bo6 : h0.size ≤ b6 := Nat.le_trans (Keep.refl h0 []).1 (Nat.le_of_eq g6.symm)
  have Z6 : n0 ≤ h6.size := Nat.le_trans Z0 E6.1
  have K6 : Keep h0 h6 [] := (Keep.refl h0 []).ext E6
  have Xo6 := Xo.ext E6
  have f7 : Fld Z h6 b6 "com/example/reckoner/reckoner/OperandStack" "values" "[Lcom/example/reckoner/reckoner/Value;" .null := D6 (Or.inr (hw _ (List.mem_of_getElem? (i := 12) rfl))) (ty := (.array (.object "com/example/reckoner/reckoner/Value"))) (by decide)
  have f8 : Fld Z h6 b6 "com/example/reckoner/reckoner/OperandStack" "reals" "[D" .null := D6 (Or.inr (hw _ (List.mem_of_getElem? (i := 15) rfl))) (ty := (.array .double)) (by decide)
  have f9 : Fld Z h6 b6 "com/example/reckoner/reckoner/OperandStack" "height" "I" (.int (0 : Int32)) := D6 (Or.inl (hw _ (List.mem_of_getElem? (i := 41) rfl))) (ty := .int) (by decide)
  have k10 : ∀ t, Steps p.tables e below (T6.setTop (mkF m 36 #[.val (.long p1), .second, .val (.long p2), .second, .val (.int p3), .val (.int p4), .val (.double (FP.i2d p3)), .second, .val (.int (own_bel p4)), .val (.int (own_via p4)), .unset, .unset, .unset, .unset] [(.ref b6)])) t → Steps p.tables e below (s₁.setTop (entryFrame m #[(.long p1), (.long p2), (.int p3), (.int p4)] maxLocals)) t := fun t k => k2 t (st6 t k)
  have k11 : ∀ t, Steps p.tables e below (T6.setTop (mkF m 38 #[.val (.long p1), .second, .val (.long p2), .second, .val (.int p3), .val (.int p4), .val (.double (FP.i2d p3)), .second, .val (.int (own_bel p4)), .val (.int (own_via p4)), .unset, .unset, .unset, .unset] [(.int (3 : Int32)), (.ref b6), (.ref b6)])) t → Steps p.tables e below (s₁.setTop (entryFrame m #[(.long p1), (.long p2), (.int p3), (.int p4)] maxLocals)) t := by
    intro t k
    refine k10 t ?_
    show Steps p.tables e below (T6.setTop (mkF m 36 #[.val (.long p1), .second, .val (.long p2), .second, .val (.int p3), .val (.int p4), .val (.double (FP.i2d p3)), .second, .val (.int (own_bel p4)), .val (.int (own_via p4)), .unset, .unset, .unset, .unset] [(.ref b6)])) _
    refine XS.dup X6.here hx rfl (hb hby at_36) rfl rfl ?_
    show Steps p.tables e below (T6.setTop (mkF m 37 #[.val (.long p1), .second, .val (.long p2), .second, .val (.int p3), .val (.int p4), .val (.double (FP.i2d p3)), .second, .val (.int (own_bel p4)), .val (.int (own_via p4)), .unset, .unset, .unset, .unset] [(.ref b6), (.ref b6)])) _
    refine XS.iconst X6.here hx rfl (hb hby at_37) ?_
    exact k
  obtain ⟨_, _, ⟨T12, L12, k12c, n12⟩, -, X12, ⟨Lc12, hQ12, l12, y12, z12⟩, st12⟩ := X6.specialBack hx (y := (⟨"com/example/reckoner/reckoner/OperandStack", "<init>", "(I)V"⟩ : MethodName)) rfl hown (mvT hZ (hw _ (List.mem_of_getElem? (i := 3) rfl))) (mvT hZ (hw _ (List.mem_of_getElem? (i := 4) rfl))) (mvT hZ (hw _ (List.mem_of_getElem? (i := 5) rfl))) (by decide) (backOf (W := 1) (own_rmoi l Z a0 hw [] b6 .null .null h6 n0 Z6 A6 f7 f8 f9 ge6) hZ (hw _ (List.mem_of_getElem? (i := 5) rfl)) (hw _ (List.mem_of_getElem? (i := 2) rfl)) (by decide) (by decide)) (g := (mkF m 38 #[.val (.long p1), .second, .val (.long p2), .second, .val (.int p3), .val (.int p4), .val (.double (FP.i2d p3)), .second, .val (.int (own_bel p4)), .val (.int (own_via p4)), .unset, .unset, .unset, .unset] [(.int (3 : Int32)), (.ref b6), (.ref b6)])) rfl (by rw [hml]; rfl) (Steps.refl _) (a := b6) (argsL := [(.int (3 : Int32))]) (rest := [(.ref b6)]) (lenOf own_pd4 rfl) rfl (by show 2 * 0 + _ ≤ _; exact Nat.le_of_eq rfl) (hb hby at_38) (fun _ _ => ⟨rfl, e6, (by decide : 1 + 2 ≤ _), (by decide : 3 + 6 ≤ _)⟩)
  dsimp only [Pt.U, Pt.locs, Pt.cells, Pt.slots] at X12 l12 y12 z12 st12 hQ12
  subst l12 y12 z12
  obtain ⟨rb5_12, rb20_12, rc_12c5, rc_12c20, rfl, N12q, Kq12, gz12_b5, gz12_b20, nq12_b5_b20, fq12_0, fq12_1, fq12_2, fq12_3, fq12_4, fq12_5, fq12_6⟩ := hQ12
  have N12 := Fr.app N0 N12q
  have ge12_b5 : n0 ≤ rb5_12 := Nat.le_trans Z6 gz12_b5
  have bo12_b5 : h0.size ≤ rb5_12 := Nat.le_trans K6.1 gz12_b5
  have ne13 : b6 ≠ rb5_12 := Nat.ne_of_lt (Nat.lt_of_lt_of_le A6.lt gz12_b5)
  have ge12_b20 : n0 ≤ rb20_12 := Nat.le_trans Z6 gz12_b20
  have bo12_b20 : h0.size ≤ rb20_12 := Nat.le_trans K6.1 gz12_b20
  have ne14 : b6 ≠ rb20_12 := Nat.ne_of_lt (Nat.lt_of_lt_of_le A6.lt gz12_b20)
  have Z12 : n0 ≤ T12.heap.size := Nat.le_trans Z6 Kq12.1
  have K12 : Keep h0 T12.heap [] := K6.trans Kq12 (fun x hx => by rcases List.mem_cons.mp hx with rfl | hx; exact Or.inr bo6; exact nomatch hx)
  have Xo12 := Xo6.keep Kq12 (allS ge6 all0)
  have k15 : ∀ t, Steps p.tables e below (T12.setTop (mkF m 41 #[.val (.long p1), .second, .val (.long p2), .second, .val (.int p3), .val (.int p4), .val (.double (FP.i2d p3)), .second, .val (.int (own_bel p4)), .val (.int (own_via p4)), .unset, .unset, .unset, .unset] [(.ref b6)])) t → Steps p.tables e below (s₁.setTop (entryFrame m #[(.long p1), (.long p2), (.int p3), (.int p4)] maxLocals)) t := fun t k => k11 t (st12.trans k)
  have k16 : ∀ t, Steps p.tables e below (T12.setTop (mkF m 45 #[.val (.long p1), .second, .val (.long p2), .second, .val (.int p3), .val (.int p4), .val (.double (FP.i2d p3)), .second, .val (.int (own_bel p4)), .val (.int (own_via p4)), .val (.ref b6), .unset, .unset, .unset] [(.int (own_bel p4))])) t → Steps p.tables e below (s₁.setTop (entryFrame m #[(.long p1), (.long p2), (.int p3), (.int p4)] maxLocals)) t := by
    intro t k
    refine k15 t ?_
    show Steps p.tables e below (T12.setTop (mkF m 41 #[.val (.long p1), .second, .val (.long p2), .second, .val (.int p3), .val (.int p4), .val (.double (FP.i2d p3)), .second, .val (.int (own_bel p4)), .val (.int (own_via p4)), .unset, .unset, .unset, .unset] [(.ref b6)])) _
    refine XS.astore X12.here hx rfl (hb hby at_41) rfl rfl (l' := #[.val (.long p1), .second, .val (.long p2), .second, .val (.int p3), .val (.int p4), .val (.double (FP.i2d p3)), .second, .val (.int (own_bel p4)), .val (.int (own_via p4)), .val (.ref b6), .unset, .unset, .unset]) rfl ?_
    show Steps p.tables e below (T12.setTop (mkF m 43 #[.val (.long p1), .second, .val (.long p2), .second, .val (.int p3), .val (.int p4), .val (.double (FP.i2d p3)), .second, .val (.int (own_bel p4)), .val (.int (own_via p4)), .val (.ref b6), .unset, .unset, .unset] [])) _
    refine XS.iload X12.here hx rfl (hb hby at_43) rfl ?_
    exact k
  by_cases hc45_17 : (own_bel p4) = (0 : Int32)
  · have k18 : ∀ t, Steps p.tables e below (T12.setTop (mkF m 60 #[.val (.long p1), .second, .val (.long p2), .second, .val (.int p3), .val (.int p4), .val (.double (FP.i2d p3)), .second, .val (.int (own_bel p4)), .val (.int (own_via p4)), .val (.ref b6), .unset, .unset, .unset] [(.long p2), (.ref b6)])) t → Steps p.tables e below (s₁.setTop (entryFrame m #[(.long p1), (.long p2), (.int p3), (.int p4)] maxLocals)) t := by
      intro t k
      refine k16 t ?_
      show Steps p.tables e below (T12.setTop (mkF m 45 #[.val (.long p1), .second, .val (.long p2), .second, .val (.int p3), .val (.int p4), .val (.double (FP.i2d p3)), .second, .val (.int (own_bel p4)), .val (.int (own_via p4)), .val (.ref b6), .unset, .unset, .unset] [(.int (own_bel p4))])) _
      refine XS.ifYes X12.here hx rfl (pc0 := 45) (pc' := 57) rfl (hb hby at_45) rfl ((if0 _ _).trans (teq hc45_17).1) (by decide) (by decide) ?_
      show Steps p.tables e below (T12.setTop (mkF m 57 #[.val (.long p1), .second, .val (.long p2), .second, .val (.int p3), .val (.int p4), .val (.double (FP.i2d p3)), .second, .val (.int (own_bel p4)), .val (.int (own_via p4)), .val (.ref b6), .unset, .unset, .unset] [])) _
      refine XS.aload X12.here hx rfl (hb hby at_57) rfl rfl ?_
      show Steps p.tables e below (T12.setTop (mkF m 59 #[.val (.long p1), .second, .val (.long p2), .second, .val (.int p3), .val (.int p4), .val (.double (FP.i2d p3)), .second, .val (.int (own_bel p4)), .val (.int (own_via p4)), .val (.ref b6), .unset, .unset, .unset] [(.ref b6)])) _
      refine XS.lloadN X12.here hx rfl (hb hby at_59) rfl ?_
      exact k
    obtain ⟨_, _, ⟨T19, L19, k19c, n19⟩, -, X19, ⟨Lc19, hQ19, l19, y19, z19⟩, st19⟩ := Jvm.LawKit.callS X12 hx (y := (⟨"com/example/reckoner/reckoner/Value", "integer", "(J)Lcom/example/reckoner/reckoner/Value;"⟩ : MethodName)) hown (mvT hZ (hw _ (List.mem_of_getElem? (i := 16) rfl))) (mvT hZ (hw _ (List.mem_of_getElem? (i := 17) rfl))) (mvT hZ (hw _ (List.mem_of_getElem? (i := 18) rfl))) (mvT hZ (hw _ (List.mem_of_getElem? (i := 19) rfl))) (by decide) (backOf (W := 1) (own_rmig l Z a0 hw [] p2 sI T12.heap n0 Z12 Xo12 SI) hZ (hw _ (List.mem_of_getElem? (i := 19) rfl)) (hw _ (List.mem_of_getElem? (i := 18) rfl)) (by decide) (by decide)) (g := (mkF m 60 #[.val (.long p1), .second, .val (.long p2), .second, .val (.int p3), .val (.int p4), .val (.double (FP.i2d p3)), .second, .val (.int (own_bel p4)), .val (.int (own_via p4)), .val (.ref b6), .unset, .unset, .unset] [(.long p2), (.ref b6)])) rfl (by rw [hml]; rfl) (argsL := [(.long p2)]) (rest := [(.ref b6)]) (lenOf own_pd5 rfl) rfl (by show 2 * 0 + _ ≤ _; exact Nat.le_of_eq rfl) (hb hby at_60) (fun _ _ => ⟨rfl, rfl, (by decide : 3 + 1 ≤ _), (by decide : 9 + 3 ≤ _)⟩)
    dsimp only [Pt.U, Pt.locs, Pt.cells, Pt.slots] at X19 l19 y19 z19 st19 hQ19
    subst l19 y19 z19
    obtain ⟨rb1_19, rfl, N19q, Kq19, gz19_b1, fq19_0, fq19_1, fq19_2, fq19_3⟩ := hQ19
    have N19 := Fr.app N12 N19q
    have ge19_b1 : n0 ≤ rb1_19 := Nat.le_trans Z12 gz19_b1
    have bo19_b1 : h0.size ≤ rb1_19 := Nat.le_trans K12.1 gz19_b1
    have ne20 : b6 ≠ rb1_19 := Nat.ne_of_lt (Nat.lt_of_lt_of_le fq12_0.lt gz19_b1)
    have ne21 : rb20_12 ≠ rb1_19 := Nat.ne_of_lt (Nat.lt_of_lt_of_le fq12_6.lt gz19_b1)
    have ne22 : rb5_12 ≠ rb1_19 := Nat.ne_of_lt (Nat.lt_of_lt_of_le fq12_4.lt gz19_b1)
    have f23 := fq12_0.keep Kq19
    have f24 := fq12_1.keep Kq19 List.not_mem_nil
    have f25 := fq12_2.keep Kq19 List.not_mem_nil
    have f26 := fq12_3.keep Kq19 List.not_mem_nil
    have f27 := fq12_4.keep Kq19 List.not_mem_nil
    have f28 := fq12_6.keep Kq19 List.not_mem_nil
    have Z19 : n0 ≤ T19.heap.size := Nat.le_trans Z12 Kq19.1
    have K19 : Keep h0 T19.heap [] := K12.trans Kq19 (fun x hx => nomatch hx)
    have Xo19 := Xo12.keep Kq19 all0
    have k29 : ∀ t, Steps p.tables e below (T19.setTop (mkF m 63 #[.val (.long p1), .second, .val (.long p2), .second, .val (.int p3), .val (.int p4), .val (.double (FP.i2d p3)), .second, .val (.int (own_bel p4)), .val (.int (own_via p4)), .val (.ref b6), .unset, .unset, .unset] [(.ref rb1_19), (.ref b6)])) t → Steps p.tables e below (s₁.setTop (entryFrame m #[(.long p1), (.long p2), (.int p3), (.int p4)] maxLocals)) t := fun t k => k18 t (st19 t k)
    obtain ⟨cq30, kq30, q30a, q30b, q30c⟩ := isOf hZ rfl f23
    obtain ⟨_, _, ⟨T30, L30, k30c, n30⟩, -, X30, ⟨Lc30, hQ30, l30, y30, z30⟩, st30⟩ := X19.virtualBack hx (y := (⟨"com/example/reckoner/reckoner/OperandStack", "push", "(Lcom/example/reckoner/reckoner/Value;)V"⟩ : MethodName)) (z := (⟨"com/example/reckoner/reckoner/OperandStack", "push", "(Lcom/example/reckoner/reckoner/Value;)V"⟩ : MethodName)) hown (mvT hZ (hw _ (List.mem_of_getElem? (i := 35) rfl))) (mvT hZ (hw _ (List.mem_of_getElem? (i := 36) rfl))) (notFace_of_selects (args := #[]) (mvT hZ (hw _ (List.mem_of_getElem? (i := 38) rfl)))) (mvT hZ (hw _ (List.mem_of_getElem? (i := 38) rfl))) (mvT hZ (hw _ (List.mem_of_getElem? (i := 37) rfl))) (by decide) (backOf (W := 0) (own_rmpu0 l Z a0 hw [] b6 rb1_19 rb5_12 rb20_12 rc_12c5 rc_12c20 .null .null .null (0 : UInt64) (0 : UInt64) (0 : UInt64) T19.heap n0 Z19 f23 f24 f25 f26 f27 fq12_5 f28 fq19_0 ge6 ge12_b5 ge12_b20 ne13 ne14 nq12_b5_b20) hZ (hw _ (List.mem_of_getElem? (i := 39) rfl)) (hw _ (List.mem_of_getElem? (i := 2) rfl)) (by decide) (by decide)) q30a q30c (g := (mkF m 63 #[.val (.long p1), .second, .val (.long p2), .second, .val (.int p3), .val (.int p4), .val (.double (FP.i2d p3)), .second, .val (.int (own_bel p4)), .val (.int (own_via p4)), .val (.ref b6), .unset, .unset, .unset] [(.ref rb1_19), (.ref b6)])) rfl (by rw [hml]; rfl) (Steps.refl _) (argsL := [(.ref rb1_19)]) (rest := []) (lenOf own_pd6 rfl) rfl (by show 2 * 0 + _ ≤ _; exact Nat.le_of_eq rfl) (hb hby at_63) (fun _ _ => ⟨rfl, rfl, (by decide : 4 + 0 ≤ _), (by decide : 12 + 0 ≤ _)⟩)
    dsimp only [Pt.U, Pt.locs, Pt.cells, Pt.slots] at X30 l30 y30 z30 st30 hQ30
    subst l30 y30 z30
    obtain ⟨rfl, N30q, Kq30, fq30_0, fq30_1, fq30_2, fq30_3, fq30_4, fq30_5, fq30_6, fq30_7⟩ := hQ30
    have N30 := Fr.app N19 N30q
    have f31 := fq19_1.keep Kq30 (List.not_mem_cons_of_ne_of_not_mem (Ne.symm ne20) (List.not_mem_cons_of_ne_of_not_mem (Ne.symm ne22) List.not_mem_nil))
    have f32 := fq19_2.keep Kq30 (List.not_mem_cons_of_ne_of_not_mem (Ne.symm ne20) (List.not_mem_cons_of_ne_of_not_mem (Ne.symm ne22) List.not_mem_nil))
    have f33 := fq19_3.keep Kq30 (List.not_mem_cons_of_ne_of_not_mem (Ne.symm ne20) (List.not_mem_cons_of_ne_of_not_mem (Ne.symm ne22) List.not_mem_nil))
    have Z30 : n0 ≤ T30.heap.size := Nat.le_trans Z19 Kq30.1
    have K30 : Keep h0 T30.heap [] := K19.trans Kq30 (fun x hx => by rcases List.mem_cons.mp hx with rfl | hx; exact Or.inr bo6; rcases List.mem_cons.mp hx with rfl | hx; exact Or.inr bo12_b5; exact nomatch hx)
    have Xo30 := Xo19.keep Kq30 (allS ge6 (allS ge12_b5 all0))
    have k34 : ∀ t, Steps p.tables e below (T30.setTop (mkF m 66 #[.val (.long p1), .second, .val (.long p2), .second, .val (.int p3), .val (.int p4), .val (.double (FP.i2d p3)), .second, .val (.int (own_bel p4)), .val (.int (own_via p4)), .val (.ref b6), .unset, .unset, .unset] [])) t → Steps p.tables e below (s₁.setTop (entryFrame m #[(.long p1), (.long p2), (.int p3), (.int p4)] maxLocals)) t := fun t k => k29 t (st30.trans k)
    have k35 : ∀ t, Steps p.tables e below (T30.setTop (mkF m 68 #[.val (.long p1), .second, .val (.long p2), .second, .val (.int p3), .val (.int p4), .val (.double (FP.i2d p3)), .second, .val (.int (own_bel p4)), .val (.int (own_via p4)), .val (.ref b6), .unset, .unset, .unset] [(.ref b6)])) t → Steps p.tables e below (s₁.setTop (entryFrame m #[(.long p1), (.long p2), (.int p3), (.int p4)] maxLocals)) t := by
      intro t k
      refine k34 t ?_
      show Steps p.tables e below (T30.setTop (mkF m 66 #[.val (.long p1), .second, .val (.long p2), .second, .val (.int p3), .val (.int p4), .val (.double (FP.i2d p3)), .second, .val (.int (own_bel p4)), .val (.int (own_via p4)), .val (.ref b6), .unset, .unset, .unset] [])) _
      refine XS.aload X30.here hx rfl (hb hby at_66) rfl rfl ?_
      exact k
    obtain ⟨cq36, kq36, q36a, q36b, q36c⟩ := isOf hZ rfl fq30_0
    obtain ⟨_, _, ⟨T36, L36, k36c, n36⟩, -, X36, ⟨Lc36, hQ36, l36, y36, z36⟩, st36⟩ := X30.virtualBack hx (y := (⟨"com/example/reckoner/reckoner/OperandStack", "pop", "()Lcom/example/reckoner/reckoner/Value;"⟩ : MethodName)) (z := (⟨"com/example/reckoner/reckoner/OperandStack", "pop", "()Lcom/example/reckoner/reckoner/Value;"⟩ : MethodName)) hown (mvT hZ (hw _ (List.mem_of_getElem? (i := 43) rfl))) (mvT hZ (hw _ (List.mem_of_getElem? (i := 44) rfl))) (notFace_of_selects (args := #[]) (mvT hZ (hw _ (List.mem_of_getElem? (i := 46) rfl)))) (mvT hZ (hw _ (List.mem_of_getElem? (i := 46) rfl))) (mvT hZ (hw _ (List.mem_of_getElem? (i := 45) rfl))) (by decide) (backOf (W := 0) (own_rmpo1o l Z a0 hw [] b6 rb5_12 rb20_12 rc_12c5 rc_12c20 rb1_19 .null .null (0 : UInt64) (0 : UInt64) (0 : UInt64) T30.heap n0 Z30 fq30_0 fq30_1 fq30_2 fq30_3 fq30_4 fq30_5 fq30_6 ge6 ge12_b5 ge12_b20 ne13 ne14 nq12_b5_b20) hZ (hw _ (List.mem_of_getElem? (i := 47) rfl)) (hw _ (List.mem_of_getElem? (i := 2) rfl)) (by decide) (by decide)) q36a q36c (g := (mkF m 68 #[.val (.long p1), .second, .val (.long p2), .second, .val (.int p3), .val (.int p4), .val (.double (FP.i2d p3)), .second, .val (.int (own_bel p4)), .val (.int (own_via p4)), .val (.ref b6), .unset, .unset, .unset] [(.ref b6)])) rfl (by rw [hml]; rfl) (Steps.refl _) (argsL := []) (rest := []) (lenOf own_pd7 rfl) rfl (by show 2 * 0 + _ ≤ _; exact Nat.le_of_eq rfl) (hb hby at_68) (fun _ _ => ⟨rfl, rfl, (by decide : 4 + 0 ≤ _), (by decide : 12 + 0 ≤ _)⟩)
    dsimp only [Pt.U, Pt.locs, Pt.cells, Pt.slots] at X36 l36 y36 z36 st36 hQ36
    subst l36 y36 z36
    obtain ⟨rfl, N36q, Kq36, fq36_0, fq36_1, fq36_2, fq36_3, fq36_4, fq36_5, fq36_6⟩ := hQ36
    have N36 := Fr.app N30 N36q
    have f37 := fq30_7.keep Kq36
    have f38 := f31.keep Kq36 (List.not_mem_cons_of_ne_of_not_mem (Ne.symm ne20) List.not_mem_nil)
    have f39 := f32.keep Kq36 (List.not_mem_cons_of_ne_of_not_mem (Ne.symm ne20) List.not_mem_nil)
    have f40 := f33.keep Kq36 (List.not_mem_cons_of_ne_of_not_mem (Ne.symm ne20) List.not_mem_nil)
    have Z36 : n0 ≤ T36.heap.size := Nat.le_trans Z30 Kq36.1
    have K36 : Keep h0 T36.heap [] := K30.trans Kq36 (fun x hx => by rcases List.mem_cons.mp hx with rfl | hx; exact Or.inr bo6; exact nomatch hx)
    have Xo36 := Xo30.keep Kq36 (allS ge6 all0)
    have k41 : ∀ t, Steps p.tables e below (T36.setTop (mkF m 71 #[.val (.long p1), .second, .val (.long p2), .second, .val (.int p3), .val (.int p4), .val (.double (FP.i2d p3)), .second, .val (.int (own_bel p4)), .val (.int (own_via p4)), .val (.ref b6), .unset, .unset, .unset] [(.ref rb1_19)])) t → Steps p.tables e below (s₁.setTop (entryFrame m #[(.long p1), (.long p2), (.int p3), (.int p4)] maxLocals)) t := fun t k => k35 t (st36.trans k)
    have k42 : ∀ t, Steps p.tables e below (T36.setTop (mkF m 76 #[.val (.long p1), .second, .val (.long p2), .second, .val (.int p3), .val (.int p4), .val (.double (FP.i2d p3)), .second, .val (.int (own_bel p4)), .val (.int (own_via p4)), .val (.ref b6), .unset, .unset, .unset] [(.double (FP.i2d p3)), (.ref b6)])) t → Steps p.tables e below (s₁.setTop (entryFrame m #[(.long p1), (.long p2), (.int p3), (.int p4)] maxLocals)) t := by
      intro t k
      refine k41 t ?_
      show Steps p.tables e below (T36.setTop (mkF m 71 #[.val (.long p1), .second, .val (.long p2), .second, .val (.int p3), .val (.int p4), .val (.double (FP.i2d p3)), .second, .val (.int (own_bel p4)), .val (.int (own_via p4)), .val (.ref b6), .unset, .unset, .unset] [(.ref rb1_19)])) _
      refine XS.pop X36.here hx rfl (hb hby at_71) rfl rfl ?_
      show Steps p.tables e below (T36.setTop (mkF m 72 #[.val (.long p1), .second, .val (.long p2), .second, .val (.int p3), .val (.int p4), .val (.double (FP.i2d p3)), .second, .val (.int (own_bel p4)), .val (.int (own_via p4)), .val (.ref b6), .unset, .unset, .unset] [])) _
      refine XS.aload X36.here hx rfl (hb hby at_72) rfl rfl ?_
      show Steps p.tables e below (T36.setTop (mkF m 74 #[.val (.long p1), .second, .val (.long p2), .second, .val (.int p3), .val (.int p4), .val (.double (FP.i2d p3)), .second, .val (.int (own_bel p4)), .val (.int (own_via p4)), .val (.ref b6), .unset, .unset, .unset] [(.ref b6)])) _
      refine XS.dload X36.here hx rfl (hb hby at_74) rfl ?_
      exact k
    obtain ⟨cq43, kq43, q43a, q43b, q43c⟩ := isOf hZ rfl fq36_0
    obtain ⟨_, _, ⟨T43, L43, k43c, n43⟩, -, X43, ⟨Lc43, hQ43, l43, y43, z43⟩, st43⟩ := X36.virtualBack hx (y := (⟨"com/example/reckoner/reckoner/OperandStack", "pushReal", "(D)V"⟩ : MethodName)) (z := (⟨"com/example/reckoner/reckoner/OperandStack", "pushReal", "(D)V"⟩ : MethodName)) hown (mvT hZ (hw _ (List.mem_of_getElem? (i := 52) rfl))) (mvT hZ (hw _ (List.mem_of_getElem? (i := 53) rfl))) (notFace_of_selects (args := #[]) (mvT hZ (hw _ (List.mem_of_getElem? (i := 55) rfl)))) (mvT hZ (hw _ (List.mem_of_getElem? (i := 55) rfl))) (mvT hZ (hw _ (List.mem_of_getElem? (i := 54) rfl))) (by decide) (backOf (W := 0) (own_rmpr0 l Z a0 hw [] b6 (FP.i2d p3) rb5_12 rb20_12 rc_12c5 rc_12c20 (.ref rb1_19) .null .null (0 : UInt64) (0 : UInt64) (0 : UInt64) T36.heap n0 Z36 fq36_0 fq36_1 fq36_2 fq36_3 fq36_4 fq36_5 fq36_6 ge6 ge12_b5 ge12_b20 ne13 ne14 nq12_b5_b20) hZ (hw _ (List.mem_of_getElem? (i := 56) rfl)) (hw _ (List.mem_of_getElem? (i := 2) rfl)) (by decide) (by decide)) q43a q43c (g := (mkF m 76 #[.val (.long p1), .second, .val (.long p2), .second, .val (.int p3), .val (.int p4), .val (.double (FP.i2d p3)), .second, .val (.int (own_bel p4)), .val (.int (own_via p4)), .val (.ref b6), .unset, .unset, .unset] [(.double (FP.i2d p3)), (.ref b6)])) rfl (by rw [hml]; rfl) (Steps.refl _) (argsL := [(.double (FP.i2d p3))]) (rest := []) (lenOf own_pd8 rfl) rfl (by show 2 * 0 + _ ≤ _; exact Nat.le_of_eq rfl) (hb hby at_76) (fun _ _ => ⟨rfl, rfl, (by decide : 4 + 0 ≤ _), (by decide : 12 + 0 ≤ _)⟩)
    dsimp only [Pt.U, Pt.locs, Pt.cells, Pt.slots] at X43 l43 y43 z43 st43 hQ43
    subst l43 y43 z43
    obtain ⟨rfl, N43q, Kq43, fq43_0, fq43_1, fq43_2, fq43_3, fq43_4, fq43_5, fq43_6⟩ := hQ43
    have N43 := Fr.app N36 N43q
    have f44 := f37.keep Kq43
    have f45 := f38.keep Kq43 (List.not_mem_cons_of_ne_of_not_mem (Ne.symm ne20) (List.not_mem_cons_of_ne_of_not_mem (Ne.symm ne22) (List.not_mem_cons_of_ne_of_not_mem (Ne.symm ne21) List.not_mem_nil)))
    have f46 := f39.keep Kq43 (List.not_mem_cons_of_ne_of_not_mem (Ne.symm ne20) (List.not_mem_cons_of_ne_of_not_mem (Ne.symm ne22) (List.not_mem_cons_of_ne_of_not_mem (Ne.symm ne21) List.not_mem_nil)))
    have f47 := f40.keep Kq43 (List.not_mem_cons_of_ne_of_not_mem (Ne.symm ne20) (List.not_mem_cons_of_ne_of_not_mem (Ne.symm ne22) (List.not_mem_cons_of_ne_of_not_mem (Ne.symm ne21) List.not_mem_nil)))
    have Z43 : n0 ≤ T43.heap.size := Nat.le_trans Z36 Kq43.1
    have K43 : Keep h0 T43.heap [] := K36.trans Kq43 (fun x hx => by rcases List.mem_cons.mp hx with rfl | hx; exact Or.inr bo6; rcases List.mem_cons.mp hx with rfl | hx; exact Or.inr bo12_b5; rcases List.mem_cons.mp hx with rfl | hx; exact Or.inr bo12_b20; exact nomatch hx)
    have Xo43 := Xo36.keep Kq43 (allS ge6 (allS ge12_b5 (allS ge12_b20 all0)))
    have k48 : ∀ t, Steps p.tables e below (T43.setTop (mkF m 79 #[.val (.long p1), .second, .val (.long p2), .second, .val (.int p3), .val (.int p4), .val (.double (FP.i2d p3)), .second, .val (.int (own_bel p4)), .val (.int (own_via p4)), .val (.ref b6), .unset, .unset, .unset] [])) t → Steps p.tables e below (s₁.setTop (entryFrame m #[(.long p1), (.long p2), (.int p3), (.int p4)] maxLocals)) t := fun t k => k42 t (st43.trans k)
    have k49 : ∀ t, Steps p.tables e below (T43.setTop (mkF m 82 #[.val (.long p1), .second, .val (.long p2), .second, .val (.int p3), .val (.int p4), .val (.double (FP.i2d p3)), .second, .val (.int (own_bel p4)), .val (.int (own_via p4)), .val (.ref b6), .unset, .unset, .unset] [(.int (0 : Int32)), (.ref b6)])) t → Steps p.tables e below (s₁.setTop (entryFrame m #[(.long p1), (.long p2), (.int p3), (.int p4)] maxLocals)) t := by
      intro t k
      refine k48 t ?_
      show Steps p.tables e below (T43.setTop (mkF m 79 #[.val (.long p1), .second, .val (.long p2), .second, .val (.int p3), .val (.int p4), .val (.double (FP.i2d p3)), .second, .val (.int (own_bel p4)), .val (.int (own_via p4)), .val (.ref b6), .unset, .unset, .unset] [])) _
      refine XS.aload X43.here hx rfl (hb hby at_79) rfl rfl ?_
      show Steps p.tables e below (T43.setTop (mkF m 81 #[.val (.long p1), .second, .val (.long p2), .second, .val (.int p3), .val (.int p4), .val (.double (FP.i2d p3)), .second, .val (.int (own_bel p4)), .val (.int (own_via p4)), .val (.ref b6), .unset, .unset, .unset] [(.ref b6)])) _
      refine XS.iconst X43.here hx rfl (hb hby at_81) ?_
      exact k
    obtain ⟨cq50, kq50, q50a, q50b, q50c⟩ := isOf hZ rfl fq43_0
    obtain ⟨_, _, ⟨T50, L50, k50c, n50⟩, -, X50, ⟨Lc50, hQ50, l50, y50, z50⟩, st50⟩ := X43.virtualBack hx (y := (⟨"com/example/reckoner/reckoner/OperandStack", "isInteger", "(I)Z"⟩ : MethodName)) (z := (⟨"com/example/reckoner/reckoner/OperandStack", "isInteger", "(I)Z"⟩ : MethodName)) hown (mvT hZ (hw _ (List.mem_of_getElem? (i := 57) rfl))) (mvT hZ (hw _ (List.mem_of_getElem? (i := 58) rfl))) (notFace_of_selects (args := #[]) (mvT hZ (hw _ (List.mem_of_getElem? (i := 60) rfl)))) (mvT hZ (hw _ (List.mem_of_getElem? (i := 60) rfl))) (mvT hZ (hw _ (List.mem_of_getElem? (i := 59) rfl))) (by decide) (backOf (W := 0) (own_rmsi1 l Z a0 hw [] b6 rb5_12 rb20_12 rc_12c5 rc_12c20 .null .null (FP.i2d p3) (0 : UInt64) (0 : UInt64) T43.heap n0 Z43 fq43_0 fq43_1 fq43_2 fq43_3 fq43_4 fq43_5 fq43_6 ge6 ge12_b5 ge12_b20 ne13 ne14 nq12_b5_b20) hZ (hw _ (List.mem_of_getElem? (i := 61) rfl)) (hw _ (List.mem_of_getElem? (i := 2) rfl)) (by decide) (by decide)) q50a q50c (g := (mkF m 82 #[.val (.long p1), .second, .val (.long p2), .second, .val (.int p3), .val (.int p4), .val (.double (FP.i2d p3)), .second, .val (.int (own_bel p4)), .val (.int (own_via p4)), .val (.ref b6), .unset, .unset, .unset] [(.int (0 : Int32)), (.ref b6)])) rfl (by rw [hml]; rfl) (Steps.refl _) (argsL := [(.int (0 : Int32))]) (rest := []) (lenOf own_pd9 rfl) rfl (by show 2 * 0 + _ ≤ _; exact Nat.le_of_eq rfl) (hb hby at_82) (fun _ _ => ⟨rfl, rfl, (by decide : 4 + 0 ≤ _), (by decide : 12 + 0 ≤ _)⟩)
    dsimp only [Pt.U, Pt.locs, Pt.cells, Pt.slots] at X50 l50 y50 z50 st50 hQ50
    subst l50 y50 z50
    obtain ⟨rfl, N50q, Kq50, fq50_0, fq50_1, fq50_2, fq50_3, fq50_4, fq50_5, fq50_6⟩ := hQ50
    have N50 := Fr.app N43 N50q
    have f51 := f44.keep Kq50
    have f52 := f45.keep Kq50 List.not_mem_nil
    have f53 := f46.keep Kq50 List.not_mem_nil
    have f54 := f47.keep Kq50 List.not_mem_nil
    have Z50 : n0 ≤ T50.heap.size := Nat.le_trans Z43 Kq50.1
    have K50 : Keep h0 T50.heap [] := K43.trans Kq50 (fun x hx => nomatch hx)
    have Xo50 := Xo43.keep Kq50 all0
    have k55 : ∀ t, Steps p.tables e below (T50.setTop (mkF m 85 #[.val (.long p1), .second, .val (.long p2), .second, .val (.int p3), .val (.int p4), .val (.double (FP.i2d p3)), .second, .val (.int (own_bel p4)), .val (.int (own_via p4)), .val (.ref b6), .unset, .unset, .unset] [(.int (0 : Int32))])) t → Steps p.tables e below (s₁.setTop (entryFrame m #[(.long p1), (.long p2), (.int p3), (.int p4)] maxLocals)) t := fun t k => k49 t (st50.trans k)
    have k56 : ∀ t, Steps p.tables e below (T50.setTop (mkF m 123 #[.val (.long p1), .second, .val (.long p2), .second, .val (.int p3), .val (.int p4), .val (.double (FP.i2d p3)), .second, .val (.int (own_bel p4)), .val (.int (own_via p4)), .val (.ref b6), .val (.int (1 : Int32)), .unset, .unset] [(.ref b6)])) t → Steps p.tables e below (s₁.setTop (entryFrame m #[(.long p1), (.long p2), (.int p3), (.int p4)] maxLocals)) t := by
      intro t k
      refine k55 t ?_
      show Steps p.tables e below (T50.setTop (mkF m 85 #[.val (.long p1), .second, .val (.long p2), .second, .val (.int p3), .val (.int p4), .val (.double (FP.i2d p3)), .second, .val (.int (own_bel p4)), .val (.int (own_via p4)), .val (.ref b6), .unset, .unset, .unset] [(.int (0 : Int32))])) _
      refine XS.ifNo X50.here hx rfl (hb hby at_85) rfl ((if0 _ _).trans (teq (rfl : (0 : Int32) = (0 : Int32))).2) ?_
      show Steps p.tables e below (T50.setTop (mkF m 88 #[.val (.long p1), .second, .val (.long p2), .second, .val (.int p3), .val (.int p4), .val (.double (FP.i2d p3)), .second, .val (.int (own_bel p4)), .val (.int (own_via p4)), .val (.ref b6), .unset, .unset, .unset] [])) _
      refine XS.iconst X50.here hx rfl (hb hby at_88) ?_
      show Steps p.tables e below (T50.setTop (mkF m 89 #[.val (.long p1), .second, .val (.long p2), .second, .val (.int p3), .val (.int p4), .val (.double (FP.i2d p3)), .second, .val (.int (own_bel p4)), .val (.int (own_via p4)), .val (.ref b6), .unset, .unset, .unset] [(.int (1 : Int32))])) _
      refine XS.goto X50.here hx rfl (pc0 := 89) (pc' := 93) rfl (hb hby at_89) (by decide) (by decide) ?_
      show Steps p.tables e below (T50.setTop (mkF m 93 #[.val (.long p1), .second, .val (.long p2), .second, .val (.int p3), .val (.int p4), .val (.double (FP.i2d p3)), .second, .val (.int (own_bel p4)), .val (.int (own_via p4)), .val (.ref b6), .unset, .unset, .unset] [(.int (1 : Int32))])) _
      refine XS.istore X50.here hx rfl (hb hby at_93) rfl (l' := #[.val (.long p1), .second, .val (.long p2), .second, .val (.int p3), .val (.int p4), .val (.double (FP.i2d p3)), .second, .val (.int (own_bel p4)), .val (.int (own_via p4)), .val (.ref b6), .val (.int (1 : Int32)), .unset, .unset]) rfl ?_
      show Steps p.tables e below (T50.setTop (mkF m 95 #[.val (.long p1), .second, .val (.long p2), .second, .val (.int p3), .val (.int p4), .val (.double (FP.i2d p3)), .second, .val (.int (own_bel p4)), .val (.int (own_via p4)), .val (.ref b6), .val (.int (1 : Int32)), .unset, .unset] [])) _
      refine XS.iload X50.here hx rfl (hb hby at_95) rfl ?_
      show Steps p.tables e below (T50.setTop (mkF m 97 #[.val (.long p1), .second, .val (.long p2), .second, .val (.int p3), .val (.int p4), .val (.double (FP.i2d p3)), .second, .val (.int (own_bel p4)), .val (.int (own_via p4)), .val (.ref b6), .val (.int (1 : Int32)), .unset, .unset] [(.int (own_bel p4))])) _
      refine XS.ifYes X50.here hx rfl (pc0 := 97) (pc' := 121) rfl (hb hby at_97) rfl ((if0 _ _).trans (teq hc45_17).1) (by decide) (by decide) ?_
      show Steps p.tables e below (T50.setTop (mkF m 121 #[.val (.long p1), .second, .val (.long p2), .second, .val (.int p3), .val (.int p4), .val (.double (FP.i2d p3)), .second, .val (.int (own_bel p4)), .val (.int (own_via p4)), .val (.ref b6), .val (.int (1 : Int32)), .unset, .unset] [])) _
      refine XS.aload X50.here hx rfl (hb hby at_121) rfl rfl ?_
      exact k
    obtain ⟨cq57, kq57, q57a, q57b, q57c⟩ := isOf hZ rfl fq50_0
    obtain ⟨_, _, ⟨T57, L57, k57c, n57⟩, -, X57, ⟨Lc57, hQ57, l57, y57, z57⟩, st57⟩ := X50.virtualBack hx (y := (⟨"com/example/reckoner/reckoner/OperandStack", "peek", "()Lcom/example/reckoner/reckoner/Value;"⟩ : MethodName)) (z := (⟨"com/example/reckoner/reckoner/OperandStack", "peek", "()Lcom/example/reckoner/reckoner/Value;"⟩ : MethodName)) hown (mvT hZ (hw _ (List.mem_of_getElem? (i := 67) rfl))) (mvT hZ (hw _ (List.mem_of_getElem? (i := 68) rfl))) (notFace_of_selects (args := #[]) (mvT hZ (hw _ (List.mem_of_getElem? (i := 70) rfl)))) (mvT hZ (hw _ (List.mem_of_getElem? (i := 70) rfl))) (mvT hZ (hw _ (List.mem_of_getElem? (i := 69) rfl))) (by decide) (backOf (W := 0) (own_rmpk1 l Z a0 hw [] b6 rb5_12 rb20_12 rc_12c5 rc_12c20 .null .null (FP.i2d p3) (0 : UInt64) (0 : UInt64) sR T50.heap n0 Z50 fq50_0 fq50_1 fq50_2 fq50_3 fq50_4 fq50_5 fq50_6 ge6 ge12_b5 ge12_b20 ne13 ne14 nq12_b5_b20 Xo50 SR) hZ (hw _ (List.mem_of_getElem? (i := 71) rfl)) (hw _ (List.mem_of_getElem? (i := 2) rfl)) (by decide) (by decide)) q57a q57c (g := (mkF m 123 #[.val (.long p1), .second, .val (.long p2), .second, .val (.int p3), .val (.int p4), .val (.double (FP.i2d p3)), .second, .val (.int (own_bel p4)), .val (.int (own_via p4)), .val (.ref b6), .val (.int (1 : Int32)), .unset, .unset] [(.ref b6)])) rfl (by rw [hml]; rfl) (Steps.refl _) (argsL := []) (rest := []) (lenOf own_pd7 rfl) rfl (by show 2 * 0 + _ ≤ _; exact Nat.le_of_eq rfl) (hb hby at_123) (fun _ _ => ⟨rfl, rfl, (by decide : 4 + 1 ≤ _), (by decide : 12 + 3 ≤ _)⟩)
    dsimp only [Pt.U, Pt.locs, Pt.cells, Pt.slots] at X57 l57 y57 z57 st57 hQ57
    subst l57 y57 z57
    obtain ⟨rrrb1_14_5_57, rfl, N57q, Kq57, gz57_rrb1_14_5, fq57_0, fq57_1, fq57_2, fq57_3, fq57_4, fq57_5, fq57_6, fq57_7, fq57_8, fq57_9, fq57_10⟩ := hQ57
    have N57 := Fr.app N50 N57q
    have ge57_rrb1_14_5 : n0 ≤ rrrb1_14_5_57 := Nat.le_trans Z50 gz57_rrb1_14_5
    have bo57_rrb1_14_5 : h0.size ≤ rrrb1_14_5_57 := Nat.le_trans K50.1 gz57_rrb1_14_5
    have ne58 : b6 ≠ rrrb1_14_5_57 := Nat.ne_of_lt (Nat.lt_of_lt_of_le fq50_0.lt gz57_rrb1_14_5)
    have ne59 : rb1_19 ≠ rrrb1_14_5_57 := Nat.ne_of_lt (Nat.lt_of_lt_of_le f51.lt gz57_rrb1_14_5)
    have ne60 : rb20_12 ≠ rrrb1_14_5_57 := Nat.ne_of_lt (Nat.lt_of_lt_of_le fq50_6.lt gz57_rrb1_14_5)
    have ne61 : rb5_12 ≠ rrrb1_14_5_57 := Nat.ne_of_lt (Nat.lt_of_lt_of_le fq50_4.lt gz57_rrb1_14_5)
    have f62 := f51.keep Kq57
    have f63 := f52.keep Kq57 List.not_mem_nil
    have f64 := f53.keep Kq57 List.not_mem_nil
    have f65 := f54.keep Kq57 List.not_mem_nil
    have Z57 : n0 ≤ T57.heap.size := Nat.le_trans Z50 Kq57.1
    have K57 : Keep h0 T57.heap [] := K50.trans Kq57 (fun x hx => nomatch hx)
    have Xo57 := Xo50.keep Kq57 all0
    have k66 : ∀ t, Steps p.tables e below (T57.setTop (mkF m 126 #[.val (.long p1), .second, .val (.long p2), .second, .val (.int p3), .val (.int p4), .val (.double (FP.i2d p3)), .second, .val (.int (own_bel p4)), .val (.int (own_via p4)), .val (.ref b6), .val (.int (1 : Int32)), .unset, .unset] [(.ref rrrb1_14_5_57)])) t → Steps p.tables e below (s₁.setTop (entryFrame m #[(.long p1), (.long p2), (.int p3), (.int p4)] maxLocals)) t := fun t k => k56 t (st57.trans k)
    have k67 : ∀ t, Steps p.tables e below (T57.setTop (mkF m 135 #[.val (.long p1), .second, .val (.long p2), .second, .val (.int p3), .val (.int p4), .val (.double (FP.i2d p3)), .second, .val (.int (own_bel p4)), .val (.int (own_via p4)), .val (.ref b6), .val (.int (1 : Int32)), .val (.ref rrrb1_14_5_57), .unset] [(.ref rrrb1_14_5_57)])) t → Steps p.tables e below (s₁.setTop (entryFrame m #[(.long p1), (.long p2), (.int p3), (.int p4)] maxLocals)) t := by
      intro t k
      refine k66 t ?_
      show Steps p.tables e below (T57.setTop (mkF m 126 #[.val (.long p1), .second, .val (.long p2), .second, .val (.int p3), .val (.int p4), .val (.double (FP.i2d p3)), .second, .val (.int (own_bel p4)), .val (.int (own_via p4)), .val (.ref b6), .val (.int (1 : Int32)), .unset, .unset] [(.ref rrrb1_14_5_57)])) _
      refine XS.astore X57.here hx rfl (hb hby at_126) rfl rfl (l' := #[.val (.long p1), .second, .val (.long p2), .second, .val (.int p3), .val (.int p4), .val (.double (FP.i2d p3)), .second, .val (.int (own_bel p4)), .val (.int (own_via p4)), .val (.ref b6), .val (.int (1 : Int32)), .val (.ref rrrb1_14_5_57), .unset]) rfl ?_
      show Steps p.tables e below (T57.setTop (mkF m 128 #[.val (.long p1), .second, .val (.long p2), .second, .val (.int p3), .val (.int p4), .val (.double (FP.i2d p3)), .second, .val (.int (own_bel p4)), .val (.int (own_via p4)), .val (.ref b6), .val (.int (1 : Int32)), .val (.ref rrrb1_14_5_57), .unset] [])) _
      refine XS.iload X57.here hx rfl (hb hby at_128) rfl ?_
      show Steps p.tables e below (T57.setTop (mkF m 130 #[.val (.long p1), .second, .val (.long p2), .second, .val (.int p3), .val (.int p4), .val (.double (FP.i2d p3)), .second, .val (.int (own_bel p4)), .val (.int (own_via p4)), .val (.ref b6), .val (.int (1 : Int32)), .val (.ref rrrb1_14_5_57), .unset] [(.int (1 : Int32))])) _
      refine XS.ifNo X57.here hx rfl (hb hby at_130) rfl ((if0 _ _).trans (feq (by decide : ¬ ((1 : Int32) = (0 : Int32)))).1) ?_
      show Steps p.tables e below (T57.setTop (mkF m 133 #[.val (.long p1), .second, .val (.long p2), .second, .val (.int p3), .val (.int p4), .val (.double (FP.i2d p3)), .second, .val (.int (own_bel p4)), .val (.int (own_via p4)), .val (.ref b6), .val (.int (1 : Int32)), .val (.ref rrrb1_14_5_57), .unset] [])) _
      refine XS.aload X57.here hx rfl (hb hby at_133) rfl rfl ?_
      exact k
    obtain ⟨cq68, kq68, q68a, q68b, q68c⟩ := isOf hZ rfl fq57_7
    obtain ⟨_, _, ⟨T68, L68, k68c, n68⟩, -, X68, ⟨Lc68, hQ68, l68, y68, z68⟩, st68⟩ := X57.virtualBack hx (y := (⟨"com/example/reckoner/reckoner/Value", "type", "()Lcom/example/reckoner/reckoner/Value$Type;"⟩ : MethodName)) (z := (⟨"com/example/reckoner/reckoner/Value", "type", "()Lcom/example/reckoner/reckoner/Value$Type;"⟩ : MethodName)) hown (mvT hZ (hw _ (List.mem_of_getElem? (i := 77) rfl))) (mvT hZ (hw _ (List.mem_of_getElem? (i := 78) rfl))) (notFace_of_selects (args := #[]) (mvT hZ (hw _ (List.mem_of_getElem? (i := 80) rfl)))) (mvT hZ (hw _ (List.mem_of_getElem? (i := 80) rfl))) (mvT hZ (hw _ (List.mem_of_getElem? (i := 79) rfl))) (by decide) (backOf (W := 0) (own_rmty l Z a0 hw [] rrrb1_14_5_57 sR T57.heap n0 Z57 fq57_7 fq57_8 Xo57 SR) hZ (hw _ (List.mem_of_getElem? (i := 81) rfl)) (hw _ (List.mem_of_getElem? (i := 18) rfl)) (by decide) (by decide)) q68a q68c (g := (mkF m 135 #[.val (.long p1), .second, .val (.long p2), .second, .val (.int p3), .val (.int p4), .val (.double (FP.i2d p3)), .second, .val (.int (own_bel p4)), .val (.int (own_via p4)), .val (.ref b6), .val (.int (1 : Int32)), .val (.ref rrrb1_14_5_57), .unset] [(.ref rrrb1_14_5_57)])) rfl (by rw [hml]; rfl) (Steps.refl _) (argsL := []) (rest := []) (lenOf own_pd10 rfl) rfl (by show 2 * 0 + _ ≤ _; exact Nat.le_of_eq rfl) (hb hby at_135) (fun _ _ => ⟨rfl, rfl, (by decide : 5 + 0 ≤ _), (by decide : 15 + 0 ≤ _)⟩)
    dsimp only [Pt.U, Pt.locs, Pt.cells, Pt.slots] at X68 l68 y68 z68 st68 hQ68
    subst l68 y68 z68
    obtain ⟨rfl, N68q, Kq68, fq68_0, fq68_1⟩ := hQ68
    have N68 := Fr.app N57 N68q
    have f69 := fq57_0.keep Kq68
    have f70 := fq57_1.keep Kq68 List.not_mem_nil
    have f71 := fq57_2.keep Kq68 List.not_mem_nil
    have f72 := fq57_3.keep Kq68 List.not_mem_nil
    have f73 := fq57_4.keep Kq68 List.not_mem_nil
    have f74 := fq57_6.keep Kq68 List.not_mem_nil
    have f75 := f62.keep Kq68
    have f76 := f63.keep Kq68 List.not_mem_nil
    have f77 := f64.keep Kq68 List.not_mem_nil
    have f78 := f65.keep Kq68 List.not_mem_nil
    have f79 := fq57_9.keep Kq68 List.not_mem_nil
    have f80 := fq57_10.keep Kq68 List.not_mem_nil
    have Z68 : n0 ≤ T68.heap.size := Nat.le_trans Z57 Kq68.1
    have K68 : Keep h0 T68.heap [] := K57.trans Kq68 (fun x hx => nomatch hx)
    have Xo68 := Xo57.keep Kq68 all0
    have k81 : ∀ t, Steps p.tables e below (T68.setTop (mkF m 138 #[.val (.long p1), .second, .val (.long p2), .second, .val (.int p3), .val (.int p4), .val (.double (FP.i2d p3)), .second, .val (.int (own_bel p4)), .val (.int (own_via p4)), .val (.ref b6), .val (.int (1 : Int32)), .val (.ref rrrb1_14_5_57), .unset] [(.ref sR)])) t → Steps p.tables e below (s₁.setTop (entryFrame m #[(.long p1), (.long p2), (.int p3), (.int p4)] maxLocals)) t := fun t k => k67 t (st68.trans k)
    obtain ⟨T82, X82, e82, st82⟩ := getS2 X68 hx hZ hown (host := "") (Or.inl (hw _ (List.mem_of_getElem? (i := 82) rfl))) Via.refl rfl (SR.ext Xo68.2) (g := (mkF m 138 #[.val (.long p1), .second, .val (.long p2), .second, .val (.int p3), .val (.int p4), .val (.double (FP.i2d p3)), .second, .val (.int (own_bel p4)), .val (.int (own_via p4)), .val (.ref b6), .val (.int (1 : Int32)), .val (.ref rrrb1_14_5_57), .unset] [(.ref sR)])) rfl (hb hby at_138)
    have k83 : ∀ t, Steps p.tables e below (T82.setTop (mkF m 141 #[.val (.long p1), .second, .val (.long p2), .second, .val (.int p3), .val (.int p4), .val (.double (FP.i2d p3)), .second, .val (.int (own_bel p4)), .val (.int (own_via p4)), .val (.ref b6), .val (.int (1 : Int32)), .val (.ref rrrb1_14_5_57), .unset] [(.ref sR), (.ref sR)])) t → Steps p.tables e below (s₁.setTop (entryFrame m #[(.long p1), (.long p2), (.int p3), (.int p4)] maxLocals)) t := fun t k => k81 t (st82 t k)
    have k84 : ∀ t, Steps p.tables e below (T82.setTop (mkF m 146 #[.val (.long p1), .second, .val (.long p2), .second, .val (.int p3), .val (.int p4), .val (.double (FP.i2d p3)), .second, .val (.int (own_bel p4)), .val (.int (own_via p4)), .val (.ref b6), .val (.int (1 : Int32)), .val (.ref rrrb1_14_5_57), .unset] [(.ref rrrb1_14_5_57)])) t → Steps p.tables e below (s₁.setTop (entryFrame m #[(.long p1), (.long p2), (.int p3), (.int p4)] maxLocals)) t := by
      intro t k
      refine k83 t ?_
      show Steps p.tables e below (T82.setTop (mkF m 141 #[.val (.long p1), .second, .val (.long p2), .second, .val (.int p3), .val (.int p4), .val (.double (FP.i2d p3)), .second, .val (.int (own_bel p4)), .val (.int (own_via p4)), .val (.ref b6), .val (.int (1 : Int32)), .val (.ref rrrb1_14_5_57), .unset] [(.ref sR), (.ref sR)])) _
      refine Jvm.RoadKit.acmp (g := (mkF m 141 #[.val (.long p1), .second, .val (.long p2), .second, .val (.int p3), .val (.int p4), .val (.double (FP.i2d p3)), .second, .val (.int (own_bel p4)), .val (.int (own_via p4)), .val (.ref b6), .val (.int (1 : Int32)), .val (.ref rrrb1_14_5_57), .unset] [(.ref sR), (.ref sR)])) X82 hx rfl rfl rfl (pc0 := 141) (pc' := 144) (same := true) rfl (hb hby at_141) rfl (decide_eq_true rfl) (by decide) (by decide) ?_
      show Steps p.tables e below (T82.setTop (mkF m 144 #[.val (.long p1), .second, .val (.long p2), .second, .val (.int p3), .val (.int p4), .val (.double (FP.i2d p3)), .second, .val (.int (own_bel p4)), .val (.int (own_via p4)), .val (.ref b6), .val (.int (1 : Int32)), .val (.ref rrrb1_14_5_57), .unset] [])) _
      refine XS.aload X82.here hx rfl (hb hby at_144) rfl rfl ?_
      exact k
    obtain ⟨cq85, kq85, q85a, q85b, q85c⟩ := isOf hZ e82 fq68_0
    obtain ⟨_, _, ⟨T85, L85, k85c, n85⟩, -, X85, ⟨Lc85, hQ85, l85, y85, z85⟩, st85⟩ := X82.virtualBack hx (y := (⟨"com/example/reckoner/reckoner/Value", "doubleValue", "()D"⟩ : MethodName)) (z := (⟨"com/example/reckoner/reckoner/Value", "doubleValue", "()D"⟩ : MethodName)) hown (mvT hZ (hw _ (List.mem_of_getElem? (i := 83) rfl))) (mvT hZ (hw _ (List.mem_of_getElem? (i := 84) rfl))) (notFace_of_selects (args := #[]) (mvT hZ (hw _ (List.mem_of_getElem? (i := 86) rfl)))) (mvT hZ (hw _ (List.mem_of_getElem? (i := 86) rfl))) (mvT hZ (hw _ (List.mem_of_getElem? (i := 85) rfl))) (by decide) (backOf (W := 0) (own_rmdv l Z a0 hw [] rrrb1_14_5_57 sI sR sB (FP.i2d p3) T68.heap n0 Z68 fq68_0 fq68_1 f80 Xo68 SI SR SB hRB hIR) hZ (hw _ (List.mem_of_getElem? (i := 87) rfl)) (hw _ (List.mem_of_getElem? (i := 18) rfl)) (by decide) (by decide)) q85a q85c (g := (mkF m 146 #[.val (.long p1), .second, .val (.long p2), .second, .val (.int p3), .val (.int p4), .val (.double (FP.i2d p3)), .second, .val (.int (own_bel p4)), .val (.int (own_via p4)), .val (.ref b6), .val (.int (1 : Int32)), .val (.ref rrrb1_14_5_57), .unset] [(.ref rrrb1_14_5_57)])) rfl (by rw [hml]; rfl) (Steps.refl _) (argsL := []) (rest := []) (lenOf own_pd11 rfl) rfl (by show 2 * 0 + _ ≤ _; exact Nat.le_of_eq rfl) (hb hby at_146) (fun _ _ => ⟨rfl, e82, (by decide : 5 + 0 ≤ _), (by decide : 15 + 0 ≤ _)⟩)
    dsimp only [Pt.U, Pt.locs, Pt.cells, Pt.slots] at X85 l85 y85 z85 st85 hQ85
    subst l85 y85 z85
    obtain ⟨rfl, N85q, Kq85, fq85_0, fq85_1, fq85_2⟩ := hQ85
    have N85 := Fr.app N68 N85q
    have f86 := f69.keep Kq85
    have f87 := f70.keep Kq85 List.not_mem_nil
    have f88 := f71.keep Kq85 List.not_mem_nil
    have f89 := f72.keep Kq85 List.not_mem_nil
    have f90 := f73.keep Kq85 List.not_mem_nil
    have f91 := f74.keep Kq85 List.not_mem_nil
    have f92 := f75.keep Kq85
    have f93 := f76.keep Kq85 List.not_mem_nil
    have f94 := f77.keep Kq85 List.not_mem_nil
    have f95 := f78.keep Kq85 List.not_mem_nil
    have f96 := f79.keep Kq85 List.not_mem_nil
    have Z85 : n0 ≤ T85.heap.size := Nat.le_trans Z68 Kq85.1
    have K85 : Keep h0 T85.heap [] := K68.trans Kq85 (fun x hx => nomatch hx)
    have Xo85 := Xo68.keep Kq85 all0
    have k97 : ∀ t, Steps p.tables e below (T85.setTop (mkF m 149 #[.val (.long p1), .second, .val (.long p2), .second, .val (.int p3), .val (.int p4), .val (.double (FP.i2d p3)), .second, .val (.int (own_bel p4)), .val (.int (own_via p4)), .val (.ref b6), .val (.int (1 : Int32)), .val (.ref rrrb1_14_5_57), .unset] [(.double (FP.i2d p3))])) t → Steps p.tables e below (s₁.setTop (entryFrame m #[(.long p1), (.long p2), (.int p3), (.int p4)] maxLocals)) t := fun t k => k84 t (st85.trans k)
    have k98 : ∀ t, Steps p.tables e below (T85.setTop (mkF m 164 #[.val (.long p1), .second, .val (.long p2), .second, .val (.int p3), .val (.int p4), .val (.double (FP.i2d p3)), .second, .val (.int (own_bel p4)), .val (.int (own_via p4)), .val (.ref b6), .val (.int (1 : Int32)), .val (.ref rrrb1_14_5_57), .unset] [(.int (own_via p4))])) t → Steps p.tables e below (s₁.setTop (entryFrame m #[(.long p1), (.long p2), (.int p3), (.int p4)] maxLocals)) t := by
      intro t k
      refine k97 t ?_
      show Steps p.tables e below (T85.setTop (mkF m 149 #[.val (.long p1), .second, .val (.long p2), .second, .val (.int p3), .val (.int p4), .val (.double (FP.i2d p3)), .second, .val (.int (own_bel p4)), .val (.int (own_via p4)), .val (.ref b6), .val (.int (1 : Int32)), .val (.ref rrrb1_14_5_57), .unset] [(.double (FP.i2d p3))])) _
      refine XS.dload X85.here hx rfl (hb hby at_149) rfl ?_
      show Steps p.tables e below (T85.setTop (mkF m 151 #[.val (.long p1), .second, .val (.long p2), .second, .val (.int p3), .val (.int p4), .val (.double (FP.i2d p3)), .second, .val (.int (own_bel p4)), .val (.int (own_via p4)), .val (.ref b6), .val (.int (1 : Int32)), .val (.ref rrrb1_14_5_57), .unset] [(.double (FP.i2d p3)), (.double (FP.i2d p3))])) _
      refine XS.dcmpS X85.here hx rfl (hb hby at_151) rfl (dcmpV_self (nn_w (i2d_w p3)) _) ?_
      show Steps p.tables e below (T85.setTop (mkF m 152 #[.val (.long p1), .second, .val (.long p2), .second, .val (.int p3), .val (.int p4), .val (.double (FP.i2d p3)), .second, .val (.int (own_bel p4)), .val (.int (own_via p4)), .val (.ref b6), .val (.int (1 : Int32)), .val (.ref rrrb1_14_5_57), .unset] [(.int (0 : Int32))])) _
      refine XS.ifNo X85.here hx rfl (hb hby at_152) rfl ((if0 _ _).trans (teq (rfl : (0 : Int32) = (0 : Int32))).2) ?_
      show Steps p.tables e below (T85.setTop (mkF m 155 #[.val (.long p1), .second, .val (.long p2), .second, .val (.int p3), .val (.int p4), .val (.double (FP.i2d p3)), .second, .val (.int (own_bel p4)), .val (.int (own_via p4)), .val (.ref b6), .val (.int (1 : Int32)), .val (.ref rrrb1_14_5_57), .unset] [])) _
      refine XS.iconst X85.here hx rfl (hb hby at_155) ?_
      show Steps p.tables e below (T85.setTop (mkF m 156 #[.val (.long p1), .second, .val (.long p2), .second, .val (.int p3), .val (.int p4), .val (.double (FP.i2d p3)), .second, .val (.int (own_bel p4)), .val (.int (own_via p4)), .val (.ref b6), .val (.int (1 : Int32)), .val (.ref rrrb1_14_5_57), .unset] [(.int (1 : Int32))])) _
      refine XS.goto X85.here hx rfl (pc0 := 156) (pc' := 160) rfl (hb hby at_156) (by decide) (by decide) ?_
      show Steps p.tables e below (T85.setTop (mkF m 160 #[.val (.long p1), .second, .val (.long p2), .second, .val (.int p3), .val (.int p4), .val (.double (FP.i2d p3)), .second, .val (.int (own_bel p4)), .val (.int (own_via p4)), .val (.ref b6), .val (.int (1 : Int32)), .val (.ref rrrb1_14_5_57), .unset] [(.int (1 : Int32))])) _
      refine XS.istore X85.here hx rfl (hb hby at_160) rfl (l' := #[.val (.long p1), .second, .val (.long p2), .second, .val (.int p3), .val (.int p4), .val (.double (FP.i2d p3)), .second, .val (.int (own_bel p4)), .val (.int (own_via p4)), .val (.ref b6), .val (.int (1 : Int32)), .val (.ref rrrb1_14_5_57), .unset]) rfl ?_
      show Steps p.tables e below (T85.setTop (mkF m 162 #[.val (.long p1), .second, .val (.long p2), .second, .val (.int p3), .val (.int p4), .val (.double (FP.i2d p3)), .second, .val (.int (own_bel p4)), .val (.int (own_via p4)), .val (.ref b6), .val (.int (1 : Int32)), .val (.ref rrrb1_14_5_57), .unset] [])) _
      refine XS.iload X85.here hx rfl (hb hby at_162) rfl ?_
      exact k
    by_cases hc164_99 : (own_via p4) = (0 : Int32)
    · have k100 : ∀ t, Steps p.tables e below (T85.setTop (mkF m 195 #[.val (.long p1), .second, .val (.long p2), .second, .val (.int p3), .val (.int p4), .val (.double (FP.i2d p3)), .second, .val (.int (own_bel p4)), .val (.int (own_via p4)), .val (.ref b6), .val (.int (1 : Int32)), .val (.ref rrrb1_14_5_57), .unset] [(.ref b6)])) t → Steps p.tables e below (s₁.setTop (entryFrame m #[(.long p1), (.long p2), (.int p3), (.int p4)] maxLocals)) t := by
        intro t k
        refine k98 t ?_
        show Steps p.tables e below (T85.setTop (mkF m 164 #[.val (.long p1), .second, .val (.long p2), .second, .val (.int p3), .val (.int p4), .val (.double (FP.i2d p3)), .second, .val (.int (own_bel p4)), .val (.int (own_via p4)), .val (.ref b6), .val (.int (1 : Int32)), .val (.ref rrrb1_14_5_57), .unset] [(.int (own_via p4))])) _
        refine XS.ifYes X85.here hx rfl (pc0 := 164) (pc' := 193) rfl (hb hby at_164) rfl ((if0 _ _).trans (teq hc164_99).1) (by decide) (by decide) ?_
        show Steps p.tables e below (T85.setTop (mkF m 193 #[.val (.long p1), .second, .val (.long p2), .second, .val (.int p3), .val (.int p4), .val (.double (FP.i2d p3)), .second, .val (.int (own_bel p4)), .val (.int (own_via p4)), .val (.ref b6), .val (.int (1 : Int32)), .val (.ref rrrb1_14_5_57), .unset] [])) _
        refine XS.aload X85.here hx rfl (hb hby at_193) rfl rfl ?_
        exact k
      obtain ⟨cq101, kq101, q101a, q101b, q101c⟩ := isOf hZ rfl f86
      obtain ⟨_, _, ⟨T101, L101, k101c, n101⟩, -, X101, ⟨Lc101, hQ101, l101, y101, z101⟩, st101⟩ := X85.virtualBack hx (y := (⟨"com/example/reckoner/reckoner/OperandStack", "pop", "()Lcom/example/reckoner/reckoner/Value;"⟩ : MethodName)) (z := (⟨"com/example/reckoner/reckoner/OperandStack", "pop", "()Lcom/example/reckoner/reckoner/Value;"⟩ : MethodName)) hown (mvT hZ (hw _ (List.mem_of_getElem? (i := 43) rfl))) (mvT hZ (hw _ (List.mem_of_getElem? (i := 44) rfl))) (notFace_of_selects (args := #[]) (mvT hZ (hw _ (List.mem_of_getElem? (i := 46) rfl)))) (mvT hZ (hw _ (List.mem_of_getElem? (i := 46) rfl))) (mvT hZ (hw _ (List.mem_of_getElem? (i := 45) rfl))) (by decide) (backOf (W := 0) (own_rmpo1n l Z a0 hw [] b6 rb5_12 rb20_12 rc_12c5 rc_12c20 .null .null (FP.i2d p3) (0 : UInt64) (0 : UInt64) sR T85.heap n0 Z85 f86 f87 f88 f89 f90 fq57_5 f91 ge6 ge12_b5 ge12_b20 ne13 ne14 nq12_b5_b20 Xo85 SR) hZ (hw _ (List.mem_of_getElem? (i := 47) rfl)) (hw _ (List.mem_of_getElem? (i := 2) rfl)) (by decide) (by decide)) q101a q101c (g := (mkF m 195 #[.val (.long p1), .second, .val (.long p2), .second, .val (.int p3), .val (.int p4), .val (.double (FP.i2d p3)), .second, .val (.int (own_bel p4)), .val (.int (own_via p4)), .val (.ref b6), .val (.int (1 : Int32)), .val (.ref rrrb1_14_5_57), .unset] [(.ref b6)])) rfl (by rw [hml]; rfl) (Steps.refl _) (argsL := []) (rest := []) (lenOf own_pd7 rfl) rfl (by show 2 * 0 + _ ≤ _; exact Nat.le_of_eq rfl) (hb hby at_195) (fun _ _ => ⟨rfl, rfl, (by decide : 5 + 1 ≤ _), (by decide : 15 + 3 ≤ _)⟩)
      dsimp only [Pt.U, Pt.locs, Pt.cells, Pt.slots] at X101 l101 y101 z101 st101 hQ101
      subst l101 y101 z101
      obtain ⟨rrrb1_14_16_101, rfl, N101q, Kq101, gz101_rrb1_14_16, fq101_0, fq101_1, fq101_2, fq101_3, fq101_4, fq101_5, fq101_6, fq101_7, fq101_8, fq101_9, fq101_10⟩ := hQ101
      have N101 := Fr.app N85 N101q
      have ge101_rrb1_14_16 : n0 ≤ rrrb1_14_16_101 := Nat.le_trans Z85 gz101_rrb1_14_16
      have bo101_rrb1_14_16 : h0.size ≤ rrrb1_14_16_101 := Nat.le_trans K85.1 gz101_rrb1_14_16
      have ne102 : b6 ≠ rrrb1_14_16_101 := Nat.ne_of_lt (Nat.lt_of_lt_of_le f86.lt gz101_rrb1_14_16)
      have ne103 : rb1_19 ≠ rrrb1_14_16_101 := Nat.ne_of_lt (Nat.lt_of_lt_of_le f92.lt gz101_rrb1_14_16)
      have ne104 : rb20_12 ≠ rrrb1_14_16_101 := Nat.ne_of_lt (Nat.lt_of_lt_of_le f91.lt gz101_rrb1_14_16)
      have ne105 : rb5_12 ≠ rrrb1_14_16_101 := Nat.ne_of_lt (Nat.lt_of_lt_of_le f90.lt gz101_rrb1_14_16)
      have ne106 : rrrb1_14_5_57 ≠ rrrb1_14_16_101 := Nat.ne_of_lt (Nat.lt_of_lt_of_le fq85_0.lt gz101_rrb1_14_16)
      have f107 := f92.keep Kq101
      have f108 := f93.keep Kq101 (List.not_mem_cons_of_ne_of_not_mem (Ne.symm ne20) List.not_mem_nil)
      have f109 := f94.keep Kq101 (List.not_mem_cons_of_ne_of_not_mem (Ne.symm ne20) List.not_mem_nil)
      have f110 := f95.keep Kq101 (List.not_mem_cons_of_ne_of_not_mem (Ne.symm ne20) List.not_mem_nil)
      have f111 := fq85_0.keep Kq101
      have f112 := fq85_1.keep Kq101 (List.not_mem_cons_of_ne_of_not_mem (Ne.symm ne58) List.not_mem_nil)
      have f113 := f96.keep Kq101 (List.not_mem_cons_of_ne_of_not_mem (Ne.symm ne58) List.not_mem_nil)
      have f114 := fq85_2.keep Kq101 (List.not_mem_cons_of_ne_of_not_mem (Ne.symm ne58) List.not_mem_nil)
      have Z101 : n0 ≤ T101.heap.size := Nat.le_trans Z85 Kq101.1
      have K101 : Keep h0 T101.heap [] := K85.trans Kq101 (fun x hx => by rcases List.mem_cons.mp hx with rfl | hx; exact Or.inr bo6; exact nomatch hx)
      have Xo101 := Xo85.keep Kq101 (allS ge6 all0)
      have k115 : ∀ t, Steps p.tables e below (T101.setTop (mkF m 198 #[.val (.long p1), .second, .val (.long p2), .second, .val (.int p3), .val (.int p4), .val (.double (FP.i2d p3)), .second, .val (.int (own_bel p4)), .val (.int (own_via p4)), .val (.ref b6), .val (.int (1 : Int32)), .val (.ref rrrb1_14_5_57), .unset] [(.ref rrrb1_14_16_101)])) t → Steps p.tables e below (s₁.setTop (entryFrame m #[(.long p1), (.long p2), (.int p3), (.int p4)] maxLocals)) t := fun t k => k100 t (st101.trans k)
      have k116 : ∀ t, Steps p.tables e below (T101.setTop (mkF m 207 #[.val (.long p1), .second, .val (.long p2), .second, .val (.int p3), .val (.int p4), .val (.double (FP.i2d p3)), .second, .val (.int (own_bel p4)), .val (.int (own_via p4)), .val (.ref b6), .val (.int (1 : Int32)), .val (.ref rrrb1_14_5_57), .val (.ref rrrb1_14_16_101)] [(.ref rrrb1_14_16_101)])) t → Steps p.tables e below (s₁.setTop (entryFrame m #[(.long p1), (.long p2), (.int p3), (.int p4)] maxLocals)) t := by
        intro t k
        refine k115 t ?_
        show Steps p.tables e below (T101.setTop (mkF m 198 #[.val (.long p1), .second, .val (.long p2), .second, .val (.int p3), .val (.int p4), .val (.double (FP.i2d p3)), .second, .val (.int (own_bel p4)), .val (.int (own_via p4)), .val (.ref b6), .val (.int (1 : Int32)), .val (.ref rrrb1_14_5_57), .unset] [(.ref rrrb1_14_16_101)])) _
        refine XS.astore X101.here hx rfl (hb hby at_198) rfl rfl (l' := #[.val (.long p1), .second, .val (.long p2), .second, .val (.int p3), .val (.int p4), .val (.double (FP.i2d p3)), .second, .val (.int (own_bel p4)), .val (.int (own_via p4)), .val (.ref b6), .val (.int (1 : Int32)), .val (.ref rrrb1_14_5_57), .val (.ref rrrb1_14_16_101)]) rfl ?_
        show Steps p.tables e below (T101.setTop (mkF m 200 #[.val (.long p1), .second, .val (.long p2), .second, .val (.int p3), .val (.int p4), .val (.double (FP.i2d p3)), .second, .val (.int (own_bel p4)), .val (.int (own_via p4)), .val (.ref b6), .val (.int (1 : Int32)), .val (.ref rrrb1_14_5_57), .val (.ref rrrb1_14_16_101)] [])) _
        refine XS.iload X101.here hx rfl (hb hby at_200) rfl ?_
        show Steps p.tables e below (T101.setTop (mkF m 202 #[.val (.long p1), .second, .val (.long p2), .second, .val (.int p3), .val (.int p4), .val (.double (FP.i2d p3)), .second, .val (.int (own_bel p4)), .val (.int (own_via p4)), .val (.ref b6), .val (.int (1 : Int32)), .val (.ref rrrb1_14_5_57), .val (.ref rrrb1_14_16_101)] [(.int (1 : Int32))])) _
        refine XS.ifNo X101.here hx rfl (hb hby at_202) rfl ((if0 _ _).trans (feq (by decide : ¬ ((1 : Int32) = (0 : Int32)))).1) ?_
        show Steps p.tables e below (T101.setTop (mkF m 205 #[.val (.long p1), .second, .val (.long p2), .second, .val (.int p3), .val (.int p4), .val (.double (FP.i2d p3)), .second, .val (.int (own_bel p4)), .val (.int (own_via p4)), .val (.ref b6), .val (.int (1 : Int32)), .val (.ref rrrb1_14_5_57), .val (.ref rrrb1_14_16_101)] [])) _
        refine XS.aload X101.here hx rfl (hb hby at_205) rfl rfl ?_
        exact k
      obtain ⟨cq117, kq117, q117a, q117b, q117c⟩ := isOf hZ rfl fq101_7
      obtain ⟨_, _, ⟨T117, L117, k117c, n117⟩, -, X117, ⟨Lc117, hQ117, l117, y117, z117⟩, st117⟩ := X101.virtualBack hx (y := (⟨"com/example/reckoner/reckoner/Value", "type", "()Lcom/example/reckoner/reckoner/Value$Type;"⟩ : MethodName)) (z := (⟨"com/example/reckoner/reckoner/Value", "type", "()Lcom/example/reckoner/reckoner/Value$Type;"⟩ : MethodName)) hown (mvT hZ (hw _ (List.mem_of_getElem? (i := 77) rfl))) (mvT hZ (hw _ (List.mem_of_getElem? (i := 78) rfl))) (notFace_of_selects (args := #[]) (mvT hZ (hw _ (List.mem_of_getElem? (i := 80) rfl)))) (mvT hZ (hw _ (List.mem_of_getElem? (i := 80) rfl))) (mvT hZ (hw _ (List.mem_of_getElem? (i := 79) rfl))) (by decide) (backOf (W := 0) (own_rmty l Z a0 hw [] rrrb1_14_16_101 sR T101.heap n0 Z101 fq101_7 fq101_8 Xo101 SR) hZ (hw _ (List.mem_of_getElem? (i := 81) rfl)) (hw _ (List.mem_of_getElem? (i := 18) rfl)) (by decide) (by decide)) q117a q117c (g := (mkF m 207 #[.val (.long p1), .second, .val (.long p2), .second, .val (.int p3), .val (.int p4), .val (.double (FP.i2d p3)), .second, .val (.int (own_bel p4)), .val (.int (own_via p4)), .val (.ref b6), .val (.int (1 : Int32)), .val (.ref rrrb1_14_5_57), .val (.ref rrrb1_14_16_101)] [(.ref rrrb1_14_16_101)])) rfl (by rw [hml]; rfl) (Steps.refl _) (argsL := []) (rest := []) (lenOf own_pd10 rfl) rfl (by show 2 * 0 + _ ≤ _; exact Nat.le_of_eq rfl) (hb hby at_207) (fun _ _ => ⟨rfl, rfl, (by decide : 6 + 0 ≤ _), (by decide : 18 + 0 ≤ _)⟩)
      dsimp only [Pt.U, Pt.locs, Pt.cells, Pt.slots] at X117 l117 y117 z117 st117 hQ117
      subst l117 y117 z117
      obtain ⟨rfl, N117q, Kq117, fq117_0, fq117_1⟩ := hQ117
      have N117 := Fr.app N101 N117q
      have f118 := fq101_0.keep Kq117
      have f119 := fq101_1.keep Kq117 List.not_mem_nil
      have f120 := fq101_2.keep Kq117 List.not_mem_nil
      have f121 := fq101_3.keep Kq117 List.not_mem_nil
      have f122 := fq101_4.keep Kq117 List.not_mem_nil
      have f123 := fq101_6.keep Kq117 List.not_mem_nil
      have f124 := f107.keep Kq117
      have f125 := f108.keep Kq117 List.not_mem_nil
      have f126 := f109.keep Kq117 List.not_mem_nil
      have f127 := f110.keep Kq117 List.not_mem_nil
      have f128 := f111.keep Kq117
      have f129 := f112.keep Kq117 List.not_mem_nil
      have f130 := f113.keep Kq117 List.not_mem_nil
      have f131 := f114.keep Kq117 List.not_mem_nil
      have f132 := fq101_9.keep Kq117 List.not_mem_nil
      have f133 := fq101_10.keep Kq117 List.not_mem_nil
      have Z117 : n0 ≤ T117.heap.size := Nat.le_trans Z101 Kq117.1
      have K117 : Keep h0 T117.heap [] := K101.trans Kq117 (fun x hx => nomatch hx)
      have Xo117 := Xo101.keep Kq117 all0
      have k134 : ∀ t, Steps p.tables e below (T117.setTop (mkF m 210 #[.val (.long p1), .second, .val (.long p2), .second, .val (.int p3), .val (.int p4), .val (.double (FP.i2d p3)), .second, .val (.int (own_bel p4)), .val (.int (own_via p4)), .val (.ref b6), .val (.int (1 : Int32)), .val (.ref rrrb1_14_5_57), .val (.ref rrrb1_14_16_101)] [(.ref sR)])) t → Steps p.tables e below (s₁.setTop (entryFrame m #[(.long p1), (.long p2), (.int p3), (.int p4)] maxLocals)) t := fun t k => k116 t (st117.trans k)
      obtain ⟨T135, X135, e135, st135⟩ := getS2 X117 hx hZ hown (host := "") (Or.inl (hw _ (List.mem_of_getElem? (i := 82) rfl))) Via.refl rfl (SR.ext Xo117.2) (g := (mkF m 210 #[.val (.long p1), .second, .val (.long p2), .second, .val (.int p3), .val (.int p4), .val (.double (FP.i2d p3)), .second, .val (.int (own_bel p4)), .val (.int (own_via p4)), .val (.ref b6), .val (.int (1 : Int32)), .val (.ref rrrb1_14_5_57), .val (.ref rrrb1_14_16_101)] [(.ref sR)])) rfl (hb hby at_210)
      have k136 : ∀ t, Steps p.tables e below (T135.setTop (mkF m 213 #[.val (.long p1), .second, .val (.long p2), .second, .val (.int p3), .val (.int p4), .val (.double (FP.i2d p3)), .second, .val (.int (own_bel p4)), .val (.int (own_via p4)), .val (.ref b6), .val (.int (1 : Int32)), .val (.ref rrrb1_14_5_57), .val (.ref rrrb1_14_16_101)] [(.ref sR), (.ref sR)])) t → Steps p.tables e below (s₁.setTop (entryFrame m #[(.long p1), (.long p2), (.int p3), (.int p4)] maxLocals)) t := fun t k => k134 t (st135 t k)
      have k137 : ∀ t, Steps p.tables e below (T135.setTop (mkF m 218 #[.val (.long p1), .second, .val (.long p2), .second, .val (.int p3), .val (.int p4), .val (.double (FP.i2d p3)), .second, .val (.int (own_bel p4)), .val (.int (own_via p4)), .val (.ref b6), .val (.int (1 : Int32)), .val (.ref rrrb1_14_5_57), .val (.ref rrrb1_14_16_101)] [(.ref rrrb1_14_16_101)])) t → Steps p.tables e below (s₁.setTop (entryFrame m #[(.long p1), (.long p2), (.int p3), (.int p4)] maxLocals)) t := by
        intro t k
        refine k136 t ?_
        show Steps p.tables e below (T135.setTop (mkF m 213 #[.val (.long p1), .second, .val (.long p2), .second, .val (.int p3), .val (.int p4), .val (.double (FP.i2d p3)), .second, .val (.int (own_bel p4)), .val (.int (own_via p4)), .val (.ref b6), .val (.int (1 : Int32)), .val (.ref rrrb1_14_5_57), .val (.ref rrrb1_14_16_101)] [(.ref sR), (.ref sR)])) _
        refine Jvm.RoadKit.acmp (g := (mkF m 213 #[.val (.long p1), .second, .val (.long p2), .second, .val (.int p3), .val (.int p4), .val (.double (FP.i2d p3)), .second, .val (.int (own_bel p4)), .val (.int (own_via p4)), .val (.ref b6), .val (.int (1 : Int32)), .val (.ref rrrb1_14_5_57), .val (.ref rrrb1_14_16_101)] [(.ref sR), (.ref sR)])) X135 hx rfl rfl rfl (pc0 := 213) (pc' := 216) (same := true) rfl (hb hby at_213) rfl (decide_eq_true rfl) (by decide) (by decide) ?_
        show Steps p.tables e below (T135.setTop (mkF m 216 #[.val (.long p1), .second, .val (.long p2), .second, .val (.int p3), .val (.int p4), .val (.double (FP.i2d p3)), .second, .val (.int (own_bel p4)), .val (.int (own_via p4)), .val (.ref b6), .val (.int (1 : Int32)), .val (.ref rrrb1_14_5_57), .val (.ref rrrb1_14_16_101)] [])) _
        refine XS.aload X135.here hx rfl (hb hby at_216) rfl rfl ?_
        exact k
      obtain ⟨cq138, kq138, q138a, q138b, q138c⟩ := isOf hZ e135 fq117_0
      obtain ⟨_, _, ⟨T138, L138, k138c, n138⟩, -, X138, ⟨Lc138, hQ138, l138, y138, z138⟩, st138⟩ := X135.virtualBack hx (y := (⟨"com/example/reckoner/reckoner/Value", "doubleValue", "()D"⟩ : MethodName)) (z := (⟨"com/example/reckoner/reckoner/Value", "doubleValue", "()D"⟩ : MethodName)) hown (mvT hZ (hw _ (List.mem_of_getElem? (i := 83) rfl))) (mvT hZ (hw _ (List.mem_of_getElem? (i := 84) rfl))) (notFace_of_selects (args := #[]) (mvT hZ (hw _ (List.mem_of_getElem? (i := 86) rfl)))) (mvT hZ (hw _ (List.mem_of_getElem? (i := 86) rfl))) (mvT hZ (hw _ (List.mem_of_getElem? (i := 85) rfl))) (by decide) (backOf (W := 0) (own_rmdv l Z a0 hw [] rrrb1_14_16_101 sI sR sB (FP.i2d p3) T117.heap n0 Z117 fq117_0 fq117_1 f133 Xo117 SI SR SB hRB hIR) hZ (hw _ (List.mem_of_getElem? (i := 87) rfl)) (hw _ (List.mem_of_getElem? (i := 18) rfl)) (by decide) (by decide)) q138a q138c (g := (mkF m 218 #[.val (.long p1), .second, .val (.long p2), .second, .val (.int p3), .val (.int p4), .val (.double (FP.i2d p3)), .second, .val (.int (own_bel p4)), .val (.int (own_via p4)), .val (.ref b6), .val (.int (1 : Int32)), .val (.ref rrrb1_14_5_57), .val (.ref rrrb1_14_16_101)] [(.ref rrrb1_14_16_101)])) rfl (by rw [hml]; rfl) (Steps.refl _) (argsL := []) (rest := []) (lenOf own_pd11 rfl) rfl (by show 2 * 0 + _ ≤ _; exact Nat.le_of_eq rfl) (hb hby at_218) (fun _ _ => ⟨rfl, e135, (by decide : 6 + 0 ≤ _), (by decide : 18 + 0 ≤ _)⟩)
      dsimp only [Pt.U, Pt.locs, Pt.cells, Pt.slots] at X138 l138 y138 z138 st138 hQ138
      subst l138 y138 z138
      obtain ⟨rfl, N138q, Kq138, fq138_0, fq138_1, fq138_2⟩ := hQ138
      have N138 := Fr.app N117 N138q
      have f139 := f118.keep Kq138
      have f140 := f119.keep Kq138 List.not_mem_nil
      have f141 := f120.keep Kq138 List.not_mem_nil
      have f142 := f121.keep Kq138 List.not_mem_nil
      have f143 := f122.keep Kq138 List.not_mem_nil
      have f144 := f123.keep Kq138 List.not_mem_nil
      have f145 := f124.keep Kq138
      have f146 := f125.keep Kq138 List.not_mem_nil
      have f147 := f126.keep Kq138 List.not_mem_nil
      have f148 := f127.keep Kq138 List.not_mem_nil
      have f149 := f128.keep Kq138
      have f150 := f129.keep Kq138 List.not_mem_nil
      have f151 := f130.keep Kq138 List.not_mem_nil
      have f152 := f131.keep Kq138 List.not_mem_nil
      have f153 := f132.keep Kq138 List.not_mem_nil
      have Z138 : n0 ≤ T138.heap.size := Nat.le_trans Z117 Kq138.1
      have K138 : Keep h0 T138.heap [] := K117.trans Kq138 (fun x hx => nomatch hx)
      have Xo138 := Xo117.keep Kq138 all0
      have k154 : ∀ t, Steps p.tables e below (T138.setTop (mkF m 221 #[.val (.long p1), .second, .val (.long p2), .second, .val (.int p3), .val (.int p4), .val (.double (FP.i2d p3)), .second, .val (.int (own_bel p4)), .val (.int (own_via p4)), .val (.ref b6), .val (.int (1 : Int32)), .val (.ref rrrb1_14_5_57), .val (.ref rrrb1_14_16_101)] [(.double (FP.i2d p3))])) t → Steps p.tables e below (s₁.setTop (entryFrame m #[(.long p1), (.long p2), (.int p3), (.int p4)] maxLocals)) t := fun t k => k137 t (st138.trans k)
      have k155 : ∀ t, Steps p.tables e below (T138.setTop (mkF m 278 #[.val (.long p1), .second, .val (.long p2), .second, .val (.int p3), .val (.int p4), .val (.double (FP.i2d p3)), .second, .val (.int (own_bel p4)), .val (.int (own_via p4)), .val (.ref b6), .val (.int (1 : Int32)), .val (.ref rrrb1_14_5_57), .val (.ref rrrb1_14_16_101)] [(.int (1 : Int32))])) t → Steps p.tables e below (s₁.setTop (entryFrame m #[(.long p1), (.long p2), (.int p3), (.int p4)] maxLocals)) t := by
        intro t k
        refine k154 t ?_
        show Steps p.tables e below (T138.setTop (mkF m 221 #[.val (.long p1), .second, .val (.long p2), .second, .val (.int p3), .val (.int p4), .val (.double (FP.i2d p3)), .second, .val (.int (own_bel p4)), .val (.int (own_via p4)), .val (.ref b6), .val (.int (1 : Int32)), .val (.ref rrrb1_14_5_57), .val (.ref rrrb1_14_16_101)] [(.double (FP.i2d p3))])) _
        refine XS.dload X138.here hx rfl (hb hby at_221) rfl ?_
        show Steps p.tables e below (T138.setTop (mkF m 223 #[.val (.long p1), .second, .val (.long p2), .second, .val (.int p3), .val (.int p4), .val (.double (FP.i2d p3)), .second, .val (.int (own_bel p4)), .val (.int (own_via p4)), .val (.ref b6), .val (.int (1 : Int32)), .val (.ref rrrb1_14_5_57), .val (.ref rrrb1_14_16_101)] [(.double (FP.i2d p3)), (.double (FP.i2d p3))])) _
        refine XS.dcmpS X138.here hx rfl (hb hby at_223) rfl (dcmpV_self (nn_w (i2d_w p3)) _) ?_
        show Steps p.tables e below (T138.setTop (mkF m 224 #[.val (.long p1), .second, .val (.long p2), .second, .val (.int p3), .val (.int p4), .val (.double (FP.i2d p3)), .second, .val (.int (own_bel p4)), .val (.int (own_via p4)), .val (.ref b6), .val (.int (1 : Int32)), .val (.ref rrrb1_14_5_57), .val (.ref rrrb1_14_16_101)] [(.int (0 : Int32))])) _
        refine XS.ifNo X138.here hx rfl (hb hby at_224) rfl ((if0 _ _).trans (teq (rfl : (0 : Int32) = (0 : Int32))).2) ?_
        show Steps p.tables e below (T138.setTop (mkF m 227 #[.val (.long p1), .second, .val (.long p2), .second, .val (.int p3), .val (.int p4), .val (.double (FP.i2d p3)), .second, .val (.int (own_bel p4)), .val (.int (own_via p4)), .val (.ref b6), .val (.int (1 : Int32)), .val (.ref rrrb1_14_5_57), .val (.ref rrrb1_14_16_101)] [])) _
        refine XS.iconst X138.here hx rfl (hb hby at_227) ?_
        show Steps p.tables e below (T138.setTop (mkF m 228 #[.val (.long p1), .second, .val (.long p2), .second, .val (.int p3), .val (.int p4), .val (.double (FP.i2d p3)), .second, .val (.int (own_bel p4)), .val (.int (own_via p4)), .val (.ref b6), .val (.int (1 : Int32)), .val (.ref rrrb1_14_5_57), .val (.ref rrrb1_14_16_101)] [(.int (1 : Int32))])) _
        refine XS.goto X138.here hx rfl (pc0 := 228) (pc' := 232) rfl (hb hby at_228) (by decide) (by decide) ?_
        show Steps p.tables e below (T138.setTop (mkF m 232 #[.val (.long p1), .second, .val (.long p2), .second, .val (.int p3), .val (.int p4), .val (.double (FP.i2d p3)), .second, .val (.int (own_bel p4)), .val (.int (own_via p4)), .val (.ref b6), .val (.int (1 : Int32)), .val (.ref rrrb1_14_5_57), .val (.ref rrrb1_14_16_101)] [(.int (1 : Int32))])) _
        refine XS.istore X138.here hx rfl (hb hby at_232) rfl (l' := #[.val (.long p1), .second, .val (.long p2), .second, .val (.int p3), .val (.int p4), .val (.double (FP.i2d p3)), .second, .val (.int (own_bel p4)), .val (.int (own_via p4)), .val (.ref b6), .val (.int (1 : Int32)), .val (.ref rrrb1_14_5_57), .val (.ref rrrb1_14_16_101)]) rfl ?_
        show Steps p.tables e below (T138.setTop (mkF m 234 #[.val (.long p1), .second, .val (.long p2), .second, .val (.int p3), .val (.int p4), .val (.double (FP.i2d p3)), .second, .val (.int (own_bel p4)), .val (.int (own_via p4)), .val (.ref b6), .val (.int (1 : Int32)), .val (.ref rrrb1_14_5_57), .val (.ref rrrb1_14_16_101)] [])) _
        refine XS.iload X138.here hx rfl (hb hby at_234) rfl ?_
        show Steps p.tables e below (T138.setTop (mkF m 236 #[.val (.long p1), .second, .val (.long p2), .second, .val (.int p3), .val (.int p4), .val (.double (FP.i2d p3)), .second, .val (.int (own_bel p4)), .val (.int (own_via p4)), .val (.ref b6), .val (.int (1 : Int32)), .val (.ref rrrb1_14_5_57), .val (.ref rrrb1_14_16_101)] [(.int (own_bel p4))])) _
        refine XS.ifYes X138.here hx rfl (pc0 := 236) (pc' := 276) rfl (hb hby at_236) rfl ((if0 _ _).trans (teq hc45_17).1) (by decide) (by decide) ?_
        show Steps p.tables e below (T138.setTop (mkF m 276 #[.val (.long p1), .second, .val (.long p2), .second, .val (.int p3), .val (.int p4), .val (.double (FP.i2d p3)), .second, .val (.int (own_bel p4)), .val (.int (own_via p4)), .val (.ref b6), .val (.int (1 : Int32)), .val (.ref rrrb1_14_5_57), .val (.ref rrrb1_14_16_101)] [])) _
        refine XS.iload X138.here hx rfl (hb hby at_276) rfl ?_
        exact k
      obtain ⟨fs, hr, hrun, hended, hW, hsame⟩ := X138.leave (v := (some (.int (1 : Int32)))) (fun h => by rw [Bd.returns] at h; cases h)
      refine ⟨_, _, k155 _ ?_, hrun, hended, _, _, rfl, ?_, ⟨_, rfl⟩, hW, hsame.mono (by decide) (by decide)⟩
      · exact retN X138 hx (t := .boolean) Bd.returns (by simp) (hb hby at_278) hr
      · exact ⟨rfl, N138⟩
    · have k156 : ∀ t, Steps p.tables e below (T85.setTop (mkF m 174 #[.val (.long p1), .second, .val (.long p2), .second, .val (.int p3), .val (.int p4), .val (.double (FP.i2d p3)), .second, .val (.int (own_bel p4)), .val (.int (own_via p4)), .val (.ref b6), .val (.int (1 : Int32)), .val (.ref rrrb1_14_5_57), .unset] [(.ref b6)])) t → Steps p.tables e below (s₁.setTop (entryFrame m #[(.long p1), (.long p2), (.int p3), (.int p4)] maxLocals)) t := by
        intro t k
        refine k98 t ?_
        show Steps p.tables e below (T85.setTop (mkF m 164 #[.val (.long p1), .second, .val (.long p2), .second, .val (.int p3), .val (.int p4), .val (.double (FP.i2d p3)), .second, .val (.int (own_bel p4)), .val (.int (own_via p4)), .val (.ref b6), .val (.int (1 : Int32)), .val (.ref rrrb1_14_5_57), .unset] [(.int (own_via p4))])) _
        refine XS.ifNo X85.here hx rfl (hb hby at_164) rfl ((if0 _ _).trans (feq hc164_99).1) ?_
        show Steps p.tables e below (T85.setTop (mkF m 167 #[.val (.long p1), .second, .val (.long p2), .second, .val (.int p3), .val (.int p4), .val (.double (FP.i2d p3)), .second, .val (.int (own_bel p4)), .val (.int (own_via p4)), .val (.ref b6), .val (.int (1 : Int32)), .val (.ref rrrb1_14_5_57), .unset] [])) _
        refine XS.iload X85.here hx rfl (hb hby at_167) rfl ?_
        show Steps p.tables e below (T85.setTop (mkF m 169 #[.val (.long p1), .second, .val (.long p2), .second, .val (.int p3), .val (.int p4), .val (.double (FP.i2d p3)), .second, .val (.int (own_bel p4)), .val (.int (own_via p4)), .val (.ref b6), .val (.int (1 : Int32)), .val (.ref rrrb1_14_5_57), .unset] [(.int (1 : Int32))])) _
        refine XS.ifNo X85.here hx rfl (hb hby at_169) rfl ((if0 _ _).trans (feq (by decide : ¬ ((1 : Int32) = (0 : Int32)))).1) ?_
        show Steps p.tables e below (T85.setTop (mkF m 172 #[.val (.long p1), .second, .val (.long p2), .second, .val (.int p3), .val (.int p4), .val (.double (FP.i2d p3)), .second, .val (.int (own_bel p4)), .val (.int (own_via p4)), .val (.ref b6), .val (.int (1 : Int32)), .val (.ref rrrb1_14_5_57), .unset] [])) _
        refine XS.aload X85.here hx rfl (hb hby at_172) rfl rfl ?_
        exact k
      obtain ⟨cq157, kq157, q157a, q157b, q157c⟩ := isOf hZ rfl f86
      obtain ⟨_, _, ⟨T157, L157, k157c, n157⟩, -, X157, ⟨Lc157, hQ157, l157, y157, z157⟩, st157⟩ := X85.virtualBack hx (y := (⟨"com/example/reckoner/reckoner/OperandStack", "popDouble", "()D"⟩ : MethodName)) (z := (⟨"com/example/reckoner/reckoner/OperandStack", "popDouble", "()D"⟩ : MethodName)) hown (mvT hZ (hw _ (List.mem_of_getElem? (i := 90) rfl))) (mvT hZ (hw _ (List.mem_of_getElem? (i := 91) rfl))) (notFace_of_selects (args := #[]) (mvT hZ (hw _ (List.mem_of_getElem? (i := 93) rfl)))) (mvT hZ (hw _ (List.mem_of_getElem? (i := 93) rfl))) (mvT hZ (hw _ (List.mem_of_getElem? (i := 92) rfl))) (by decide) (backOf (W := 0) (own_rmpd1 l Z a0 hw [] b6 rb5_12 rb20_12 rc_12c5 rc_12c20 .null .null (FP.i2d p3) (0 : UInt64) (0 : UInt64) T85.heap n0 Z85 f86 f87 f88 f89 f90 fq57_5 f91 ge6 ge12_b5 ge12_b20 ne13 ne14 nq12_b5_b20) hZ (hw _ (List.mem_of_getElem? (i := 94) rfl)) (hw _ (List.mem_of_getElem? (i := 2) rfl)) (by decide) (by decide)) q157a q157c (g := (mkF m 174 #[.val (.long p1), .second, .val (.long p2), .second, .val (.int p3), .val (.int p4), .val (.double (FP.i2d p3)), .second, .val (.int (own_bel p4)), .val (.int (own_via p4)), .val (.ref b6), .val (.int (1 : Int32)), .val (.ref rrrb1_14_5_57), .unset] [(.ref b6)])) rfl (by rw [hml]; rfl) (Steps.refl _) (argsL := []) (rest := []) (lenOf own_pd11 rfl) rfl (by show 2 * 0 + _ ≤ _; exact Nat.le_of_eq rfl) (hb hby at_174) (fun _ _ => ⟨rfl, rfl, (by decide : 5 + 0 ≤ _), (by decide : 15 + 0 ≤ _)⟩)
      dsimp only [Pt.U, Pt.locs, Pt.cells, Pt.slots] at X157 l157 y157 z157 st157 hQ157
      subst l157 y157 z157
      obtain ⟨rfl, N157q, Kq157, fq157_0, fq157_1, fq157_2, fq157_3, fq157_4, fq157_5, fq157_6⟩ := hQ157
      have N157 := Fr.app N85 N157q
      have f158 := f92.keep Kq157
      have f159 := f93.keep Kq157 (List.not_mem_cons_of_ne_of_not_mem (Ne.symm ne20) List.not_mem_nil)
      have f160 := f94.keep Kq157 (List.not_mem_cons_of_ne_of_not_mem (Ne.symm ne20) List.not_mem_nil)
      have f161 := f95.keep Kq157 (List.not_mem_cons_of_ne_of_not_mem (Ne.symm ne20) List.not_mem_nil)
      have f162 := fq85_0.keep Kq157
      have f163 := fq85_1.keep Kq157 (List.not_mem_cons_of_ne_of_not_mem (Ne.symm ne58) List.not_mem_nil)
      have f164 := f96.keep Kq157 (List.not_mem_cons_of_ne_of_not_mem (Ne.symm ne58) List.not_mem_nil)
      have f165 := fq85_2.keep Kq157 (List.not_mem_cons_of_ne_of_not_mem (Ne.symm ne58) List.not_mem_nil)
      have Z157 : n0 ≤ T157.heap.size := Nat.le_trans Z85 Kq157.1
      have K157 : Keep h0 T157.heap [] := K85.trans Kq157 (fun x hx => by rcases List.mem_cons.mp hx with rfl | hx; exact Or.inr bo6; exact nomatch hx)
      have Xo157 := Xo85.keep Kq157 (allS ge6 all0)
      have k166 : ∀ t, Steps p.tables e below (T157.setTop (mkF m 177 #[.val (.long p1), .second, .val (.long p2), .second, .val (.int p3), .val (.int p4), .val (.double (FP.i2d p3)), .second, .val (.int (own_bel p4)), .val (.int (own_via p4)), .val (.ref b6), .val (.int (1 : Int32)), .val (.ref rrrb1_14_5_57), .unset] [(.double (FP.i2d p3))])) t → Steps p.tables e below (s₁.setTop (entryFrame m #[(.long p1), (.long p2), (.int p3), (.int p4)] maxLocals)) t := fun t k => k156 t (st157.trans k)
      have k167 : ∀ t, Steps p.tables e below (T157.setTop (mkF m 278 #[.val (.long p1), .second, .val (.long p2), .second, .val (.int p3), .val (.int p4), .val (.double (FP.i2d p3)), .second, .val (.int (own_bel p4)), .val (.int (own_via p4)), .val (.ref b6), .val (.int (1 : Int32)), .val (.ref rrrb1_14_5_57), .unset] [(.int (1 : Int32))])) t → Steps p.tables e below (s₁.setTop (entryFrame m #[(.long p1), (.long p2), (.int p3), (.int p4)] maxLocals)) t := by
        intro t k
        refine k166 t ?_
        show Steps p.tables e below (T157.setTop (mkF m 177 #[.val (.long p1), .second, .val (.long p2), .second, .val (.int p3), .val (.int p4), .val (.double (FP.i2d p3)), .second, .val (.int (own_bel p4)), .val (.int (own_via p4)), .val (.ref b6), .val (.int (1 : Int32)), .val (.ref rrrb1_14_5_57), .unset] [(.double (FP.i2d p3))])) _
        refine XS.dload X157.here hx rfl (hb hby at_177) rfl ?_
        show Steps p.tables e below (T157.setTop (mkF m 179 #[.val (.long p1), .second, .val (.long p2), .second, .val (.int p3), .val (.int p4), .val (.double (FP.i2d p3)), .second, .val (.int (own_bel p4)), .val (.int (own_via p4)), .val (.ref b6), .val (.int (1 : Int32)), .val (.ref rrrb1_14_5_57), .unset] [(.double (FP.i2d p3)), (.double (FP.i2d p3))])) _
        refine XS.dcmpS X157.here hx rfl (hb hby at_179) rfl (dcmpV_self (nn_w (i2d_w p3)) _) ?_
        show Steps p.tables e below (T157.setTop (mkF m 180 #[.val (.long p1), .second, .val (.long p2), .second, .val (.int p3), .val (.int p4), .val (.double (FP.i2d p3)), .second, .val (.int (own_bel p4)), .val (.int (own_via p4)), .val (.ref b6), .val (.int (1 : Int32)), .val (.ref rrrb1_14_5_57), .unset] [(.int (0 : Int32))])) _
        refine XS.ifNo X157.here hx rfl (hb hby at_180) rfl ((if0 _ _).trans (teq (rfl : (0 : Int32) = (0 : Int32))).2) ?_
        show Steps p.tables e below (T157.setTop (mkF m 183 #[.val (.long p1), .second, .val (.long p2), .second, .val (.int p3), .val (.int p4), .val (.double (FP.i2d p3)), .second, .val (.int (own_bel p4)), .val (.int (own_via p4)), .val (.ref b6), .val (.int (1 : Int32)), .val (.ref rrrb1_14_5_57), .unset] [])) _
        refine XS.iconst X157.here hx rfl (hb hby at_183) ?_
        show Steps p.tables e below (T157.setTop (mkF m 184 #[.val (.long p1), .second, .val (.long p2), .second, .val (.int p3), .val (.int p4), .val (.double (FP.i2d p3)), .second, .val (.int (own_bel p4)), .val (.int (own_via p4)), .val (.ref b6), .val (.int (1 : Int32)), .val (.ref rrrb1_14_5_57), .unset] [(.int (1 : Int32))])) _
        refine XS.goto X157.here hx rfl (pc0 := 184) (pc' := 188) rfl (hb hby at_184) (by decide) (by decide) ?_
        show Steps p.tables e below (T157.setTop (mkF m 188 #[.val (.long p1), .second, .val (.long p2), .second, .val (.int p3), .val (.int p4), .val (.double (FP.i2d p3)), .second, .val (.int (own_bel p4)), .val (.int (own_via p4)), .val (.ref b6), .val (.int (1 : Int32)), .val (.ref rrrb1_14_5_57), .unset] [(.int (1 : Int32))])) _
        refine XS.istore X157.here hx rfl (hb hby at_188) rfl (l' := #[.val (.long p1), .second, .val (.long p2), .second, .val (.int p3), .val (.int p4), .val (.double (FP.i2d p3)), .second, .val (.int (own_bel p4)), .val (.int (own_via p4)), .val (.ref b6), .val (.int (1 : Int32)), .val (.ref rrrb1_14_5_57), .unset]) rfl ?_
        show Steps p.tables e below (T157.setTop (mkF m 190 #[.val (.long p1), .second, .val (.long p2), .second, .val (.int p3), .val (.int p4), .val (.double (FP.i2d p3)), .second, .val (.int (own_bel p4)), .val (.int (own_via p4)), .val (.ref b6), .val (.int (1 : Int32)), .val (.ref rrrb1_14_5_57), .unset] [])) _
        refine XS.goto X157.here hx rfl (pc0 := 190) (pc' := 234) rfl (hb hby at_190) (by decide) (by decide) ?_
        show Steps p.tables e below (T157.setTop (mkF m 234 #[.val (.long p1), .second, .val (.long p2), .second, .val (.int p3), .val (.int p4), .val (.double (FP.i2d p3)), .second, .val (.int (own_bel p4)), .val (.int (own_via p4)), .val (.ref b6), .val (.int (1 : Int32)), .val (.ref rrrb1_14_5_57), .unset] [])) _
        refine XS.iload X157.here hx rfl (hb hby at_234) rfl ?_
        show Steps p.tables e below (T157.setTop (mkF m 236 #[.val (.long p1), .second, .val (.long p2), .second, .val (.int p3), .val (.int p4), .val (.double (FP.i2d p3)), .second, .val (.int (own_bel p4)), .val (.int (own_via p4)), .val (.ref b6), .val (.int (1 : Int32)), .val (.ref rrrb1_14_5_57), .unset] [(.int (own_bel p4))])) _
        refine XS.ifYes X157.here hx rfl (pc0 := 236) (pc' := 276) rfl (hb hby at_236) rfl ((if0 _ _).trans (teq hc45_17).1) (by decide) (by decide) ?_
        show Steps p.tables e below (T157.setTop (mkF m 276 #[.val (.long p1), .second, .val (.long p2), .second, .val (.int p3), .val (.int p4), .val (.double (FP.i2d p3)), .second, .val (.int (own_bel p4)), .val (.int (own_via p4)), .val (.ref b6), .val (.int (1 : Int32)), .val (.ref rrrb1_14_5_57), .unset] [])) _
        refine XS.iload X157.here hx rfl (hb hby at_276) rfl ?_
        exact k
      obtain ⟨fs, hr, hrun, hended, hW, hsame⟩ := X157.leave (v := (some (.int (1 : Int32)))) (fun h => by rw [Bd.returns] at h; cases h)
      refine ⟨_, _, k167 _ ?_, hrun, hended, _, _, rfl, ?_, ⟨_, rfl⟩, hW, hsame.mono (by decide) (by decide)⟩
      · exact retN X157 hx (t := .boolean) Bd.returns (by simp) (hb hby at_278) hr
      · exact ⟨rfl, N157⟩
  · have k168 : ∀ t, Steps p.tables e below (T12.setTop (mkF m 51 #[.val (.long p1), .second, .val (.long p2), .second, .val (.int p3), .val (.int p4), .val (.double (FP.i2d p3)), .second, .val (.int (own_bel p4)), .val (.int (own_via p4)), .val (.ref b6), .unset, .unset, .unset] [(.long p1), (.ref b6)])) t → Steps p.tables e below (s₁.setTop (entryFrame m #[(.long p1), (.long p2), (.int p3), (.int p4)] maxLocals)) t := by
      intro t k
      refine k16 t ?_
      show Steps p.tables e below (T12.setTop (mkF m 45 #[.val (.long p1), .second, .val (.long p2), .second, .val (.int p3), .val (.int p4), .val (.double (FP.i2d p3)), .second, .val (.int (own_bel p4)), .val (.int (own_via p4)), .val (.ref b6), .unset, .unset, .unset] [(.int (own_bel p4))])) _
      refine XS.ifNo X12.here hx rfl (hb hby at_45) rfl ((if0 _ _).trans (feq hc45_17).1) ?_
      show Steps p.tables e below (T12.setTop (mkF m 48 #[.val (.long p1), .second, .val (.long p2), .second, .val (.int p3), .val (.int p4), .val (.double (FP.i2d p3)), .second, .val (.int (own_bel p4)), .val (.int (own_via p4)), .val (.ref b6), .unset, .unset, .unset] [])) _
      refine XS.aload X12.here hx rfl (hb hby at_48) rfl rfl ?_
      show Steps p.tables e below (T12.setTop (mkF m 50 #[.val (.long p1), .second, .val (.long p2), .second, .val (.int p3), .val (.int p4), .val (.double (FP.i2d p3)), .second, .val (.int (own_bel p4)), .val (.int (own_via p4)), .val (.ref b6), .unset, .unset, .unset] [(.ref b6)])) _
      refine XS.lloadN X12.here hx rfl (hb hby at_50) rfl ?_
      exact k
    obtain ⟨_, _, ⟨T169, L169, k169c, n169⟩, -, X169, ⟨Lc169, hQ169, l169, y169, z169⟩, st169⟩ := Jvm.LawKit.callS X12 hx (y := (⟨"com/example/reckoner/reckoner/Value", "integer", "(J)Lcom/example/reckoner/reckoner/Value;"⟩ : MethodName)) hown (mvT hZ (hw _ (List.mem_of_getElem? (i := 16) rfl))) (mvT hZ (hw _ (List.mem_of_getElem? (i := 17) rfl))) (mvT hZ (hw _ (List.mem_of_getElem? (i := 18) rfl))) (mvT hZ (hw _ (List.mem_of_getElem? (i := 19) rfl))) (by decide) (backOf (W := 1) (own_rmig l Z a0 hw [] p1 sI T12.heap n0 Z12 Xo12 SI) hZ (hw _ (List.mem_of_getElem? (i := 19) rfl)) (hw _ (List.mem_of_getElem? (i := 18) rfl)) (by decide) (by decide)) (g := (mkF m 51 #[.val (.long p1), .second, .val (.long p2), .second, .val (.int p3), .val (.int p4), .val (.double (FP.i2d p3)), .second, .val (.int (own_bel p4)), .val (.int (own_via p4)), .val (.ref b6), .unset, .unset, .unset] [(.long p1), (.ref b6)])) rfl (by rw [hml]; rfl) (argsL := [(.long p1)]) (rest := [(.ref b6)]) (lenOf own_pd5 rfl) rfl (by show 2 * 0 + _ ≤ _; exact Nat.le_of_eq rfl) (hb hby at_51) (fun _ _ => ⟨rfl, rfl, (by decide : 3 + 1 ≤ _), (by decide : 9 + 3 ≤ _)⟩)
    dsimp only [Pt.U, Pt.locs, Pt.cells, Pt.slots] at X169 l169 y169 z169 st169 hQ169
    subst l169 y169 z169
    obtain ⟨rb1_169, rfl, N169q, Kq169, gz169_b1, fq169_0, fq169_1, fq169_2, fq169_3⟩ := hQ169
    have N169 := Fr.app N12 N169q
    have ge169_b1 : n0 ≤ rb1_169 := Nat.le_trans Z12 gz169_b1
    have bo169_b1 : h0.size ≤ rb1_169 := Nat.le_trans K12.1 gz169_b1
    have ne170 : b6 ≠ rb1_169 := Nat.ne_of_lt (Nat.lt_of_lt_of_le fq12_0.lt gz169_b1)
    have ne171 : rb20_12 ≠ rb1_169 := Nat.ne_of_lt (Nat.lt_of_lt_of_le fq12_6.lt gz169_b1)
    have ne172 : rb5_12 ≠ rb1_169 := Nat.ne_of_lt (Nat.lt_of_lt_of_le fq12_4.lt gz169_b1)
    have f173 := fq12_0.keep Kq169
    have f174 := fq12_1.keep Kq169 List.not_mem_nil
    have f175 := fq12_2.keep Kq169 List.not_mem_nil
    have f176 := fq12_3.keep Kq169 List.not_mem_nil
    have f177 := fq12_4.keep Kq169 List.not_mem_nil
    have f178 := fq12_6.keep Kq169 List.not_mem_nil
    have Z169 : n0 ≤ T169.heap.size := Nat.le_trans Z12 Kq169.1
    have K169 : Keep h0 T169.heap [] := K12.trans Kq169 (fun x hx => nomatch hx)
    have Xo169 := Xo12.keep Kq169 all0
    have k179 : ∀ t, Steps p.tables e below (T169.setTop (mkF m 54 #[.val (.long p1), .second, .val (.long p2), .second, .val (.int p3), .val (.int p4), .val (.double (FP.i2d p3)), .second, .val (.int (own_bel p4)), .val (.int (own_via p4)), .val (.ref b6), .unset, .unset, .unset] [(.ref rb1_169), (.ref b6)])) t → Steps p.tables e below (s₁.setTop (entryFrame m #[(.long p1), (.long p2), (.int p3), (.int p4)] maxLocals)) t := fun t k => k168 t (st169 t k)
    obtain ⟨cq180, kq180, q180a, q180b, q180c⟩ := isOf hZ rfl f173
    obtain ⟨_, _, ⟨T180, L180, k180c, n180⟩, -, X180, ⟨Lc180, hQ180, l180, y180, z180⟩, st180⟩ := X169.virtualBack hx (y := (⟨"com/example/reckoner/reckoner/OperandStack", "push", "(Lcom/example/reckoner/reckoner/Value;)V"⟩ : MethodName)) (z := (⟨"com/example/reckoner/reckoner/OperandStack", "push", "(Lcom/example/reckoner/reckoner/Value;)V"⟩ : MethodName)) hown (mvT hZ (hw _ (List.mem_of_getElem? (i := 35) rfl))) (mvT hZ (hw _ (List.mem_of_getElem? (i := 36) rfl))) (notFace_of_selects (args := #[]) (mvT hZ (hw _ (List.mem_of_getElem? (i := 38) rfl)))) (mvT hZ (hw _ (List.mem_of_getElem? (i := 38) rfl))) (mvT hZ (hw _ (List.mem_of_getElem? (i := 37) rfl))) (by decide) (backOf (W := 0) (own_rmpu0 l Z a0 hw [] b6 rb1_169 rb5_12 rb20_12 rc_12c5 rc_12c20 .null .null .null (0 : UInt64) (0 : UInt64) (0 : UInt64) T169.heap n0 Z169 f173 f174 f175 f176 f177 fq12_5 f178 fq169_0 ge6 ge12_b5 ge12_b20 ne13 ne14 nq12_b5_b20) hZ (hw _ (List.mem_of_getElem? (i := 39) rfl)) (hw _ (List.mem_of_getElem? (i := 2) rfl)) (by decide) (by decide)) q180a q180c (g := (mkF m 54 #[.val (.long p1), .second, .val (.long p2), .second, .val (.int p3), .val (.int p4), .val (.double (FP.i2d p3)), .second, .val (.int (own_bel p4)), .val (.int (own_via p4)), .val (.ref b6), .unset, .unset, .unset] [(.ref rb1_169), (.ref b6)])) rfl (by rw [hml]; rfl) (Steps.refl _) (argsL := [(.ref rb1_169)]) (rest := []) (lenOf own_pd6 rfl) rfl (by show 2 * 0 + _ ≤ _; exact Nat.le_of_eq rfl) (hb hby at_54) (fun _ _ => ⟨rfl, rfl, (by decide : 4 + 0 ≤ _), (by decide : 12 + 0 ≤ _)⟩)
    dsimp only [Pt.U, Pt.locs, Pt.cells, Pt.slots] at X180 l180 y180 z180 st180 hQ180
    subst l180 y180 z180
    obtain ⟨rfl, N180q, Kq180, fq180_0, fq180_1, fq180_2, fq180_3, fq180_4, fq180_5, fq180_6, fq180_7⟩ := hQ180
    have N180 := Fr.app N169 N180q
    have f181 := fq169_1.keep Kq180 (List.not_mem_cons_of_ne_of_not_mem (Ne.symm ne170) (List.not_mem_cons_of_ne_of_not_mem (Ne.symm ne172) List.not_mem_nil))
    have f182 := fq169_2.keep Kq180 (List.not_mem_cons_of_ne_of_not_mem (Ne.symm ne170) (List.not_mem_cons_of_ne_of_not_mem (Ne.symm ne172) List.not_mem_nil))
    have f183 := fq169_3.keep Kq180 (List.not_mem_cons_of_ne_of_not_mem (Ne.symm ne170) (List.not_mem_cons_of_ne_of_not_mem (Ne.symm ne172) List.not_mem_nil))
    have Z180 : n0 ≤ T180.heap.size := Nat.le_trans Z169 Kq180.1
    have K180 : Keep h0 T180.heap [] := K169.trans Kq180 (fun x hx => by rcases List.mem_cons.mp hx with rfl | hx; exact Or.inr bo6; rcases List.mem_cons.mp hx with rfl | hx; exact Or.inr bo12_b5; exact nomatch hx)
    have Xo180 := Xo169.keep Kq180 (allS ge6 (allS ge12_b5 all0))
    have k184 : ∀ t, Steps p.tables e below (T180.setTop (mkF m 57 #[.val (.long p1), .second, .val (.long p2), .second, .val (.int p3), .val (.int p4), .val (.double (FP.i2d p3)), .second, .val (.int (own_bel p4)), .val (.int (own_via p4)), .val (.ref b6), .unset, .unset, .unset] [])) t → Steps p.tables e below (s₁.setTop (entryFrame m #[(.long p1), (.long p2), (.int p3), (.int p4)] maxLocals)) t := fun t k => k179 t (st180.trans k)
    have k185 : ∀ t, Steps p.tables e below (T180.setTop (mkF m 60 #[.val (.long p1), .second, .val (.long p2), .second, .val (.int p3), .val (.int p4), .val (.double (FP.i2d p3)), .second, .val (.int (own_bel p4)), .val (.int (own_via p4)), .val (.ref b6), .unset, .unset, .unset] [(.long p2), (.ref b6)])) t → Steps p.tables e below (s₁.setTop (entryFrame m #[(.long p1), (.long p2), (.int p3), (.int p4)] maxLocals)) t := by
      intro t k
      refine k184 t ?_
      show Steps p.tables e below (T180.setTop (mkF m 57 #[.val (.long p1), .second, .val (.long p2), .second, .val (.int p3), .val (.int p4), .val (.double (FP.i2d p3)), .second, .val (.int (own_bel p4)), .val (.int (own_via p4)), .val (.ref b6), .unset, .unset, .unset] [])) _
      refine XS.aload X180.here hx rfl (hb hby at_57) rfl rfl ?_
      show Steps p.tables e below (T180.setTop (mkF m 59 #[.val (.long p1), .second, .val (.long p2), .second, .val (.int p3), .val (.int p4), .val (.double (FP.i2d p3)), .second, .val (.int (own_bel p4)), .val (.int (own_via p4)), .val (.ref b6), .unset, .unset, .unset] [(.ref b6)])) _
      refine XS.lloadN X180.here hx rfl (hb hby at_59) rfl ?_
      exact k
    obtain ⟨_, _, ⟨T186, L186, k186c, n186⟩, -, X186, ⟨Lc186, hQ186, l186, y186, z186⟩, st186⟩ := Jvm.LawKit.callS X180 hx (y := (⟨"com/example/reckoner/reckoner/Value", "integer", "(J)Lcom/example/reckoner/reckoner/Value;"⟩ : MethodName)) hown (mvT hZ (hw _ (List.mem_of_getElem? (i := 16) rfl))) (mvT hZ (hw _ (List.mem_of_getElem? (i := 17) rfl))) (mvT hZ (hw _ (List.mem_of_getElem? (i := 18) rfl))) (mvT hZ (hw _ (List.mem_of_getElem? (i := 19) rfl))) (by decide) (backOf (W := 1) (own_rmig l Z a0 hw [] p2 sI T180.heap n0 Z180 Xo180 SI) hZ (hw _ (List.mem_of_getElem? (i := 19) rfl)) (hw _ (List.mem_of_getElem? (i := 18) rfl)) (by decide) (by decide)) (g := (mkF m 60 #[.val (.long p1), .second, .val (.long p2), .second, .val (.int p3), .val (.int p4), .val (.double (FP.i2d p3)), .second, .val (.int (own_bel p4)), .val (.int (own_via p4)), .val (.ref b6), .unset, .unset, .unset] [(.long p2), (.ref b6)])) rfl (by rw [hml]; rfl) (argsL := [(.long p2)]) (rest := [(.ref b6)]) (lenOf own_pd5 rfl) rfl (by show 2 * 0 + _ ≤ _; exact Nat.le_of_eq rfl) (hb hby at_60) (fun _ _ => ⟨rfl, rfl, (by decide : 4 + 1 ≤ _), (by decide : 12 + 3 ≤ _)⟩)
    dsimp only [Pt.U, Pt.locs, Pt.cells, Pt.slots] at X186 l186 y186 z186 st186 hQ186
    subst l186 y186 z186
    obtain ⟨rb1_186, rfl, N186q, Kq186, gz186_b1, fq186_0, fq186_1, fq186_2, fq186_3⟩ := hQ186
    have N186 := Fr.app N180 N186q
    have ge186_b1 : n0 ≤ rb1_186 := Nat.le_trans Z180 gz186_b1
    have bo186_b1 : h0.size ≤ rb1_186 := Nat.le_trans K180.1 gz186_b1
    have ne187 : b6 ≠ rb1_186 := Nat.ne_of_lt (Nat.lt_of_lt_of_le fq180_0.lt gz186_b1)
    have ne188 : rb1_169 ≠ rb1_186 := Nat.ne_of_lt (Nat.lt_of_lt_of_le fq180_7.lt gz186_b1)
    have ne189 : rb20_12 ≠ rb1_186 := Nat.ne_of_lt (Nat.lt_of_lt_of_le fq180_6.lt gz186_b1)
    have ne190 : rb5_12 ≠ rb1_186 := Nat.ne_of_lt (Nat.lt_of_lt_of_le fq180_4.lt gz186_b1)
    have f191 := fq180_0.keep Kq186
    have f192 := fq180_1.keep Kq186 List.not_mem_nil
    have f193 := fq180_2.keep Kq186 List.not_mem_nil
    have f194 := fq180_3.keep Kq186 List.not_mem_nil
    have f195 := fq180_4.keep Kq186 List.not_mem_nil
    have f196 := fq180_6.keep Kq186 List.not_mem_nil
    have f197 := fq180_7.keep Kq186
    have f198 := f181.keep Kq186 List.not_mem_nil
    have f199 := f182.keep Kq186 List.not_mem_nil
    have f200 := f183.keep Kq186 List.not_mem_nil
    have Z186 : n0 ≤ T186.heap.size := Nat.le_trans Z180 Kq186.1
    have K186 : Keep h0 T186.heap [] := K180.trans Kq186 (fun x hx => nomatch hx)
    have Xo186 := Xo180.keep Kq186 all0
    have k201 : ∀ t, Steps p.tables e below (T186.setTop (mkF m 63 #[.val (.long p1), .second, .val (.long p2), .second, .val (.int p3), .val (.int p4), .val (.double (FP.i2d p3)), .second, .val (.int (own_bel p4)), .val (.int (own_via p4)), .val (.ref b6), .unset, .unset, .unset] [(.ref rb1_186), (.ref b6)])) t → Steps p.tables e below (s₁.setTop (entryFrame m #[(.long p1), (.long p2), (.int p3), (.int p4)] maxLocals)) t := fun t k => k185 t (st186 t k)
    obtain ⟨cq202, kq202, q202a, q202b, q202c⟩ := isOf hZ rfl f191
    obtain ⟨_, _, ⟨T202, L202, k202c, n202⟩, -, X202, ⟨Lc202, hQ202, l202, y202, z202⟩, st202⟩ := X186.virtualBack hx (y := (⟨"com/example/reckoner/reckoner/OperandStack", "push", "(Lcom/example/reckoner/reckoner/Value;)V"⟩ : MethodName)) (z := (⟨"com/example/reckoner/reckoner/OperandStack", "push", "(Lcom/example/reckoner/reckoner/Value;)V"⟩ : MethodName)) hown (mvT hZ (hw _ (List.mem_of_getElem? (i := 35) rfl))) (mvT hZ (hw _ (List.mem_of_getElem? (i := 36) rfl))) (notFace_of_selects (args := #[]) (mvT hZ (hw _ (List.mem_of_getElem? (i := 38) rfl)))) (mvT hZ (hw _ (List.mem_of_getElem? (i := 38) rfl))) (mvT hZ (hw _ (List.mem_of_getElem? (i := 37) rfl))) (by decide) (backOf (W := 0) (own_rmpu1 l Z a0 hw [] b6 rb1_186 rb5_12 rb20_12 rc_12c5 rc_12c20 (.ref rb1_169) .null .null (0 : UInt64) (0 : UInt64) (0 : UInt64) T186.heap n0 Z186 f191 f192 f193 f194 f195 fq180_5 f196 fq186_0 ge6 ge12_b5 ge12_b20 ne13 ne14 nq12_b5_b20) hZ (hw _ (List.mem_of_getElem? (i := 39) rfl)) (hw _ (List.mem_of_getElem? (i := 2) rfl)) (by decide) (by decide)) q202a q202c (g := (mkF m 63 #[.val (.long p1), .second, .val (.long p2), .second, .val (.int p3), .val (.int p4), .val (.double (FP.i2d p3)), .second, .val (.int (own_bel p4)), .val (.int (own_via p4)), .val (.ref b6), .unset, .unset, .unset] [(.ref rb1_186), (.ref b6)])) rfl (by rw [hml]; rfl) (Steps.refl _) (argsL := [(.ref rb1_186)]) (rest := []) (lenOf own_pd6 rfl) rfl (by show 2 * 0 + _ ≤ _; exact Nat.le_of_eq rfl) (hb hby at_63) (fun _ _ => ⟨rfl, rfl, (by decide : 5 + 0 ≤ _), (by decide : 15 + 0 ≤ _)⟩)
    dsimp only [Pt.U, Pt.locs, Pt.cells, Pt.slots] at X202 l202 y202 z202 st202 hQ202
    subst l202 y202 z202
    obtain ⟨rfl, N202q, Kq202, fq202_0, fq202_1, fq202_2, fq202_3, fq202_4, fq202_5, fq202_6, fq202_7⟩ := hQ202
    have N202 := Fr.app N186 N202q
    have f203 := f197.keep Kq202
    have f204 := f198.keep Kq202 (List.not_mem_cons_of_ne_of_not_mem (Ne.symm ne170) (List.not_mem_cons_of_ne_of_not_mem (Ne.symm ne172) List.not_mem_nil))
    have f205 := f199.keep Kq202 (List.not_mem_cons_of_ne_of_not_mem (Ne.symm ne170) (List.not_mem_cons_of_ne_of_not_mem (Ne.symm ne172) List.not_mem_nil))
    have f206 := f200.keep Kq202 (List.not_mem_cons_of_ne_of_not_mem (Ne.symm ne170) (List.not_mem_cons_of_ne_of_not_mem (Ne.symm ne172) List.not_mem_nil))
    have f207 := fq186_1.keep Kq202 (List.not_mem_cons_of_ne_of_not_mem (Ne.symm ne187) (List.not_mem_cons_of_ne_of_not_mem (Ne.symm ne190) List.not_mem_nil))
    have f208 := fq186_2.keep Kq202 (List.not_mem_cons_of_ne_of_not_mem (Ne.symm ne187) (List.not_mem_cons_of_ne_of_not_mem (Ne.symm ne190) List.not_mem_nil))
    have f209 := fq186_3.keep Kq202 (List.not_mem_cons_of_ne_of_not_mem (Ne.symm ne187) (List.not_mem_cons_of_ne_of_not_mem (Ne.symm ne190) List.not_mem_nil))
    have Z202 : n0 ≤ T202.heap.size := Nat.le_trans Z186 Kq202.1
    have K202 : Keep h0 T202.heap [] := K186.trans Kq202 (fun x hx => by rcases List.mem_cons.mp hx with rfl | hx; exact Or.inr bo6; rcases List.mem_cons.mp hx with rfl | hx; exact Or.inr bo12_b5; exact nomatch hx)
    have Xo202 := Xo186.keep Kq202 (allS ge6 (allS ge12_b5 all0))
    have k210 : ∀ t, Steps p.tables e below (T202.setTop (mkF m 66 #[.val (.long p1), .second, .val (.long p2), .second, .val (.int p3), .val (.int p4), .val (.double (FP.i2d p3)), .second, .val (.int (own_bel p4)), .val (.int (own_via p4)), .val (.ref b6), .unset, .unset, .unset] [])) t → Steps p.tables e below (s₁.setTop (entryFrame m #[(.long p1), (.long p2), (.int p3), (.int p4)] maxLocals)) t := fun t k => k201 t (st202.trans k)
    have k211 : ∀ t, Steps p.tables e below (T202.setTop (mkF m 68 #[.val (.long p1), .second, .val (.long p2), .second, .val (.int p3), .val (.int p4), .val (.double (FP.i2d p3)), .second, .val (.int (own_bel p4)), .val (.int (own_via p4)), .val (.ref b6), .unset, .unset, .unset] [(.ref b6)])) t → Steps p.tables e below (s₁.setTop (entryFrame m #[(.long p1), (.long p2), (.int p3), (.int p4)] maxLocals)) t := by
      intro t k
      refine k210 t ?_
      show Steps p.tables e below (T202.setTop (mkF m 66 #[.val (.long p1), .second, .val (.long p2), .second, .val (.int p3), .val (.int p4), .val (.double (FP.i2d p3)), .second, .val (.int (own_bel p4)), .val (.int (own_via p4)), .val (.ref b6), .unset, .unset, .unset] [])) _
      refine XS.aload X202.here hx rfl (hb hby at_66) rfl rfl ?_
      exact k
    obtain ⟨cq212, kq212, q212a, q212b, q212c⟩ := isOf hZ rfl fq202_0
    obtain ⟨_, _, ⟨T212, L212, k212c, n212⟩, -, X212, ⟨Lc212, hQ212, l212, y212, z212⟩, st212⟩ := X202.virtualBack hx (y := (⟨"com/example/reckoner/reckoner/OperandStack", "pop", "()Lcom/example/reckoner/reckoner/Value;"⟩ : MethodName)) (z := (⟨"com/example/reckoner/reckoner/OperandStack", "pop", "()Lcom/example/reckoner/reckoner/Value;"⟩ : MethodName)) hown (mvT hZ (hw _ (List.mem_of_getElem? (i := 43) rfl))) (mvT hZ (hw _ (List.mem_of_getElem? (i := 44) rfl))) (notFace_of_selects (args := #[]) (mvT hZ (hw _ (List.mem_of_getElem? (i := 46) rfl)))) (mvT hZ (hw _ (List.mem_of_getElem? (i := 46) rfl))) (mvT hZ (hw _ (List.mem_of_getElem? (i := 45) rfl))) (by decide) (backOf (W := 0) (own_rmpo2o l Z a0 hw [] b6 rb5_12 rb20_12 rc_12c5 rc_12c20 (.ref rb1_169) rb1_186 .null (0 : UInt64) (0 : UInt64) (0 : UInt64) T202.heap n0 Z202 fq202_0 fq202_1 fq202_2 fq202_3 fq202_4 fq202_5 fq202_6 ge6 ge12_b5 ge12_b20 ne13 ne14 nq12_b5_b20) hZ (hw _ (List.mem_of_getElem? (i := 47) rfl)) (hw _ (List.mem_of_getElem? (i := 2) rfl)) (by decide) (by decide)) q212a q212c (g := (mkF m 68 #[.val (.long p1), .second, .val (.long p2), .second, .val (.int p3), .val (.int p4), .val (.double (FP.i2d p3)), .second, .val (.int (own_bel p4)), .val (.int (own_via p4)), .val (.ref b6), .unset, .unset, .unset] [(.ref b6)])) rfl (by rw [hml]; rfl) (Steps.refl _) (argsL := []) (rest := []) (lenOf own_pd7 rfl) rfl (by show 2 * 0 + _ ≤ _; exact Nat.le_of_eq rfl) (hb hby at_68) (fun _ _ => ⟨rfl, rfl, (by decide : 5 + 0 ≤ _), (by decide : 15 + 0 ≤ _)⟩)
    dsimp only [Pt.U, Pt.locs, Pt.cells, Pt.slots] at X212 l212 y212 z212 st212 hQ212
    subst l212 y212 z212
    obtain ⟨rfl, N212q, Kq212, fq212_0, fq212_1, fq212_2, fq212_3, fq212_4, fq212_5, fq212_6⟩ := hQ212
    have N212 := Fr.app N202 N212q
    have f213 := f203.keep Kq212
    have f214 := f204.keep Kq212 (List.not_mem_cons_of_ne_of_not_mem (Ne.symm ne170) List.not_mem_nil)
    have f215 := f205.keep Kq212 (List.not_mem_cons_of_ne_of_not_mem (Ne.symm ne170) List.not_mem_nil)
    have f216 := f206.keep Kq212 (List.not_mem_cons_of_ne_of_not_mem (Ne.symm ne170) List.not_mem_nil)
    have f217 := fq202_7.keep Kq212
    have f218 := f207.keep Kq212 (List.not_mem_cons_of_ne_of_not_mem (Ne.symm ne187) List.not_mem_nil)
    have f219 := f208.keep Kq212 (List.not_mem_cons_of_ne_of_not_mem (Ne.symm ne187) List.not_mem_nil)
    have f220 := f209.keep Kq212 (List.not_mem_cons_of_ne_of_not_mem (Ne.symm ne187) List.not_mem_nil)
    have Z212 : n0 ≤ T212.heap.size := Nat.le_trans Z202 Kq212.1
    have K212 : Keep h0 T212.heap [] := K202.trans Kq212 (fun x hx => by rcases List.mem_cons.mp hx with rfl | hx; exact Or.inr bo6; exact nomatch hx)
    have Xo212 := Xo202.keep Kq212 (allS ge6 all0)
    have k221 : ∀ t, Steps p.tables e below (T212.setTop (mkF m 71 #[.val (.long p1), .second, .val (.long p2), .second, .val (.int p3), .val (.int p4), .val (.double (FP.i2d p3)), .second, .val (.int (own_bel p4)), .val (.int (own_via p4)), .val (.ref b6), .unset, .unset, .unset] [(.ref rb1_186)])) t → Steps p.tables e below (s₁.setTop (entryFrame m #[(.long p1), (.long p2), (.int p3), (.int p4)] maxLocals)) t := fun t k => k211 t (st212.trans k)
    have k222 : ∀ t, Steps p.tables e below (T212.setTop (mkF m 76 #[.val (.long p1), .second, .val (.long p2), .second, .val (.int p3), .val (.int p4), .val (.double (FP.i2d p3)), .second, .val (.int (own_bel p4)), .val (.int (own_via p4)), .val (.ref b6), .unset, .unset, .unset] [(.double (FP.i2d p3)), (.ref b6)])) t → Steps p.tables e below (s₁.setTop (entryFrame m #[(.long p1), (.long p2), (.int p3), (.int p4)] maxLocals)) t := by
      intro t k
      refine k221 t ?_
      show Steps p.tables e below (T212.setTop (mkF m 71 #[.val (.long p1), .second, .val (.long p2), .second, .val (.int p3), .val (.int p4), .val (.double (FP.i2d p3)), .second, .val (.int (own_bel p4)), .val (.int (own_via p4)), .val (.ref b6), .unset, .unset, .unset] [(.ref rb1_186)])) _
      refine XS.pop X212.here hx rfl (hb hby at_71) rfl rfl ?_
      show Steps p.tables e below (T212.setTop (mkF m 72 #[.val (.long p1), .second, .val (.long p2), .second, .val (.int p3), .val (.int p4), .val (.double (FP.i2d p3)), .second, .val (.int (own_bel p4)), .val (.int (own_via p4)), .val (.ref b6), .unset, .unset, .unset] [])) _
      refine XS.aload X212.here hx rfl (hb hby at_72) rfl rfl ?_
      show Steps p.tables e below (T212.setTop (mkF m 74 #[.val (.long p1), .second, .val (.long p2), .second, .val (.int p3), .val (.int p4), .val (.double (FP.i2d p3)), .second, .val (.int (own_bel p4)), .val (.int (own_via p4)), .val (.ref b6), .unset, .unset, .unset] [(.ref b6)])) _
      refine XS.dload X212.here hx rfl (hb hby at_74) rfl ?_
      exact k
    obtain ⟨cq223, kq223, q223a, q223b, q223c⟩ := isOf hZ rfl fq212_0
    obtain ⟨_, _, ⟨T223, L223, k223c, n223⟩, -, X223, ⟨Lc223, hQ223, l223, y223, z223⟩, st223⟩ := X212.virtualBack hx (y := (⟨"com/example/reckoner/reckoner/OperandStack", "pushReal", "(D)V"⟩ : MethodName)) (z := (⟨"com/example/reckoner/reckoner/OperandStack", "pushReal", "(D)V"⟩ : MethodName)) hown (mvT hZ (hw _ (List.mem_of_getElem? (i := 52) rfl))) (mvT hZ (hw _ (List.mem_of_getElem? (i := 53) rfl))) (notFace_of_selects (args := #[]) (mvT hZ (hw _ (List.mem_of_getElem? (i := 55) rfl)))) (mvT hZ (hw _ (List.mem_of_getElem? (i := 55) rfl))) (mvT hZ (hw _ (List.mem_of_getElem? (i := 54) rfl))) (by decide) (backOf (W := 0) (own_rmpr1 l Z a0 hw [] b6 (FP.i2d p3) rb5_12 rb20_12 rc_12c5 rc_12c20 (.ref rb1_169) (.ref rb1_186) .null (0 : UInt64) (0 : UInt64) (0 : UInt64) T212.heap n0 Z212 fq212_0 fq212_1 fq212_2 fq212_3 fq212_4 fq212_5 fq212_6 ge6 ge12_b5 ge12_b20 ne13 ne14 nq12_b5_b20) hZ (hw _ (List.mem_of_getElem? (i := 56) rfl)) (hw _ (List.mem_of_getElem? (i := 2) rfl)) (by decide) (by decide)) q223a q223c (g := (mkF m 76 #[.val (.long p1), .second, .val (.long p2), .second, .val (.int p3), .val (.int p4), .val (.double (FP.i2d p3)), .second, .val (.int (own_bel p4)), .val (.int (own_via p4)), .val (.ref b6), .unset, .unset, .unset] [(.double (FP.i2d p3)), (.ref b6)])) rfl (by rw [hml]; rfl) (Steps.refl _) (argsL := [(.double (FP.i2d p3))]) (rest := []) (lenOf own_pd8 rfl) rfl (by show 2 * 0 + _ ≤ _; exact Nat.le_of_eq rfl) (hb hby at_76) (fun _ _ => ⟨rfl, rfl, (by decide : 5 + 0 ≤ _), (by decide : 15 + 0 ≤ _)⟩)
    dsimp only [Pt.U, Pt.locs, Pt.cells, Pt.slots] at X223 l223 y223 z223 st223 hQ223
    subst l223 y223 z223
    obtain ⟨rfl, N223q, Kq223, fq223_0, fq223_1, fq223_2, fq223_3, fq223_4, fq223_5, fq223_6⟩ := hQ223
    have N223 := Fr.app N212 N223q
    have f224 := f213.keep Kq223
    have f225 := f214.keep Kq223 (List.not_mem_cons_of_ne_of_not_mem (Ne.symm ne170) (List.not_mem_cons_of_ne_of_not_mem (Ne.symm ne172) (List.not_mem_cons_of_ne_of_not_mem (Ne.symm ne171) List.not_mem_nil)))
    have f226 := f215.keep Kq223 (List.not_mem_cons_of_ne_of_not_mem (Ne.symm ne170) (List.not_mem_cons_of_ne_of_not_mem (Ne.symm ne172) (List.not_mem_cons_of_ne_of_not_mem (Ne.symm ne171) List.not_mem_nil)))
    have f227 := f216.keep Kq223 (List.not_mem_cons_of_ne_of_not_mem (Ne.symm ne170) (List.not_mem_cons_of_ne_of_not_mem (Ne.symm ne172) (List.not_mem_cons_of_ne_of_not_mem (Ne.symm ne171) List.not_mem_nil)))
    have f228 := f217.keep Kq223
    have f229 := f218.keep Kq223 (List.not_mem_cons_of_ne_of_not_mem (Ne.symm ne187) (List.not_mem_cons_of_ne_of_not_mem (Ne.symm ne190) (List.not_mem_cons_of_ne_of_not_mem (Ne.symm ne189) List.not_mem_nil)))
    have f230 := f219.keep Kq223 (List.not_mem_cons_of_ne_of_not_mem (Ne.symm ne187) (List.not_mem_cons_of_ne_of_not_mem (Ne.symm ne190) (List.not_mem_cons_of_ne_of_not_mem (Ne.symm ne189) List.not_mem_nil)))
    have f231 := f220.keep Kq223 (List.not_mem_cons_of_ne_of_not_mem (Ne.symm ne187) (List.not_mem_cons_of_ne_of_not_mem (Ne.symm ne190) (List.not_mem_cons_of_ne_of_not_mem (Ne.symm ne189) List.not_mem_nil)))
    have Z223 : n0 ≤ T223.heap.size := Nat.le_trans Z212 Kq223.1
    have K223 : Keep h0 T223.heap [] := K212.trans Kq223 (fun x hx => by rcases List.mem_cons.mp hx with rfl | hx; exact Or.inr bo6; rcases List.mem_cons.mp hx with rfl | hx; exact Or.inr bo12_b5; rcases List.mem_cons.mp hx with rfl | hx; exact Or.inr bo12_b20; exact nomatch hx)
    have Xo223 := Xo212.keep Kq223 (allS ge6 (allS ge12_b5 (allS ge12_b20 all0)))
    have k232 : ∀ t, Steps p.tables e below (T223.setTop (mkF m 79 #[.val (.long p1), .second, .val (.long p2), .second, .val (.int p3), .val (.int p4), .val (.double (FP.i2d p3)), .second, .val (.int (own_bel p4)), .val (.int (own_via p4)), .val (.ref b6), .unset, .unset, .unset] [])) t → Steps p.tables e below (s₁.setTop (entryFrame m #[(.long p1), (.long p2), (.int p3), (.int p4)] maxLocals)) t := fun t k => k222 t (st223.trans k)
    have k233 : ∀ t, Steps p.tables e below (T223.setTop (mkF m 82 #[.val (.long p1), .second, .val (.long p2), .second, .val (.int p3), .val (.int p4), .val (.double (FP.i2d p3)), .second, .val (.int (own_bel p4)), .val (.int (own_via p4)), .val (.ref b6), .unset, .unset, .unset] [(.int (0 : Int32)), (.ref b6)])) t → Steps p.tables e below (s₁.setTop (entryFrame m #[(.long p1), (.long p2), (.int p3), (.int p4)] maxLocals)) t := by
      intro t k
      refine k232 t ?_
      show Steps p.tables e below (T223.setTop (mkF m 79 #[.val (.long p1), .second, .val (.long p2), .second, .val (.int p3), .val (.int p4), .val (.double (FP.i2d p3)), .second, .val (.int (own_bel p4)), .val (.int (own_via p4)), .val (.ref b6), .unset, .unset, .unset] [])) _
      refine XS.aload X223.here hx rfl (hb hby at_79) rfl rfl ?_
      show Steps p.tables e below (T223.setTop (mkF m 81 #[.val (.long p1), .second, .val (.long p2), .second, .val (.int p3), .val (.int p4), .val (.double (FP.i2d p3)), .second, .val (.int (own_bel p4)), .val (.int (own_via p4)), .val (.ref b6), .unset, .unset, .unset] [(.ref b6)])) _
      refine XS.iconst X223.here hx rfl (hb hby at_81) ?_
      exact k
    obtain ⟨cq234, kq234, q234a, q234b, q234c⟩ := isOf hZ rfl fq223_0
    obtain ⟨_, _, ⟨T234, L234, k234c, n234⟩, -, X234, ⟨Lc234, hQ234, l234, y234, z234⟩, st234⟩ := X223.virtualBack hx (y := (⟨"com/example/reckoner/reckoner/OperandStack", "isInteger", "(I)Z"⟩ : MethodName)) (z := (⟨"com/example/reckoner/reckoner/OperandStack", "isInteger", "(I)Z"⟩ : MethodName)) hown (mvT hZ (hw _ (List.mem_of_getElem? (i := 57) rfl))) (mvT hZ (hw _ (List.mem_of_getElem? (i := 58) rfl))) (notFace_of_selects (args := #[]) (mvT hZ (hw _ (List.mem_of_getElem? (i := 60) rfl)))) (mvT hZ (hw _ (List.mem_of_getElem? (i := 60) rfl))) (mvT hZ (hw _ (List.mem_of_getElem? (i := 59) rfl))) (by decide) (backOf (W := 0) (own_rmsi2 l Z a0 hw [] b6 rb5_12 rb20_12 rc_12c5 rc_12c20 (.ref rb1_169) .null (0 : UInt64) (FP.i2d p3) (0 : UInt64) T223.heap n0 Z223 fq223_0 fq223_1 fq223_2 fq223_3 fq223_4 fq223_5 fq223_6 ge6 ge12_b5 ge12_b20 ne13 ne14 nq12_b5_b20) hZ (hw _ (List.mem_of_getElem? (i := 61) rfl)) (hw _ (List.mem_of_getElem? (i := 2) rfl)) (by decide) (by decide)) q234a q234c (g := (mkF m 82 #[.val (.long p1), .second, .val (.long p2), .second, .val (.int p3), .val (.int p4), .val (.double (FP.i2d p3)), .second, .val (.int (own_bel p4)), .val (.int (own_via p4)), .val (.ref b6), .unset, .unset, .unset] [(.int (0 : Int32)), (.ref b6)])) rfl (by rw [hml]; rfl) (Steps.refl _) (argsL := [(.int (0 : Int32))]) (rest := []) (lenOf own_pd9 rfl) rfl (by show 2 * 0 + _ ≤ _; exact Nat.le_of_eq rfl) (hb hby at_82) (fun _ _ => ⟨rfl, rfl, (by decide : 5 + 0 ≤ _), (by decide : 15 + 0 ≤ _)⟩)
    dsimp only [Pt.U, Pt.locs, Pt.cells, Pt.slots] at X234 l234 y234 z234 st234 hQ234
    subst l234 y234 z234
    obtain ⟨rfl, N234q, Kq234, fq234_0, fq234_1, fq234_2, fq234_3, fq234_4, fq234_5, fq234_6⟩ := hQ234
    have N234 := Fr.app N223 N234q
    have f235 := f224.keep Kq234
    have f236 := f225.keep Kq234 List.not_mem_nil
    have f237 := f226.keep Kq234 List.not_mem_nil
    have f238 := f227.keep Kq234 List.not_mem_nil
    have f239 := f228.keep Kq234
    have f240 := f229.keep Kq234 List.not_mem_nil
    have f241 := f230.keep Kq234 List.not_mem_nil
    have f242 := f231.keep Kq234 List.not_mem_nil
    have Z234 : n0 ≤ T234.heap.size := Nat.le_trans Z223 Kq234.1
    have K234 : Keep h0 T234.heap [] := K223.trans Kq234 (fun x hx => nomatch hx)
    have Xo234 := Xo223.keep Kq234 all0
    have k243 : ∀ t, Steps p.tables e below (T234.setTop (mkF m 85 #[.val (.long p1), .second, .val (.long p2), .second, .val (.int p3), .val (.int p4), .val (.double (FP.i2d p3)), .second, .val (.int (own_bel p4)), .val (.int (own_via p4)), .val (.ref b6), .unset, .unset, .unset] [(.int (0 : Int32))])) t → Steps p.tables e below (s₁.setTop (entryFrame m #[(.long p1), (.long p2), (.int p3), (.int p4)] maxLocals)) t := fun t k => k233 t (st234.trans k)
    have k244 : ∀ t, Steps p.tables e below (T234.setTop (mkF m 108 #[.val (.long p1), .second, .val (.long p2), .second, .val (.int p3), .val (.int p4), .val (.double (FP.i2d p3)), .second, .val (.int (own_bel p4)), .val (.int (own_via p4)), .val (.ref b6), .val (.int (1 : Int32)), .unset, .unset] [(.int (1 : Int32)), (.ref b6)])) t → Steps p.tables e below (s₁.setTop (entryFrame m #[(.long p1), (.long p2), (.int p3), (.int p4)] maxLocals)) t := by
      intro t k
      refine k243 t ?_
      show Steps p.tables e below (T234.setTop (mkF m 85 #[.val (.long p1), .second, .val (.long p2), .second, .val (.int p3), .val (.int p4), .val (.double (FP.i2d p3)), .second, .val (.int (own_bel p4)), .val (.int (own_via p4)), .val (.ref b6), .unset, .unset, .unset] [(.int (0 : Int32))])) _
      refine XS.ifNo X234.here hx rfl (hb hby at_85) rfl ((if0 _ _).trans (teq (rfl : (0 : Int32) = (0 : Int32))).2) ?_
      show Steps p.tables e below (T234.setTop (mkF m 88 #[.val (.long p1), .second, .val (.long p2), .second, .val (.int p3), .val (.int p4), .val (.double (FP.i2d p3)), .second, .val (.int (own_bel p4)), .val (.int (own_via p4)), .val (.ref b6), .unset, .unset, .unset] [])) _
      refine XS.iconst X234.here hx rfl (hb hby at_88) ?_
      show Steps p.tables e below (T234.setTop (mkF m 89 #[.val (.long p1), .second, .val (.long p2), .second, .val (.int p3), .val (.int p4), .val (.double (FP.i2d p3)), .second, .val (.int (own_bel p4)), .val (.int (own_via p4)), .val (.ref b6), .unset, .unset, .unset] [(.int (1 : Int32))])) _
      refine XS.goto X234.here hx rfl (pc0 := 89) (pc' := 93) rfl (hb hby at_89) (by decide) (by decide) ?_
      show Steps p.tables e below (T234.setTop (mkF m 93 #[.val (.long p1), .second, .val (.long p2), .second, .val (.int p3), .val (.int p4), .val (.double (FP.i2d p3)), .second, .val (.int (own_bel p4)), .val (.int (own_via p4)), .val (.ref b6), .unset, .unset, .unset] [(.int (1 : Int32))])) _
      refine XS.istore X234.here hx rfl (hb hby at_93) rfl (l' := #[.val (.long p1), .second, .val (.long p2), .second, .val (.int p3), .val (.int p4), .val (.double (FP.i2d p3)), .second, .val (.int (own_bel p4)), .val (.int (own_via p4)), .val (.ref b6), .val (.int (1 : Int32)), .unset, .unset]) rfl ?_
      show Steps p.tables e below (T234.setTop (mkF m 95 #[.val (.long p1), .second, .val (.long p2), .second, .val (.int p3), .val (.int p4), .val (.double (FP.i2d p3)), .second, .val (.int (own_bel p4)), .val (.int (own_via p4)), .val (.ref b6), .val (.int (1 : Int32)), .unset, .unset] [])) _
      refine XS.iload X234.here hx rfl (hb hby at_95) rfl ?_
      show Steps p.tables e below (T234.setTop (mkF m 97 #[.val (.long p1), .second, .val (.long p2), .second, .val (.int p3), .val (.int p4), .val (.double (FP.i2d p3)), .second, .val (.int (own_bel p4)), .val (.int (own_via p4)), .val (.ref b6), .val (.int (1 : Int32)), .unset, .unset] [(.int (own_bel p4))])) _
      refine XS.ifNo X234.here hx rfl (hb hby at_97) rfl ((if0 _ _).trans (feq hc45_17).1) ?_
      show Steps p.tables e below (T234.setTop (mkF m 100 #[.val (.long p1), .second, .val (.long p2), .second, .val (.int p3), .val (.int p4), .val (.double (FP.i2d p3)), .second, .val (.int (own_bel p4)), .val (.int (own_via p4)), .val (.ref b6), .val (.int (1 : Int32)), .unset, .unset] [])) _
      refine XS.iload X234.here hx rfl (hb hby at_100) rfl ?_
      show Steps p.tables e below (T234.setTop (mkF m 102 #[.val (.long p1), .second, .val (.long p2), .second, .val (.int p3), .val (.int p4), .val (.double (FP.i2d p3)), .second, .val (.int (own_bel p4)), .val (.int (own_via p4)), .val (.ref b6), .val (.int (1 : Int32)), .unset, .unset] [(.int (1 : Int32))])) _
      refine XS.ifNo X234.here hx rfl (hb hby at_102) rfl ((if0 _ _).trans (feq (by decide : ¬ ((1 : Int32) = (0 : Int32)))).1) ?_
      show Steps p.tables e below (T234.setTop (mkF m 105 #[.val (.long p1), .second, .val (.long p2), .second, .val (.int p3), .val (.int p4), .val (.double (FP.i2d p3)), .second, .val (.int (own_bel p4)), .val (.int (own_via p4)), .val (.ref b6), .val (.int (1 : Int32)), .unset, .unset] [])) _
      refine XS.aload X234.here hx rfl (hb hby at_105) rfl rfl ?_
      show Steps p.tables e below (T234.setTop (mkF m 107 #[.val (.long p1), .second, .val (.long p2), .second, .val (.int p3), .val (.int p4), .val (.double (FP.i2d p3)), .second, .val (.int (own_bel p4)), .val (.int (own_via p4)), .val (.ref b6), .val (.int (1 : Int32)), .unset, .unset] [(.ref b6)])) _
      refine XS.iconst X234.here hx rfl (hb hby at_107) ?_
      exact k
    obtain ⟨cq245, kq245, q245a, q245b, q245c⟩ := isOf hZ rfl fq234_0
    obtain ⟨_, _, ⟨T245, L245, k245c, n245⟩, -, X245, ⟨Lc245, hQ245, l245, y245, z245⟩, st245⟩ := X234.virtualBack hx (y := (⟨"com/example/reckoner/reckoner/OperandStack", "isInteger", "(I)Z"⟩ : MethodName)) (z := (⟨"com/example/reckoner/reckoner/OperandStack", "isInteger", "(I)Z"⟩ : MethodName)) hown (mvT hZ (hw _ (List.mem_of_getElem? (i := 57) rfl))) (mvT hZ (hw _ (List.mem_of_getElem? (i := 58) rfl))) (notFace_of_selects (args := #[]) (mvT hZ (hw _ (List.mem_of_getElem? (i := 60) rfl)))) (mvT hZ (hw _ (List.mem_of_getElem? (i := 60) rfl))) (mvT hZ (hw _ (List.mem_of_getElem? (i := 59) rfl))) (by decide) (backOf (W := 0) (own_rmsj l Z a0 hw [] b6 rb5_12 rb20_12 rc_12c5 rc_12c20 rb1_169 .null .null (0 : UInt64) (FP.i2d p3) (0 : UInt64) sI T234.heap n0 Z234 fq234_0 fq234_1 fq234_2 fq234_3 fq234_4 fq234_5 fq234_6 f235 f236 ge6 ge12_b5 ge12_b20 ne13 ne14 nq12_b5_b20 Xo234 SI) hZ (hw _ (List.mem_of_getElem? (i := 61) rfl)) (hw _ (List.mem_of_getElem? (i := 2) rfl)) (by decide) (by decide)) q245a q245c (g := (mkF m 108 #[.val (.long p1), .second, .val (.long p2), .second, .val (.int p3), .val (.int p4), .val (.double (FP.i2d p3)), .second, .val (.int (own_bel p4)), .val (.int (own_via p4)), .val (.ref b6), .val (.int (1 : Int32)), .unset, .unset] [(.int (1 : Int32)), (.ref b6)])) rfl (by rw [hml]; rfl) (Steps.refl _) (argsL := [(.int (1 : Int32))]) (rest := []) (lenOf own_pd9 rfl) rfl (by show 2 * 0 + _ ≤ _; exact Nat.le_of_eq rfl) (hb hby at_108) (fun _ _ => ⟨rfl, rfl, (by decide : 5 + 0 ≤ _), (by decide : 15 + 0 ≤ _)⟩)
    dsimp only [Pt.U, Pt.locs, Pt.cells, Pt.slots] at X245 l245 y245 z245 st245 hQ245
    subst l245 y245 z245
    obtain ⟨rfl, N245q, Kq245, fq245_0, fq245_1, fq245_2, fq245_3, fq245_4, fq245_5, fq245_6, fq245_7, fq245_8⟩ := hQ245
    have N245 := Fr.app N234 N245q
    have f246 := f237.keep Kq245 List.not_mem_nil
    have f247 := f238.keep Kq245 List.not_mem_nil
    have f248 := f239.keep Kq245
    have f249 := f240.keep Kq245 List.not_mem_nil
    have f250 := f241.keep Kq245 List.not_mem_nil
    have f251 := f242.keep Kq245 List.not_mem_nil
    have Z245 : n0 ≤ T245.heap.size := Nat.le_trans Z234 Kq245.1
    have K245 : Keep h0 T245.heap [] := K234.trans Kq245 (fun x hx => nomatch hx)
    have Xo245 := Xo234.keep Kq245 all0
    have k252 : ∀ t, Steps p.tables e below (T245.setTop (mkF m 111 #[.val (.long p1), .second, .val (.long p2), .second, .val (.int p3), .val (.int p4), .val (.double (FP.i2d p3)), .second, .val (.int (own_bel p4)), .val (.int (own_via p4)), .val (.ref b6), .val (.int (1 : Int32)), .unset, .unset] [(.int (1 : Int32))])) t → Steps p.tables e below (s₁.setTop (entryFrame m #[(.long p1), (.long p2), (.int p3), (.int p4)] maxLocals)) t := fun t k => k244 t (st245.trans k)
    have k253 : ∀ t, Steps p.tables e below (T245.setTop (mkF m 123 #[.val (.long p1), .second, .val (.long p2), .second, .val (.int p3), .val (.int p4), .val (.double (FP.i2d p3)), .second, .val (.int (own_bel p4)), .val (.int (own_via p4)), .val (.ref b6), .val (.int (1 : Int32)), .unset, .unset] [(.ref b6)])) t → Steps p.tables e below (s₁.setTop (entryFrame m #[(.long p1), (.long p2), (.int p3), (.int p4)] maxLocals)) t := by
      intro t k
      refine k252 t ?_
      show Steps p.tables e below (T245.setTop (mkF m 111 #[.val (.long p1), .second, .val (.long p2), .second, .val (.int p3), .val (.int p4), .val (.double (FP.i2d p3)), .second, .val (.int (own_bel p4)), .val (.int (own_via p4)), .val (.ref b6), .val (.int (1 : Int32)), .unset, .unset] [(.int (1 : Int32))])) _
      refine XS.ifNo X245.here hx rfl (hb hby at_111) rfl ((if0 _ _).trans (feq (by decide : ¬ ((1 : Int32) = (0 : Int32)))).1) ?_
      show Steps p.tables e below (T245.setTop (mkF m 114 #[.val (.long p1), .second, .val (.long p2), .second, .val (.int p3), .val (.int p4), .val (.double (FP.i2d p3)), .second, .val (.int (own_bel p4)), .val (.int (own_via p4)), .val (.ref b6), .val (.int (1 : Int32)), .unset, .unset] [])) _
      refine XS.iconst X245.here hx rfl (hb hby at_114) ?_
      show Steps p.tables e below (T245.setTop (mkF m 115 #[.val (.long p1), .second, .val (.long p2), .second, .val (.int p3), .val (.int p4), .val (.double (FP.i2d p3)), .second, .val (.int (own_bel p4)), .val (.int (own_via p4)), .val (.ref b6), .val (.int (1 : Int32)), .unset, .unset] [(.int (1 : Int32))])) _
      refine XS.goto X245.here hx rfl (pc0 := 115) (pc' := 119) rfl (hb hby at_115) (by decide) (by decide) ?_
      show Steps p.tables e below (T245.setTop (mkF m 119 #[.val (.long p1), .second, .val (.long p2), .second, .val (.int p3), .val (.int p4), .val (.double (FP.i2d p3)), .second, .val (.int (own_bel p4)), .val (.int (own_via p4)), .val (.ref b6), .val (.int (1 : Int32)), .unset, .unset] [(.int (1 : Int32))])) _
      refine XS.istore X245.here hx rfl (hb hby at_119) rfl (l' := #[.val (.long p1), .second, .val (.long p2), .second, .val (.int p3), .val (.int p4), .val (.double (FP.i2d p3)), .second, .val (.int (own_bel p4)), .val (.int (own_via p4)), .val (.ref b6), .val (.int (1 : Int32)), .unset, .unset]) rfl ?_
      show Steps p.tables e below (T245.setTop (mkF m 121 #[.val (.long p1), .second, .val (.long p2), .second, .val (.int p3), .val (.int p4), .val (.double (FP.i2d p3)), .second, .val (.int (own_bel p4)), .val (.int (own_via p4)), .val (.ref b6), .val (.int (1 : Int32)), .unset, .unset] [])) _
      refine XS.aload X245.here hx rfl (hb hby at_121) rfl rfl ?_
      exact k
    obtain ⟨cq254, kq254, q254a, q254b, q254c⟩ := isOf hZ rfl fq245_0
    obtain ⟨_, _, ⟨T254, L254, k254c, n254⟩, -, X254, ⟨Lc254, hQ254, l254, y254, z254⟩, st254⟩ := X245.virtualBack hx (y := (⟨"com/example/reckoner/reckoner/OperandStack", "peek", "()Lcom/example/reckoner/reckoner/Value;"⟩ : MethodName)) (z := (⟨"com/example/reckoner/reckoner/OperandStack", "peek", "()Lcom/example/reckoner/reckoner/Value;"⟩ : MethodName)) hown (mvT hZ (hw _ (List.mem_of_getElem? (i := 67) rfl))) (mvT hZ (hw _ (List.mem_of_getElem? (i := 68) rfl))) (notFace_of_selects (args := #[]) (mvT hZ (hw _ (List.mem_of_getElem? (i := 70) rfl)))) (mvT hZ (hw _ (List.mem_of_getElem? (i := 70) rfl))) (mvT hZ (hw _ (List.mem_of_getElem? (i := 69) rfl))) (by decide) (backOf (W := 0) (own_rmpk2 l Z a0 hw [] b6 rb5_12 rb20_12 rc_12c5 rc_12c20 (.ref rb1_169) .null (0 : UInt64) (FP.i2d p3) (0 : UInt64) sR T245.heap n0 Z245 fq245_0 fq245_1 fq245_2 fq245_3 fq245_4 fq245_5 fq245_6 ge6 ge12_b5 ge12_b20 ne13 ne14 nq12_b5_b20 Xo245 SR) hZ (hw _ (List.mem_of_getElem? (i := 71) rfl)) (hw _ (List.mem_of_getElem? (i := 2) rfl)) (by decide) (by decide)) q254a q254c (g := (mkF m 123 #[.val (.long p1), .second, .val (.long p2), .second, .val (.int p3), .val (.int p4), .val (.double (FP.i2d p3)), .second, .val (.int (own_bel p4)), .val (.int (own_via p4)), .val (.ref b6), .val (.int (1 : Int32)), .unset, .unset] [(.ref b6)])) rfl (by rw [hml]; rfl) (Steps.refl _) (argsL := []) (rest := []) (lenOf own_pd7 rfl) rfl (by show 2 * 0 + _ ≤ _; exact Nat.le_of_eq rfl) (hb hby at_123) (fun _ _ => ⟨rfl, rfl, (by decide : 5 + 1 ≤ _), (by decide : 15 + 3 ≤ _)⟩)
    dsimp only [Pt.U, Pt.locs, Pt.cells, Pt.slots] at X254 l254 y254 z254 st254 hQ254
    subst l254 y254 z254
    obtain ⟨rrrb1_14_5_254, rfl, N254q, Kq254, gz254_rrb1_14_5, fq254_0, fq254_1, fq254_2, fq254_3, fq254_4, fq254_5, fq254_6, fq254_7, fq254_8, fq254_9, fq254_10⟩ := hQ254
    have N254 := Fr.app N245 N254q
    have ge254_rrb1_14_5 : n0 ≤ rrrb1_14_5_254 := Nat.le_trans Z245 gz254_rrb1_14_5
    have bo254_rrb1_14_5 : h0.size ≤ rrrb1_14_5_254 := Nat.le_trans K245.1 gz254_rrb1_14_5
    have ne255 : b6 ≠ rrrb1_14_5_254 := Nat.ne_of_lt (Nat.lt_of_lt_of_le fq245_0.lt gz254_rrb1_14_5)
    have ne256 : rb1_169 ≠ rrrb1_14_5_254 := Nat.ne_of_lt (Nat.lt_of_lt_of_le fq245_7.lt gz254_rrb1_14_5)
    have ne257 : rb1_186 ≠ rrrb1_14_5_254 := Nat.ne_of_lt (Nat.lt_of_lt_of_le f248.lt gz254_rrb1_14_5)
    have ne258 : rb20_12 ≠ rrrb1_14_5_254 := Nat.ne_of_lt (Nat.lt_of_lt_of_le fq245_6.lt gz254_rrb1_14_5)
    have ne259 : rb5_12 ≠ rrrb1_14_5_254 := Nat.ne_of_lt (Nat.lt_of_lt_of_le fq245_4.lt gz254_rrb1_14_5)
    have f260 := fq245_7.keep Kq254
    have f261 := fq245_8.keep Kq254 List.not_mem_nil
    have f262 := f246.keep Kq254 List.not_mem_nil
    have f263 := f247.keep Kq254 List.not_mem_nil
    have f264 := f248.keep Kq254
    have f265 := f249.keep Kq254 List.not_mem_nil
    have f266 := f250.keep Kq254 List.not_mem_nil
    have f267 := f251.keep Kq254 List.not_mem_nil
    have Z254 : n0 ≤ T254.heap.size := Nat.le_trans Z245 Kq254.1
    have K254 : Keep h0 T254.heap [] := K245.trans Kq254 (fun x hx => nomatch hx)
    have Xo254 := Xo245.keep Kq254 all0
    have k268 : ∀ t, Steps p.tables e below (T254.setTop (mkF m 126 #[.val (.long p1), .second, .val (.long p2), .second, .val (.int p3), .val (.int p4), .val (.double (FP.i2d p3)), .second, .val (.int (own_bel p4)), .val (.int (own_via p4)), .val (.ref b6), .val (.int (1 : Int32)), .unset, .unset] [(.ref rrrb1_14_5_254)])) t → Steps p.tables e below (s₁.setTop (entryFrame m #[(.long p1), (.long p2), (.int p3), (.int p4)] maxLocals)) t := fun t k => k253 t (st254.trans k)
    have k269 : ∀ t, Steps p.tables e below (T254.setTop (mkF m 135 #[.val (.long p1), .second, .val (.long p2), .second, .val (.int p3), .val (.int p4), .val (.double (FP.i2d p3)), .second, .val (.int (own_bel p4)), .val (.int (own_via p4)), .val (.ref b6), .val (.int (1 : Int32)), .val (.ref rrrb1_14_5_254), .unset] [(.ref rrrb1_14_5_254)])) t → Steps p.tables e below (s₁.setTop (entryFrame m #[(.long p1), (.long p2), (.int p3), (.int p4)] maxLocals)) t := by
      intro t k
      refine k268 t ?_
      show Steps p.tables e below (T254.setTop (mkF m 126 #[.val (.long p1), .second, .val (.long p2), .second, .val (.int p3), .val (.int p4), .val (.double (FP.i2d p3)), .second, .val (.int (own_bel p4)), .val (.int (own_via p4)), .val (.ref b6), .val (.int (1 : Int32)), .unset, .unset] [(.ref rrrb1_14_5_254)])) _
      refine XS.astore X254.here hx rfl (hb hby at_126) rfl rfl (l' := #[.val (.long p1), .second, .val (.long p2), .second, .val (.int p3), .val (.int p4), .val (.double (FP.i2d p3)), .second, .val (.int (own_bel p4)), .val (.int (own_via p4)), .val (.ref b6), .val (.int (1 : Int32)), .val (.ref rrrb1_14_5_254), .unset]) rfl ?_
      show Steps p.tables e below (T254.setTop (mkF m 128 #[.val (.long p1), .second, .val (.long p2), .second, .val (.int p3), .val (.int p4), .val (.double (FP.i2d p3)), .second, .val (.int (own_bel p4)), .val (.int (own_via p4)), .val (.ref b6), .val (.int (1 : Int32)), .val (.ref rrrb1_14_5_254), .unset] [])) _
      refine XS.iload X254.here hx rfl (hb hby at_128) rfl ?_
      show Steps p.tables e below (T254.setTop (mkF m 130 #[.val (.long p1), .second, .val (.long p2), .second, .val (.int p3), .val (.int p4), .val (.double (FP.i2d p3)), .second, .val (.int (own_bel p4)), .val (.int (own_via p4)), .val (.ref b6), .val (.int (1 : Int32)), .val (.ref rrrb1_14_5_254), .unset] [(.int (1 : Int32))])) _
      refine XS.ifNo X254.here hx rfl (hb hby at_130) rfl ((if0 _ _).trans (feq (by decide : ¬ ((1 : Int32) = (0 : Int32)))).1) ?_
      show Steps p.tables e below (T254.setTop (mkF m 133 #[.val (.long p1), .second, .val (.long p2), .second, .val (.int p3), .val (.int p4), .val (.double (FP.i2d p3)), .second, .val (.int (own_bel p4)), .val (.int (own_via p4)), .val (.ref b6), .val (.int (1 : Int32)), .val (.ref rrrb1_14_5_254), .unset] [])) _
      refine XS.aload X254.here hx rfl (hb hby at_133) rfl rfl ?_
      exact k
    obtain ⟨cq270, kq270, q270a, q270b, q270c⟩ := isOf hZ rfl fq254_7
    obtain ⟨_, _, ⟨T270, L270, k270c, n270⟩, -, X270, ⟨Lc270, hQ270, l270, y270, z270⟩, st270⟩ := X254.virtualBack hx (y := (⟨"com/example/reckoner/reckoner/Value", "type", "()Lcom/example/reckoner/reckoner/Value$Type;"⟩ : MethodName)) (z := (⟨"com/example/reckoner/reckoner/Value", "type", "()Lcom/example/reckoner/reckoner/Value$Type;"⟩ : MethodName)) hown (mvT hZ (hw _ (List.mem_of_getElem? (i := 77) rfl))) (mvT hZ (hw _ (List.mem_of_getElem? (i := 78) rfl))) (notFace_of_selects (args := #[]) (mvT hZ (hw _ (List.mem_of_getElem? (i := 80) rfl)))) (mvT hZ (hw _ (List.mem_of_getElem? (i := 80) rfl))) (mvT hZ (hw _ (List.mem_of_getElem? (i := 79) rfl))) (by decide) (backOf (W := 0) (own_rmty l Z a0 hw [] rrrb1_14_5_254 sR T254.heap n0 Z254 fq254_7 fq254_8 Xo254 SR) hZ (hw _ (List.mem_of_getElem? (i := 81) rfl)) (hw _ (List.mem_of_getElem? (i := 18) rfl)) (by decide) (by decide)) q270a q270c (g := (mkF m 135 #[.val (.long p1), .second, .val (.long p2), .second, .val (.int p3), .val (.int p4), .val (.double (FP.i2d p3)), .second, .val (.int (own_bel p4)), .val (.int (own_via p4)), .val (.ref b6), .val (.int (1 : Int32)), .val (.ref rrrb1_14_5_254), .unset] [(.ref rrrb1_14_5_254)])) rfl (by rw [hml]; rfl) (Steps.refl _) (argsL := []) (rest := []) (lenOf own_pd10 rfl) rfl (by show 2 * 0 + _ ≤ _; exact Nat.le_of_eq rfl) (hb hby at_135) (fun _ _ => ⟨rfl, rfl, (by decide : 6 + 0 ≤ _), (by decide : 18 + 0 ≤ _)⟩)
    dsimp only [Pt.U, Pt.locs, Pt.cells, Pt.slots] at X270 l270 y270 z270 st270 hQ270
    subst l270 y270 z270
    obtain ⟨rfl, N270q, Kq270, fq270_0, fq270_1⟩ := hQ270
    have N270 := Fr.app N254 N270q
    have f271 := fq254_0.keep Kq270
    have f272 := fq254_1.keep Kq270 List.not_mem_nil
    have f273 := fq254_2.keep Kq270 List.not_mem_nil
    have f274 := fq254_3.keep Kq270 List.not_mem_nil
    have f275 := fq254_4.keep Kq270 List.not_mem_nil
    have f276 := fq254_6.keep Kq270 List.not_mem_nil
    have f277 := f260.keep Kq270
    have f278 := f261.keep Kq270 List.not_mem_nil
    have f279 := f262.keep Kq270 List.not_mem_nil
    have f280 := f263.keep Kq270 List.not_mem_nil
    have f281 := f264.keep Kq270
    have f282 := f265.keep Kq270 List.not_mem_nil
    have f283 := f266.keep Kq270 List.not_mem_nil
    have f284 := f267.keep Kq270 List.not_mem_nil
    have f285 := fq254_9.keep Kq270 List.not_mem_nil
    have f286 := fq254_10.keep Kq270 List.not_mem_nil
    have Z270 : n0 ≤ T270.heap.size := Nat.le_trans Z254 Kq270.1
    have K270 : Keep h0 T270.heap [] := K254.trans Kq270 (fun x hx => nomatch hx)
    have Xo270 := Xo254.keep Kq270 all0
    have k287 : ∀ t, Steps p.tables e below (T270.setTop (mkF m 138 #[.val (.long p1), .second, .val (.long p2), .second, .val (.int p3), .val (.int p4), .val (.double (FP.i2d p3)), .second, .val (.int (own_bel p4)), .val (.int (own_via p4)), .val (.ref b6), .val (.int (1 : Int32)), .val (.ref rrrb1_14_5_254), .unset] [(.ref sR)])) t → Steps p.tables e below (s₁.setTop (entryFrame m #[(.long p1), (.long p2), (.int p3), (.int p4)] maxLocals)) t := fun t k => k269 t (st270.trans k)
    obtain ⟨T288, X288, e288, st288⟩ := getS2 X270 hx hZ hown (host := "") (Or.inl (hw _ (List.mem_of_getElem? (i := 82) rfl))) Via.refl rfl (SR.ext Xo270.2) (g := (mkF m 138 #[.val (.long p1), .second, .val (.long p2), .second, .val (.int p3), .val (.int p4), .val (.double (FP.i2d p3)), .second, .val (.int (own_bel p4)), .val (.int (own_via p4)), .val (.ref b6), .val (.int (1 : Int32)), .val (.ref rrrb1_14_5_254), .unset] [(.ref sR)])) rfl (hb hby at_138)
    have k289 : ∀ t, Steps p.tables e below (T288.setTop (mkF m 141 #[.val (.long p1), .second, .val (.long p2), .second, .val (.int p3), .val (.int p4), .val (.double (FP.i2d p3)), .second, .val (.int (own_bel p4)), .val (.int (own_via p4)), .val (.ref b6), .val (.int (1 : Int32)), .val (.ref rrrb1_14_5_254), .unset] [(.ref sR), (.ref sR)])) t → Steps p.tables e below (s₁.setTop (entryFrame m #[(.long p1), (.long p2), (.int p3), (.int p4)] maxLocals)) t := fun t k => k287 t (st288 t k)
    have k290 : ∀ t, Steps p.tables e below (T288.setTop (mkF m 146 #[.val (.long p1), .second, .val (.long p2), .second, .val (.int p3), .val (.int p4), .val (.double (FP.i2d p3)), .second, .val (.int (own_bel p4)), .val (.int (own_via p4)), .val (.ref b6), .val (.int (1 : Int32)), .val (.ref rrrb1_14_5_254), .unset] [(.ref rrrb1_14_5_254)])) t → Steps p.tables e below (s₁.setTop (entryFrame m #[(.long p1), (.long p2), (.int p3), (.int p4)] maxLocals)) t := by
      intro t k
      refine k289 t ?_
      show Steps p.tables e below (T288.setTop (mkF m 141 #[.val (.long p1), .second, .val (.long p2), .second, .val (.int p3), .val (.int p4), .val (.double (FP.i2d p3)), .second, .val (.int (own_bel p4)), .val (.int (own_via p4)), .val (.ref b6), .val (.int (1 : Int32)), .val (.ref rrrb1_14_5_254), .unset] [(.ref sR), (.ref sR)])) _
      refine Jvm.RoadKit.acmp (g := (mkF m 141 #[.val (.long p1), .second, .val (.long p2), .second, .val (.int p3), .val (.int p4), .val (.double (FP.i2d p3)), .second, .val (.int (own_bel p4)), .val (.int (own_via p4)), .val (.ref b6), .val (.int (1 : Int32)), .val (.ref rrrb1_14_5_254), .unset] [(.ref sR), (.ref sR)])) X288 hx rfl rfl rfl (pc0 := 141) (pc' := 144) (same := true) rfl (hb hby at_141) rfl (decide_eq_true rfl) (by decide) (by decide) ?_
      show Steps p.tables e below (T288.setTop (mkF m 144 #[.val (.long p1), .second, .val (.long p2), .second, .val (.int p3), .val (.int p4), .val (.double (FP.i2d p3)), .second, .val (.int (own_bel p4)), .val (.int (own_via p4)), .val (.ref b6), .val (.int (1 : Int32)), .val (.ref rrrb1_14_5_254), .unset] [])) _
      refine XS.aload X288.here hx rfl (hb hby at_144) rfl rfl ?_
      exact k
    obtain ⟨cq291, kq291, q291a, q291b, q291c⟩ := isOf hZ e288 fq270_0
    obtain ⟨_, _, ⟨T291, L291, k291c, n291⟩, -, X291, ⟨Lc291, hQ291, l291, y291, z291⟩, st291⟩ := X288.virtualBack hx (y := (⟨"com/example/reckoner/reckoner/Value", "doubleValue", "()D"⟩ : MethodName)) (z := (⟨"com/example/reckoner/reckoner/Value", "doubleValue", "()D"⟩ : MethodName)) hown (mvT hZ (hw _ (List.mem_of_getElem? (i := 83) rfl))) (mvT hZ (hw _ (List.mem_of_getElem? (i := 84) rfl))) (notFace_of_selects (args := #[]) (mvT hZ (hw _ (List.mem_of_getElem? (i := 86) rfl)))) (mvT hZ (hw _ (List.mem_of_getElem? (i := 86) rfl))) (mvT hZ (hw _ (List.mem_of_getElem? (i := 85) rfl))) (by decide) (backOf (W := 0) (own_rmdv l Z a0 hw [] rrrb1_14_5_254 sI sR sB (FP.i2d p3) T270.heap n0 Z270 fq270_0 fq270_1 f286 Xo270 SI SR SB hRB hIR) hZ (hw _ (List.mem_of_getElem? (i := 87) rfl)) (hw _ (List.mem_of_getElem? (i := 18) rfl)) (by decide) (by decide)) q291a q291c (g := (mkF m 146 #[.val (.long p1), .second, .val (.long p2), .second, .val (.int p3), .val (.int p4), .val (.double (FP.i2d p3)), .second, .val (.int (own_bel p4)), .val (.int (own_via p4)), .val (.ref b6), .val (.int (1 : Int32)), .val (.ref rrrb1_14_5_254), .unset] [(.ref rrrb1_14_5_254)])) rfl (by rw [hml]; rfl) (Steps.refl _) (argsL := []) (rest := []) (lenOf own_pd11 rfl) rfl (by show 2 * 0 + _ ≤ _; exact Nat.le_of_eq rfl) (hb hby at_146) (fun _ _ => ⟨rfl, e288, (by decide : 6 + 0 ≤ _), (by decide : 18 + 0 ≤ _)⟩)
    dsimp only [Pt.U, Pt.locs, Pt.cells, Pt.slots] at X291 l291 y291 z291 st291 hQ291
    subst l291 y291 z291
    obtain ⟨rfl, N291q, Kq291, fq291_0, fq291_1, fq291_2⟩ := hQ291
    have N291 := Fr.app N270 N291q
    have f292 := f271.keep Kq291
    have f293 := f272.keep Kq291 List.not_mem_nil
    have f294 := f273.keep Kq291 List.not_mem_nil
    have f295 := f274.keep Kq291 List.not_mem_nil
    have f296 := f275.keep Kq291 List.not_mem_nil
    have f297 := f276.keep Kq291 List.not_mem_nil
    have f298 := f277.keep Kq291
    have f299 := f278.keep Kq291 List.not_mem_nil
    have f300 := f279.keep Kq291 List.not_mem_nil
    have f301 := f280.keep Kq291 List.not_mem_nil
    have f302 := f281.keep Kq291
    have f303 := f282.keep Kq291 List.not_mem_nil
    have f304 := f283.keep Kq291 List.not_mem_nil
    have f305 := f284.keep Kq291 List.not_mem_nil
    have f306 := f285.keep Kq291 List.not_mem_nil
    have Z291 : n0 ≤ T291.heap.size := Nat.le_trans Z270 Kq291.1
    have K291 : Keep h0 T291.heap [] := K270.trans Kq291 (fun x hx => nomatch hx)
    have Xo291 := Xo270.keep Kq291 all0
    have k307 : ∀ t, Steps p.tables e below (T291.setTop (mkF m 149 #[.val (.long p1), .second, .val (.long p2), .second, .val (.int p3), .val (.int p4), .val (.double (FP.i2d p3)), .second, .val (.int (own_bel p4)), .val (.int (own_via p4)), .val (.ref b6), .val (.int (1 : Int32)), .val (.ref rrrb1_14_5_254), .unset] [(.double (FP.i2d p3))])) t → Steps p.tables e below (s₁.setTop (entryFrame m #[(.long p1), (.long p2), (.int p3), (.int p4)] maxLocals)) t := fun t k => k290 t (st291.trans k)
    have k308 : ∀ t, Steps p.tables e below (T291.setTop (mkF m 164 #[.val (.long p1), .second, .val (.long p2), .second, .val (.int p3), .val (.int p4), .val (.double (FP.i2d p3)), .second, .val (.int (own_bel p4)), .val (.int (own_via p4)), .val (.ref b6), .val (.int (1 : Int32)), .val (.ref rrrb1_14_5_254), .unset] [(.int (own_via p4))])) t → Steps p.tables e below (s₁.setTop (entryFrame m #[(.long p1), (.long p2), (.int p3), (.int p4)] maxLocals)) t := by
      intro t k
      refine k307 t ?_
      show Steps p.tables e below (T291.setTop (mkF m 149 #[.val (.long p1), .second, .val (.long p2), .second, .val (.int p3), .val (.int p4), .val (.double (FP.i2d p3)), .second, .val (.int (own_bel p4)), .val (.int (own_via p4)), .val (.ref b6), .val (.int (1 : Int32)), .val (.ref rrrb1_14_5_254), .unset] [(.double (FP.i2d p3))])) _
      refine XS.dload X291.here hx rfl (hb hby at_149) rfl ?_
      show Steps p.tables e below (T291.setTop (mkF m 151 #[.val (.long p1), .second, .val (.long p2), .second, .val (.int p3), .val (.int p4), .val (.double (FP.i2d p3)), .second, .val (.int (own_bel p4)), .val (.int (own_via p4)), .val (.ref b6), .val (.int (1 : Int32)), .val (.ref rrrb1_14_5_254), .unset] [(.double (FP.i2d p3)), (.double (FP.i2d p3))])) _
      refine XS.dcmpS X291.here hx rfl (hb hby at_151) rfl (dcmpV_self (nn_w (i2d_w p3)) _) ?_
      show Steps p.tables e below (T291.setTop (mkF m 152 #[.val (.long p1), .second, .val (.long p2), .second, .val (.int p3), .val (.int p4), .val (.double (FP.i2d p3)), .second, .val (.int (own_bel p4)), .val (.int (own_via p4)), .val (.ref b6), .val (.int (1 : Int32)), .val (.ref rrrb1_14_5_254), .unset] [(.int (0 : Int32))])) _
      refine XS.ifNo X291.here hx rfl (hb hby at_152) rfl ((if0 _ _).trans (teq (rfl : (0 : Int32) = (0 : Int32))).2) ?_
      show Steps p.tables e below (T291.setTop (mkF m 155 #[.val (.long p1), .second, .val (.long p2), .second, .val (.int p3), .val (.int p4), .val (.double (FP.i2d p3)), .second, .val (.int (own_bel p4)), .val (.int (own_via p4)), .val (.ref b6), .val (.int (1 : Int32)), .val (.ref rrrb1_14_5_254), .unset] [])) _
      refine XS.iconst X291.here hx rfl (hb hby at_155) ?_
      show Steps p.tables e below (T291.setTop (mkF m 156 #[.val (.long p1), .second, .val (.long p2), .second, .val (.int p3), .val (.int p4), .val (.double (FP.i2d p3)), .second, .val (.int (own_bel p4)), .val (.int (own_via p4)), .val (.ref b6), .val (.int (1 : Int32)), .val (.ref rrrb1_14_5_254), .unset] [(.int (1 : Int32))])) _
      refine XS.goto X291.here hx rfl (pc0 := 156) (pc' := 160) rfl (hb hby at_156) (by decide) (by decide) ?_
      show Steps p.tables e below (T291.setTop (mkF m 160 #[.val (.long p1), .second, .val (.long p2), .second, .val (.int p3), .val (.int p4), .val (.double (FP.i2d p3)), .second, .val (.int (own_bel p4)), .val (.int (own_via p4)), .val (.ref b6), .val (.int (1 : Int32)), .val (.ref rrrb1_14_5_254), .unset] [(.int (1 : Int32))])) _
      refine XS.istore X291.here hx rfl (hb hby at_160) rfl (l' := #[.val (.long p1), .second, .val (.long p2), .second, .val (.int p3), .val (.int p4), .val (.double (FP.i2d p3)), .second, .val (.int (own_bel p4)), .val (.int (own_via p4)), .val (.ref b6), .val (.int (1 : Int32)), .val (.ref rrrb1_14_5_254), .unset]) rfl ?_
      show Steps p.tables e below (T291.setTop (mkF m 162 #[.val (.long p1), .second, .val (.long p2), .second, .val (.int p3), .val (.int p4), .val (.double (FP.i2d p3)), .second, .val (.int (own_bel p4)), .val (.int (own_via p4)), .val (.ref b6), .val (.int (1 : Int32)), .val (.ref rrrb1_14_5_254), .unset] [])) _
      refine XS.iload X291.here hx rfl (hb hby at_162) rfl ?_
      exact k
    by_cases hc164_309 : (own_via p4) = (0 : Int32)
    · have k310 : ∀ t, Steps p.tables e below (T291.setTop (mkF m 195 #[.val (.long p1), .second, .val (.long p2), .second, .val (.int p3), .val (.int p4), .val (.double (FP.i2d p3)), .second, .val (.int (own_bel p4)), .val (.int (own_via p4)), .val (.ref b6), .val (.int (1 : Int32)), .val (.ref rrrb1_14_5_254), .unset] [(.ref b6)])) t → Steps p.tables e below (s₁.setTop (entryFrame m #[(.long p1), (.long p2), (.int p3), (.int p4)] maxLocals)) t := by
        intro t k
        refine k308 t ?_
        show Steps p.tables e below (T291.setTop (mkF m 164 #[.val (.long p1), .second, .val (.long p2), .second, .val (.int p3), .val (.int p4), .val (.double (FP.i2d p3)), .second, .val (.int (own_bel p4)), .val (.int (own_via p4)), .val (.ref b6), .val (.int (1 : Int32)), .val (.ref rrrb1_14_5_254), .unset] [(.int (own_via p4))])) _
        refine XS.ifYes X291.here hx rfl (pc0 := 164) (pc' := 193) rfl (hb hby at_164) rfl ((if0 _ _).trans (teq hc164_309).1) (by decide) (by decide) ?_
        show Steps p.tables e below (T291.setTop (mkF m 193 #[.val (.long p1), .second, .val (.long p2), .second, .val (.int p3), .val (.int p4), .val (.double (FP.i2d p3)), .second, .val (.int (own_bel p4)), .val (.int (own_via p4)), .val (.ref b6), .val (.int (1 : Int32)), .val (.ref rrrb1_14_5_254), .unset] [])) _
        refine XS.aload X291.here hx rfl (hb hby at_193) rfl rfl ?_
        exact k
      obtain ⟨cq311, kq311, q311a, q311b, q311c⟩ := isOf hZ rfl f292
      obtain ⟨_, _, ⟨T311, L311, k311c, n311⟩, -, X311, ⟨Lc311, hQ311, l311, y311, z311⟩, st311⟩ := X291.virtualBack hx (y := (⟨"com/example/reckoner/reckoner/OperandStack", "pop", "()Lcom/example/reckoner/reckoner/Value;"⟩ : MethodName)) (z := (⟨"com/example/reckoner/reckoner/OperandStack", "pop", "()Lcom/example/reckoner/reckoner/Value;"⟩ : MethodName)) hown (mvT hZ (hw _ (List.mem_of_getElem? (i := 43) rfl))) (mvT hZ (hw _ (List.mem_of_getElem? (i := 44) rfl))) (notFace_of_selects (args := #[]) (mvT hZ (hw _ (List.mem_of_getElem? (i := 46) rfl)))) (mvT hZ (hw _ (List.mem_of_getElem? (i := 46) rfl))) (mvT hZ (hw _ (List.mem_of_getElem? (i := 45) rfl))) (by decide) (backOf (W := 0) (own_rmpo2n l Z a0 hw [] b6 rb5_12 rb20_12 rc_12c5 rc_12c20 (.ref rb1_169) .null (0 : UInt64) (FP.i2d p3) (0 : UInt64) sR T291.heap n0 Z291 f292 f293 f294 f295 f296 fq254_5 f297 ge6 ge12_b5 ge12_b20 ne13 ne14 nq12_b5_b20 Xo291 SR) hZ (hw _ (List.mem_of_getElem? (i := 47) rfl)) (hw _ (List.mem_of_getElem? (i := 2) rfl)) (by decide) (by decide)) q311a q311c (g := (mkF m 195 #[.val (.long p1), .second, .val (.long p2), .second, .val (.int p3), .val (.int p4), .val (.double (FP.i2d p3)), .second, .val (.int (own_bel p4)), .val (.int (own_via p4)), .val (.ref b6), .val (.int (1 : Int32)), .val (.ref rrrb1_14_5_254), .unset] [(.ref b6)])) rfl (by rw [hml]; rfl) (Steps.refl _) (argsL := []) (rest := []) (lenOf own_pd7 rfl) rfl (by show 2 * 0 + _ ≤ _; exact Nat.le_of_eq rfl) (hb hby at_195) (fun _ _ => ⟨rfl, rfl, (by decide : 6 + 1 ≤ _), (by decide : 18 + 3 ≤ _)⟩)
      dsimp only [Pt.U, Pt.locs, Pt.cells, Pt.slots] at X311 l311 y311 z311 st311 hQ311
      subst l311 y311 z311
      obtain ⟨rrrb1_14_16_311, rfl, N311q, Kq311, gz311_rrb1_14_16, fq311_0, fq311_1, fq311_2, fq311_3, fq311_4, fq311_5, fq311_6, fq311_7, fq311_8, fq311_9, fq311_10⟩ := hQ311
      have N311 := Fr.app N291 N311q
      have ge311_rrb1_14_16 : n0 ≤ rrrb1_14_16_311 := Nat.le_trans Z291 gz311_rrb1_14_16
      have bo311_rrb1_14_16 : h0.size ≤ rrrb1_14_16_311 := Nat.le_trans K291.1 gz311_rrb1_14_16
      have ne312 : b6 ≠ rrrb1_14_16_311 := Nat.ne_of_lt (Nat.lt_of_lt_of_le f292.lt gz311_rrb1_14_16)
      have ne313 : rb1_169 ≠ rrrb1_14_16_311 := Nat.ne_of_lt (Nat.lt_of_lt_of_le f298.lt gz311_rrb1_14_16)
      have ne314 : rb1_186 ≠ rrrb1_14_16_311 := Nat.ne_of_lt (Nat.lt_of_lt_of_le f302.lt gz311_rrb1_14_16)
      have ne315 : rb20_12 ≠ rrrb1_14_16_311 := Nat.ne_of_lt (Nat.lt_of_lt_of_le f297.lt gz311_rrb1_14_16)
      have ne316 : rb5_12 ≠ rrrb1_14_16_311 := Nat.ne_of_lt (Nat.lt_of_lt_of_le f296.lt gz311_rrb1_14_16)
      have ne317 : rrrb1_14_5_254 ≠ rrrb1_14_16_311 := Nat.ne_of_lt (Nat.lt_of_lt_of_le fq291_0.lt gz311_rrb1_14_16)
      have f318 := f298.keep Kq311
      have f319 := f299.keep Kq311 (List.not_mem_cons_of_ne_of_not_mem (Ne.symm ne170) List.not_mem_nil)
      have f320 := f300.keep Kq311 (List.not_mem_cons_of_ne_of_not_mem (Ne.symm ne170) List.not_mem_nil)
      have f321 := f301.keep Kq311 (List.not_mem_cons_of_ne_of_not_mem (Ne.symm ne170) List.not_mem_nil)
      have f322 := f302.keep Kq311
      have f323 := f303.keep Kq311 (List.not_mem_cons_of_ne_of_not_mem (Ne.symm ne187) List.not_mem_nil)
      have f324 := f304.keep Kq311 (List.not_mem_cons_of_ne_of_not_mem (Ne.symm ne187) List.not_mem_nil)
      have f325 := f305.keep Kq311 (List.not_mem_cons_of_ne_of_not_mem (Ne.symm ne187) List.not_mem_nil)
      have f326 := fq291_0.keep Kq311
      have f327 := fq291_1.keep Kq311 (List.not_mem_cons_of_ne_of_not_mem (Ne.symm ne255) List.not_mem_nil)
      have f328 := f306.keep Kq311 (List.not_mem_cons_of_ne_of_not_mem (Ne.symm ne255) List.not_mem_nil)
      have f329 := fq291_2.keep Kq311 (List.not_mem_cons_of_ne_of_not_mem (Ne.symm ne255) List.not_mem_nil)
      have Z311 : n0 ≤ T311.heap.size := Nat.le_trans Z291 Kq311.1
      have K311 : Keep h0 T311.heap [] := K291.trans Kq311 (fun x hx => by rcases List.mem_cons.mp hx with rfl | hx; exact Or.inr bo6; exact nomatch hx)
      have Xo311 := Xo291.keep Kq311 (allS ge6 all0)
      have k330 : ∀ t, Steps p.tables e below (T311.setTop (mkF m 198 #[.val (.long p1), .second, .val (.long p2), .second, .val (.int p3), .val (.int p4), .val (.double (FP.i2d p3)), .second, .val (.int (own_bel p4)), .val (.int (own_via p4)), .val (.ref b6), .val (.int (1 : Int32)), .val (.ref rrrb1_14_5_254), .unset] [(.ref rrrb1_14_16_311)])) t → Steps p.tables e below (s₁.setTop (entryFrame m #[(.long p1), (.long p2), (.int p3), (.int p4)] maxLocals)) t := fun t k => k310 t (st311.trans k)
      have k331 : ∀ t, Steps p.tables e below (T311.setTop (mkF m 207 #[.val (.long p1), .second, .val (.long p2), .second, .val (.int p3), .val (.int p4), .val (.double (FP.i2d p3)), .second, .val (.int (own_bel p4)), .val (.int (own_via p4)), .val (.ref b6), .val (.int (1 : Int32)), .val (.ref rrrb1_14_5_254), .val (.ref rrrb1_14_16_311)] [(.ref rrrb1_14_16_311)])) t → Steps p.tables e below (s₁.setTop (entryFrame m #[(.long p1), (.long p2), (.int p3), (.int p4)] maxLocals)) t := by
        intro t k
        refine k330 t ?_
        show Steps p.tables e below (T311.setTop (mkF m 198 #[.val (.long p1), .second, .val (.long p2), .second, .val (.int p3), .val (.int p4), .val (.double (FP.i2d p3)), .second, .val (.int (own_bel p4)), .val (.int (own_via p4)), .val (.ref b6), .val (.int (1 : Int32)), .val (.ref rrrb1_14_5_254), .unset] [(.ref rrrb1_14_16_311)])) _
        refine XS.astore X311.here hx rfl (hb hby at_198) rfl rfl (l' := #[.val (.long p1), .second, .val (.long p2), .second, .val (.int p3), .val (.int p4), .val (.double (FP.i2d p3)), .second, .val (.int (own_bel p4)), .val (.int (own_via p4)), .val (.ref b6), .val (.int (1 : Int32)), .val (.ref rrrb1_14_5_254), .val (.ref rrrb1_14_16_311)]) rfl ?_
        show Steps p.tables e below (T311.setTop (mkF m 200 #[.val (.long p1), .second, .val (.long p2), .second, .val (.int p3), .val (.int p4), .val (.double (FP.i2d p3)), .second, .val (.int (own_bel p4)), .val (.int (own_via p4)), .val (.ref b6), .val (.int (1 : Int32)), .val (.ref rrrb1_14_5_254), .val (.ref rrrb1_14_16_311)] [])) _
        refine XS.iload X311.here hx rfl (hb hby at_200) rfl ?_
        show Steps p.tables e below (T311.setTop (mkF m 202 #[.val (.long p1), .second, .val (.long p2), .second, .val (.int p3), .val (.int p4), .val (.double (FP.i2d p3)), .second, .val (.int (own_bel p4)), .val (.int (own_via p4)), .val (.ref b6), .val (.int (1 : Int32)), .val (.ref rrrb1_14_5_254), .val (.ref rrrb1_14_16_311)] [(.int (1 : Int32))])) _
        refine XS.ifNo X311.here hx rfl (hb hby at_202) rfl ((if0 _ _).trans (feq (by decide : ¬ ((1 : Int32) = (0 : Int32)))).1) ?_
        show Steps p.tables e below (T311.setTop (mkF m 205 #[.val (.long p1), .second, .val (.long p2), .second, .val (.int p3), .val (.int p4), .val (.double (FP.i2d p3)), .second, .val (.int (own_bel p4)), .val (.int (own_via p4)), .val (.ref b6), .val (.int (1 : Int32)), .val (.ref rrrb1_14_5_254), .val (.ref rrrb1_14_16_311)] [])) _
        refine XS.aload X311.here hx rfl (hb hby at_205) rfl rfl ?_
        exact k
      obtain ⟨cq332, kq332, q332a, q332b, q332c⟩ := isOf hZ rfl fq311_7
      obtain ⟨_, _, ⟨T332, L332, k332c, n332⟩, -, X332, ⟨Lc332, hQ332, l332, y332, z332⟩, st332⟩ := X311.virtualBack hx (y := (⟨"com/example/reckoner/reckoner/Value", "type", "()Lcom/example/reckoner/reckoner/Value$Type;"⟩ : MethodName)) (z := (⟨"com/example/reckoner/reckoner/Value", "type", "()Lcom/example/reckoner/reckoner/Value$Type;"⟩ : MethodName)) hown (mvT hZ (hw _ (List.mem_of_getElem? (i := 77) rfl))) (mvT hZ (hw _ (List.mem_of_getElem? (i := 78) rfl))) (notFace_of_selects (args := #[]) (mvT hZ (hw _ (List.mem_of_getElem? (i := 80) rfl)))) (mvT hZ (hw _ (List.mem_of_getElem? (i := 80) rfl))) (mvT hZ (hw _ (List.mem_of_getElem? (i := 79) rfl))) (by decide) (backOf (W := 0) (own_rmty l Z a0 hw [] rrrb1_14_16_311 sR T311.heap n0 Z311 fq311_7 fq311_8 Xo311 SR) hZ (hw _ (List.mem_of_getElem? (i := 81) rfl)) (hw _ (List.mem_of_getElem? (i := 18) rfl)) (by decide) (by decide)) q332a q332c (g := (mkF m 207 #[.val (.long p1), .second, .val (.long p2), .second, .val (.int p3), .val (.int p4), .val (.double (FP.i2d p3)), .second, .val (.int (own_bel p4)), .val (.int (own_via p4)), .val (.ref b6), .val (.int (1 : Int32)), .val (.ref rrrb1_14_5_254), .val (.ref rrrb1_14_16_311)] [(.ref rrrb1_14_16_311)])) rfl (by rw [hml]; rfl) (Steps.refl _) (argsL := []) (rest := []) (lenOf own_pd10 rfl) rfl (by show 2 * 0 + _ ≤ _; exact Nat.le_of_eq rfl) (hb hby at_207) (fun _ _ => ⟨rfl, rfl, (by decide : 7 + 0 ≤ _), (by decide : 21 + 0 ≤ _)⟩)
      dsimp only [Pt.U, Pt.locs, Pt.cells, Pt.slots] at X332 l332 y332 z332 st332 hQ332
      subst l332 y332 z332
      obtain ⟨rfl, N332q, Kq332, fq332_0, fq332_1⟩ := hQ332
      have N332 := Fr.app N311 N332q
      have f333 := fq311_0.keep Kq332
      have f334 := fq311_1.keep Kq332 List.not_mem_nil
      have f335 := fq311_2.keep Kq332 List.not_mem_nil
      have f336 := fq311_3.keep Kq332 List.not_mem_nil
      have f337 := fq311_4.keep Kq332 List.not_mem_nil
      have f338 := fq311_6.keep Kq332 List.not_mem_nil
      have f339 := f318.keep Kq332
      have f340 := f319.keep Kq332 List.not_mem_nil
      have f341 := f320.keep Kq332 List.not_mem_nil
      have f342 := f321.keep Kq332 List.not_mem_nil
      have f343 := f322.keep Kq332
      have f344 := f323.keep Kq332 List.not_mem_nil
      have f345 := f324.keep Kq332 List.not_mem_nil
      have f346 := f325.keep Kq332 List.not_mem_nil
      have f347 := f326.keep Kq332
      have f348 := f327.keep Kq332 List.not_mem_nil
      have f349 := f328.keep Kq332 List.not_mem_nil
      have f350 := f329.keep Kq332 List.not_mem_nil
      have f351 := fq311_9.keep Kq332 List.not_mem_nil
      have f352 := fq311_10.keep Kq332 List.not_mem_nil
      have Z332 : n0 ≤ T332.heap.size := Nat.le_trans Z311 Kq332.1
      have K332 : Keep h0 T332.heap [] := K311.trans Kq332 (fun x hx => nomatch hx)
      have Xo332 := Xo311.keep Kq332 all0
      have k353 : ∀ t, Steps p.tables e below (T332.setTop (mkF m 210 #[.val (.long p1), .second, .val (.long p2), .second, .val (.int p3), .val (.int p4), .val (.double (FP.i2d p3)), .second, .val (.int (own_bel p4)), .val (.int (own_via p4)), .val (.ref b6), .val (.int (1 : Int32)), .val (.ref rrrb1_14_5_254), .val (.ref rrrb1_14_16_311)] [(.ref sR)])) t → Steps p.tables e below (s₁.setTop (entryFrame m #[(.long p1), (.long p2), (.int p3), (.int p4)] maxLocals)) t := fun t k => k331 t (st332.trans k)
      obtain ⟨T354, X354, e354, st354⟩ := getS2 X332 hx hZ hown (host := "") (Or.inl (hw _ (List.mem_of_getElem? (i := 82) rfl))) Via.refl rfl (SR.ext Xo332.2) (g := (mkF m 210 #[.val (.long p1), .second, .val (.long p2), .second, .val (.int p3), .val (.int p4), .val (.double (FP.i2d p3)), .second, .val (.int (own_bel p4)), .val (.int (own_via p4)), .val (.ref b6), .val (.int (1 : Int32)), .val (.ref rrrb1_14_5_254), .val (.ref rrrb1_14_16_311)] [(.ref sR)])) rfl (hb hby at_210)
      have k355 : ∀ t, Steps p.tables e below (T354.setTop (mkF m 213 #[.val (.long p1), .second, .val (.long p2), .second, .val (.int p3), .val (.int p4), .val (.double (FP.i2d p3)), .second, .val (.int (own_bel p4)), .val (.int (own_via p4)), .val (.ref b6), .val (.int (1 : Int32)), .val (.ref rrrb1_14_5_254), .val (.ref rrrb1_14_16_311)] [(.ref sR), (.ref sR)])) t → Steps p.tables e below (s₁.setTop (entryFrame m #[(.long p1), (.long p2), (.int p3), (.int p4)] maxLocals)) t := fun t k => k353 t (st354 t k)
      have k356 : ∀ t, Steps p.tables e below (T354.setTop (mkF m 218 #[.val (.long p1), .second, .val (.long p2), .second, .val (.int p3), .val (.int p4), .val (.double (FP.i2d p3)), .second, .val (.int (own_bel p4)), .val (.int (own_via p4)), .val (.ref b6), .val (.int (1 : Int32)), .val (.ref rrrb1_14_5_254), .val (.ref rrrb1_14_16_311)] [(.ref rrrb1_14_16_311)])) t → Steps p.tables e below (s₁.setTop (entryFrame m #[(.long p1), (.long p2), (.int p3), (.int p4)] maxLocals)) t := by
        intro t k
        refine k355 t ?_
        show Steps p.tables e below (T354.setTop (mkF m 213 #[.val (.long p1), .second, .val (.long p2), .second, .val (.int p3), .val (.int p4), .val (.double (FP.i2d p3)), .second, .val (.int (own_bel p4)), .val (.int (own_via p4)), .val (.ref b6), .val (.int (1 : Int32)), .val (.ref rrrb1_14_5_254), .val (.ref rrrb1_14_16_311)] [(.ref sR), (.ref sR)])) _
        refine Jvm.RoadKit.acmp (g := (mkF m 213 #[.val (.long p1), .second, .val (.long p2), .second, .val (.int p3), .val (.int p4), .val (.double (FP.i2d p3)), .second, .val (.int (own_bel p4)), .val (.int (own_via p4)), .val (.ref b6), .val (.int (1 : Int32)), .val (.ref rrrb1_14_5_254), .val (.ref rrrb1_14_16_311)] [(.ref sR), (.ref sR)])) X354 hx rfl rfl rfl (pc0 := 213) (pc' := 216) (same := true) rfl (hb hby at_213) rfl (decide_eq_true rfl) (by decide) (by decide) ?_
        show Steps p.tables e below (T354.setTop (mkF m 216 #[.val (.long p1), .second, .val (.long p2), .second, .val (.int p3), .val (.int p4), .val (.double (FP.i2d p3)), .second, .val (.int (own_bel p4)), .val (.int (own_via p4)), .val (.ref b6), .val (.int (1 : Int32)), .val (.ref rrrb1_14_5_254), .val (.ref rrrb1_14_16_311)] [])) _
        refine XS.aload X354.here hx rfl (hb hby at_216) rfl rfl ?_
        exact k
      obtain ⟨cq357, kq357, q357a, q357b, q357c⟩ := isOf hZ e354 fq332_0
      obtain ⟨_, _, ⟨T357, L357, k357c, n357⟩, -, X357, ⟨Lc357, hQ357, l357, y357, z357⟩, st357⟩ := X354.virtualBack hx (y := (⟨"com/example/reckoner/reckoner/Value", "doubleValue", "()D"⟩ : MethodName)) (z := (⟨"com/example/reckoner/reckoner/Value", "doubleValue", "()D"⟩ : MethodName)) hown (mvT hZ (hw _ (List.mem_of_getElem? (i := 83) rfl))) (mvT hZ (hw _ (List.mem_of_getElem? (i := 84) rfl))) (notFace_of_selects (args := #[]) (mvT hZ (hw _ (List.mem_of_getElem? (i := 86) rfl)))) (mvT hZ (hw _ (List.mem_of_getElem? (i := 86) rfl))) (mvT hZ (hw _ (List.mem_of_getElem? (i := 85) rfl))) (by decide) (backOf (W := 0) (own_rmdv l Z a0 hw [] rrrb1_14_16_311 sI sR sB (FP.i2d p3) T332.heap n0 Z332 fq332_0 fq332_1 f352 Xo332 SI SR SB hRB hIR) hZ (hw _ (List.mem_of_getElem? (i := 87) rfl)) (hw _ (List.mem_of_getElem? (i := 18) rfl)) (by decide) (by decide)) q357a q357c (g := (mkF m 218 #[.val (.long p1), .second, .val (.long p2), .second, .val (.int p3), .val (.int p4), .val (.double (FP.i2d p3)), .second, .val (.int (own_bel p4)), .val (.int (own_via p4)), .val (.ref b6), .val (.int (1 : Int32)), .val (.ref rrrb1_14_5_254), .val (.ref rrrb1_14_16_311)] [(.ref rrrb1_14_16_311)])) rfl (by rw [hml]; rfl) (Steps.refl _) (argsL := []) (rest := []) (lenOf own_pd11 rfl) rfl (by show 2 * 0 + _ ≤ _; exact Nat.le_of_eq rfl) (hb hby at_218) (fun _ _ => ⟨rfl, e354, (by decide : 7 + 0 ≤ _), (by decide : 21 + 0 ≤ _)⟩)
      dsimp only [Pt.U, Pt.locs, Pt.cells, Pt.slots] at X357 l357 y357 z357 st357 hQ357
      subst l357 y357 z357
      obtain ⟨rfl, N357q, Kq357, fq357_0, fq357_1, fq357_2⟩ := hQ357
      have N357 := Fr.app N332 N357q
      have f358 := f333.keep Kq357
      have f359 := f334.keep Kq357 List.not_mem_nil
      have f360 := f335.keep Kq357 List.not_mem_nil
      have f361 := f336.keep Kq357 List.not_mem_nil
      have f362 := f337.keep Kq357 List.not_mem_nil
      have f363 := f338.keep Kq357 List.not_mem_nil
      have f364 := f339.keep Kq357
      have f365 := f340.keep Kq357 List.not_mem_nil
      have f366 := f341.keep Kq357 List.not_mem_nil
      have f367 := f342.keep Kq357 List.not_mem_nil
      have f368 := f343.keep Kq357
      have f369 := f344.keep Kq357 List.not_mem_nil
      have f370 := f345.keep Kq357 List.not_mem_nil
      have f371 := f346.keep Kq357 List.not_mem_nil
      have f372 := f347.keep Kq357
      have f373 := f348.keep Kq357 List.not_mem_nil
      have f374 := f349.keep Kq357 List.not_mem_nil
      have f375 := f350.keep Kq357 List.not_mem_nil
      have f376 := f351.keep Kq357 List.not_mem_nil
      have Z357 : n0 ≤ T357.heap.size := Nat.le_trans Z332 Kq357.1
      have K357 : Keep h0 T357.heap [] := K332.trans Kq357 (fun x hx => nomatch hx)
      have Xo357 := Xo332.keep Kq357 all0
      have k377 : ∀ t, Steps p.tables e below (T357.setTop (mkF m 221 #[.val (.long p1), .second, .val (.long p2), .second, .val (.int p3), .val (.int p4), .val (.double (FP.i2d p3)), .second, .val (.int (own_bel p4)), .val (.int (own_via p4)), .val (.ref b6), .val (.int (1 : Int32)), .val (.ref rrrb1_14_5_254), .val (.ref rrrb1_14_16_311)] [(.double (FP.i2d p3))])) t → Steps p.tables e below (s₁.setTop (entryFrame m #[(.long p1), (.long p2), (.int p3), (.int p4)] maxLocals)) t := fun t k => k356 t (st357.trans k)
      have k378 : ∀ t, Steps p.tables e below (T357.setTop (mkF m 241 #[.val (.long p1), .second, .val (.long p2), .second, .val (.int p3), .val (.int p4), .val (.double (FP.i2d p3)), .second, .val (.int (own_bel p4)), .val (.int (own_via p4)), .val (.ref b6), .val (.int (1 : Int32)), .val (.ref rrrb1_14_5_254), .val (.ref rrrb1_14_16_311)] [(.ref b6)])) t → Steps p.tables e below (s₁.setTop (entryFrame m #[(.long p1), (.long p2), (.int p3), (.int p4)] maxLocals)) t := by
        intro t k
        refine k377 t ?_
        show Steps p.tables e below (T357.setTop (mkF m 221 #[.val (.long p1), .second, .val (.long p2), .second, .val (.int p3), .val (.int p4), .val (.double (FP.i2d p3)), .second, .val (.int (own_bel p4)), .val (.int (own_via p4)), .val (.ref b6), .val (.int (1 : Int32)), .val (.ref rrrb1_14_5_254), .val (.ref rrrb1_14_16_311)] [(.double (FP.i2d p3))])) _
        refine XS.dload X357.here hx rfl (hb hby at_221) rfl ?_
        show Steps p.tables e below (T357.setTop (mkF m 223 #[.val (.long p1), .second, .val (.long p2), .second, .val (.int p3), .val (.int p4), .val (.double (FP.i2d p3)), .second, .val (.int (own_bel p4)), .val (.int (own_via p4)), .val (.ref b6), .val (.int (1 : Int32)), .val (.ref rrrb1_14_5_254), .val (.ref rrrb1_14_16_311)] [(.double (FP.i2d p3)), (.double (FP.i2d p3))])) _
        refine XS.dcmpS X357.here hx rfl (hb hby at_223) rfl (dcmpV_self (nn_w (i2d_w p3)) _) ?_
        show Steps p.tables e below (T357.setTop (mkF m 224 #[.val (.long p1), .second, .val (.long p2), .second, .val (.int p3), .val (.int p4), .val (.double (FP.i2d p3)), .second, .val (.int (own_bel p4)), .val (.int (own_via p4)), .val (.ref b6), .val (.int (1 : Int32)), .val (.ref rrrb1_14_5_254), .val (.ref rrrb1_14_16_311)] [(.int (0 : Int32))])) _
        refine XS.ifNo X357.here hx rfl (hb hby at_224) rfl ((if0 _ _).trans (teq (rfl : (0 : Int32) = (0 : Int32))).2) ?_
        show Steps p.tables e below (T357.setTop (mkF m 227 #[.val (.long p1), .second, .val (.long p2), .second, .val (.int p3), .val (.int p4), .val (.double (FP.i2d p3)), .second, .val (.int (own_bel p4)), .val (.int (own_via p4)), .val (.ref b6), .val (.int (1 : Int32)), .val (.ref rrrb1_14_5_254), .val (.ref rrrb1_14_16_311)] [])) _
        refine XS.iconst X357.here hx rfl (hb hby at_227) ?_
        show Steps p.tables e below (T357.setTop (mkF m 228 #[.val (.long p1), .second, .val (.long p2), .second, .val (.int p3), .val (.int p4), .val (.double (FP.i2d p3)), .second, .val (.int (own_bel p4)), .val (.int (own_via p4)), .val (.ref b6), .val (.int (1 : Int32)), .val (.ref rrrb1_14_5_254), .val (.ref rrrb1_14_16_311)] [(.int (1 : Int32))])) _
        refine XS.goto X357.here hx rfl (pc0 := 228) (pc' := 232) rfl (hb hby at_228) (by decide) (by decide) ?_
        show Steps p.tables e below (T357.setTop (mkF m 232 #[.val (.long p1), .second, .val (.long p2), .second, .val (.int p3), .val (.int p4), .val (.double (FP.i2d p3)), .second, .val (.int (own_bel p4)), .val (.int (own_via p4)), .val (.ref b6), .val (.int (1 : Int32)), .val (.ref rrrb1_14_5_254), .val (.ref rrrb1_14_16_311)] [(.int (1 : Int32))])) _
        refine XS.istore X357.here hx rfl (hb hby at_232) rfl (l' := #[.val (.long p1), .second, .val (.long p2), .second, .val (.int p3), .val (.int p4), .val (.double (FP.i2d p3)), .second, .val (.int (own_bel p4)), .val (.int (own_via p4)), .val (.ref b6), .val (.int (1 : Int32)), .val (.ref rrrb1_14_5_254), .val (.ref rrrb1_14_16_311)]) rfl ?_
        show Steps p.tables e below (T357.setTop (mkF m 234 #[.val (.long p1), .second, .val (.long p2), .second, .val (.int p3), .val (.int p4), .val (.double (FP.i2d p3)), .second, .val (.int (own_bel p4)), .val (.int (own_via p4)), .val (.ref b6), .val (.int (1 : Int32)), .val (.ref rrrb1_14_5_254), .val (.ref rrrb1_14_16_311)] [])) _
        refine XS.iload X357.here hx rfl (hb hby at_234) rfl ?_
        show Steps p.tables e below (T357.setTop (mkF m 236 #[.val (.long p1), .second, .val (.long p2), .second, .val (.int p3), .val (.int p4), .val (.double (FP.i2d p3)), .second, .val (.int (own_bel p4)), .val (.int (own_via p4)), .val (.ref b6), .val (.int (1 : Int32)), .val (.ref rrrb1_14_5_254), .val (.ref rrrb1_14_16_311)] [(.int (own_bel p4))])) _
        refine XS.ifNo X357.here hx rfl (hb hby at_236) rfl ((if0 _ _).trans (feq hc45_17).1) ?_
        show Steps p.tables e below (T357.setTop (mkF m 239 #[.val (.long p1), .second, .val (.long p2), .second, .val (.int p3), .val (.int p4), .val (.double (FP.i2d p3)), .second, .val (.int (own_bel p4)), .val (.int (own_via p4)), .val (.ref b6), .val (.int (1 : Int32)), .val (.ref rrrb1_14_5_254), .val (.ref rrrb1_14_16_311)] [])) _
        refine XS.aload X357.here hx rfl (hb hby at_239) rfl rfl ?_
        exact k
      obtain ⟨cq379, kq379, q379a, q379b, q379c⟩ := isOf hZ rfl f358
      obtain ⟨_, _, ⟨T379, L379, k379c, n379⟩, -, X379, ⟨Lc379, hQ379, l379, y379, z379⟩, st379⟩ := X357.virtualBack hx (y := (⟨"com/example/reckoner/reckoner/OperandStack", "pop", "()Lcom/example/reckoner/reckoner/Value;"⟩ : MethodName)) (z := (⟨"com/example/reckoner/reckoner/OperandStack", "pop", "()Lcom/example/reckoner/reckoner/Value;"⟩ : MethodName)) hown (mvT hZ (hw _ (List.mem_of_getElem? (i := 43) rfl))) (mvT hZ (hw _ (List.mem_of_getElem? (i := 44) rfl))) (notFace_of_selects (args := #[]) (mvT hZ (hw _ (List.mem_of_getElem? (i := 46) rfl)))) (mvT hZ (hw _ (List.mem_of_getElem? (i := 46) rfl))) (mvT hZ (hw _ (List.mem_of_getElem? (i := 45) rfl))) (by decide) (backOf (W := 0) (own_rmpo1o l Z a0 hw [] b6 rb5_12 rb20_12 rc_12c5 rc_12c20 rb1_169 .null .null (0 : UInt64) (FP.i2d p3) (0 : UInt64) T357.heap n0 Z357 f358 f359 f360 f361 f362 fq311_5 f363 ge6 ge12_b5 ge12_b20 ne13 ne14 nq12_b5_b20) hZ (hw _ (List.mem_of_getElem? (i := 47) rfl)) (hw _ (List.mem_of_getElem? (i := 2) rfl)) (by decide) (by decide)) q379a q379c (g := (mkF m 241 #[.val (.long p1), .second, .val (.long p2), .second, .val (.int p3), .val (.int p4), .val (.double (FP.i2d p3)), .second, .val (.int (own_bel p4)), .val (.int (own_via p4)), .val (.ref b6), .val (.int (1 : Int32)), .val (.ref rrrb1_14_5_254), .val (.ref rrrb1_14_16_311)] [(.ref b6)])) rfl (by rw [hml]; rfl) (Steps.refl _) (argsL := []) (rest := []) (lenOf own_pd7 rfl) rfl (by show 2 * 0 + _ ≤ _; exact Nat.le_of_eq rfl) (hb hby at_241) (fun _ _ => ⟨rfl, rfl, (by decide : 7 + 0 ≤ _), (by decide : 21 + 0 ≤ _)⟩)
      dsimp only [Pt.U, Pt.locs, Pt.cells, Pt.slots] at X379 l379 y379 z379 st379 hQ379
      subst l379 y379 z379
      obtain ⟨rfl, N379q, Kq379, fq379_0, fq379_1, fq379_2, fq379_3, fq379_4, fq379_5, fq379_6⟩ := hQ379
      have N379 := Fr.app N357 N379q
      have f380 := f364.keep Kq379
      have f381 := f365.keep Kq379 (List.not_mem_cons_of_ne_of_not_mem (Ne.symm ne170) List.not_mem_nil)
      have f382 := f366.keep Kq379 (List.not_mem_cons_of_ne_of_not_mem (Ne.symm ne170) List.not_mem_nil)
      have f383 := f367.keep Kq379 (List.not_mem_cons_of_ne_of_not_mem (Ne.symm ne170) List.not_mem_nil)
      have f384 := f368.keep Kq379
      have f385 := f369.keep Kq379 (List.not_mem_cons_of_ne_of_not_mem (Ne.symm ne187) List.not_mem_nil)
      have f386 := f370.keep Kq379 (List.not_mem_cons_of_ne_of_not_mem (Ne.symm ne187) List.not_mem_nil)
      have f387 := f371.keep Kq379 (List.not_mem_cons_of_ne_of_not_mem (Ne.symm ne187) List.not_mem_nil)
      have f388 := f372.keep Kq379
      have f389 := f373.keep Kq379 (List.not_mem_cons_of_ne_of_not_mem (Ne.symm ne255) List.not_mem_nil)
      have f390 := f374.keep Kq379 (List.not_mem_cons_of_ne_of_not_mem (Ne.symm ne255) List.not_mem_nil)
      have f391 := f375.keep Kq379 (List.not_mem_cons_of_ne_of_not_mem (Ne.symm ne255) List.not_mem_nil)
      have f392 := fq357_0.keep Kq379
      have f393 := fq357_1.keep Kq379 (List.not_mem_cons_of_ne_of_not_mem (Ne.symm ne312) List.not_mem_nil)
      have f394 := f376.keep Kq379 (List.not_mem_cons_of_ne_of_not_mem (Ne.symm ne312) List.not_mem_nil)
      have f395 := fq357_2.keep Kq379 (List.not_mem_cons_of_ne_of_not_mem (Ne.symm ne312) List.not_mem_nil)
      have Z379 : n0 ≤ T379.heap.size := Nat.le_trans Z357 Kq379.1
      have K379 : Keep h0 T379.heap [] := K357.trans Kq379 (fun x hx => by rcases List.mem_cons.mp hx with rfl | hx; exact Or.inr bo6; exact nomatch hx)
      have Xo379 := Xo357.keep Kq379 (allS ge6 all0)
      have k396 : ∀ t, Steps p.tables e below (T379.setTop (mkF m 244 #[.val (.long p1), .second, .val (.long p2), .second, .val (.int p3), .val (.int p4), .val (.double (FP.i2d p3)), .second, .val (.int (own_bel p4)), .val (.int (own_via p4)), .val (.ref b6), .val (.int (1 : Int32)), .val (.ref rrrb1_14_5_254), .val (.ref rrrb1_14_16_311)] [(.ref rb1_169)])) t → Steps p.tables e below (s₁.setTop (entryFrame m #[(.long p1), (.long p2), (.int p3), (.int p4)] maxLocals)) t := fun t k => k378 t (st379.trans k)
      have k397 : ∀ t, Steps p.tables e below (T379.setTop (mkF m 253 #[.val (.long p1), .second, .val (.long p2), .second, .val (.int p3), .val (.int p4), .val (.double (FP.i2d p3)), .second, .val (.int (own_bel p4)), .val (.int (own_via p4)), .val (.ref b6), .val (.int (1 : Int32)), .val (.ref rrrb1_14_5_254), .val (.ref rb1_169)] [(.ref rb1_169)])) t → Steps p.tables e below (s₁.setTop (entryFrame m #[(.long p1), (.long p2), (.int p3), (.int p4)] maxLocals)) t := by
        intro t k
        refine k396 t ?_
        show Steps p.tables e below (T379.setTop (mkF m 244 #[.val (.long p1), .second, .val (.long p2), .second, .val (.int p3), .val (.int p4), .val (.double (FP.i2d p3)), .second, .val (.int (own_bel p4)), .val (.int (own_via p4)), .val (.ref b6), .val (.int (1 : Int32)), .val (.ref rrrb1_14_5_254), .val (.ref rrrb1_14_16_311)] [(.ref rb1_169)])) _
        refine XS.astore X379.here hx rfl (hb hby at_244) rfl rfl (l' := #[.val (.long p1), .second, .val (.long p2), .second, .val (.int p3), .val (.int p4), .val (.double (FP.i2d p3)), .second, .val (.int (own_bel p4)), .val (.int (own_via p4)), .val (.ref b6), .val (.int (1 : Int32)), .val (.ref rrrb1_14_5_254), .val (.ref rb1_169)]) rfl ?_
        show Steps p.tables e below (T379.setTop (mkF m 246 #[.val (.long p1), .second, .val (.long p2), .second, .val (.int p3), .val (.int p4), .val (.double (FP.i2d p3)), .second, .val (.int (own_bel p4)), .val (.int (own_via p4)), .val (.ref b6), .val (.int (1 : Int32)), .val (.ref rrrb1_14_5_254), .val (.ref rb1_169)] [])) _
        refine XS.iload X379.here hx rfl (hb hby at_246) rfl ?_
        show Steps p.tables e below (T379.setTop (mkF m 248 #[.val (.long p1), .second, .val (.long p2), .second, .val (.int p3), .val (.int p4), .val (.double (FP.i2d p3)), .second, .val (.int (own_bel p4)), .val (.int (own_via p4)), .val (.ref b6), .val (.int (1 : Int32)), .val (.ref rrrb1_14_5_254), .val (.ref rb1_169)] [(.int (1 : Int32))])) _
        refine XS.ifNo X379.here hx rfl (hb hby at_248) rfl ((if0 _ _).trans (feq (by decide : ¬ ((1 : Int32) = (0 : Int32)))).1) ?_
        show Steps p.tables e below (T379.setTop (mkF m 251 #[.val (.long p1), .second, .val (.long p2), .second, .val (.int p3), .val (.int p4), .val (.double (FP.i2d p3)), .second, .val (.int (own_bel p4)), .val (.int (own_via p4)), .val (.ref b6), .val (.int (1 : Int32)), .val (.ref rrrb1_14_5_254), .val (.ref rb1_169)] [])) _
        refine XS.aload X379.here hx rfl (hb hby at_251) rfl rfl ?_
        exact k
      obtain ⟨cq398, kq398, q398a, q398b, q398c⟩ := isOf hZ rfl f380
      obtain ⟨_, _, ⟨T398, L398, k398c, n398⟩, -, X398, ⟨Lc398, hQ398, l398, y398, z398⟩, st398⟩ := X379.virtualBack hx (y := (⟨"com/example/reckoner/reckoner/Value", "isInteger", "()Z"⟩ : MethodName)) (z := (⟨"com/example/reckoner/reckoner/Value", "isInteger", "()Z"⟩ : MethodName)) hown (mvT hZ (hw _ (List.mem_of_getElem? (i := 95) rfl))) (mvT hZ (hw _ (List.mem_of_getElem? (i := 63) rfl))) (notFace_of_selects (args := #[]) (mvT hZ (hw _ (List.mem_of_getElem? (i := 65) rfl)))) (mvT hZ (hw _ (List.mem_of_getElem? (i := 65) rfl))) (mvT hZ (hw _ (List.mem_of_getElem? (i := 64) rfl))) (by decide) (backOf (W := 0) (own_rmii l Z a0 hw [] rb1_169 sI T379.heap n0 Z379 f380 f381 Xo379 SI) hZ (hw _ (List.mem_of_getElem? (i := 66) rfl)) (hw _ (List.mem_of_getElem? (i := 18) rfl)) (by decide) (by decide)) q398a q398c (g := (mkF m 253 #[.val (.long p1), .second, .val (.long p2), .second, .val (.int p3), .val (.int p4), .val (.double (FP.i2d p3)), .second, .val (.int (own_bel p4)), .val (.int (own_via p4)), .val (.ref b6), .val (.int (1 : Int32)), .val (.ref rrrb1_14_5_254), .val (.ref rb1_169)] [(.ref rb1_169)])) rfl (by rw [hml]; rfl) (Steps.refl _) (argsL := []) (rest := []) (lenOf own_pd3 rfl) rfl (by show 2 * 0 + _ ≤ _; exact Nat.le_of_eq rfl) (hb hby at_253) (fun _ _ => ⟨rfl, rfl, (by decide : 7 + 0 ≤ _), (by decide : 21 + 0 ≤ _)⟩)
      dsimp only [Pt.U, Pt.locs, Pt.cells, Pt.slots] at X398 l398 y398 z398 st398 hQ398
      subst l398 y398 z398
      obtain ⟨rfl, N398q, Kq398, fq398_0, fq398_1⟩ := hQ398
      have N398 := Fr.app N379 N398q
      have f399 := fq379_0.keep Kq398
      have f400 := fq379_1.keep Kq398 List.not_mem_nil
      have f401 := fq379_2.keep Kq398 List.not_mem_nil
      have f402 := fq379_3.keep Kq398 List.not_mem_nil
      have f403 := fq379_4.keep Kq398 List.not_mem_nil
      have f404 := fq379_6.keep Kq398 List.not_mem_nil
      have f405 := f382.keep Kq398 List.not_mem_nil
      have f406 := f383.keep Kq398 List.not_mem_nil
      have f407 := f384.keep Kq398
      have f408 := f385.keep Kq398 List.not_mem_nil
      have f409 := f386.keep Kq398 List.not_mem_nil
      have f410 := f387.keep Kq398 List.not_mem_nil
      have f411 := f388.keep Kq398
      have f412 := f389.keep Kq398 List.not_mem_nil
      have f413 := f390.keep Kq398 List.not_mem_nil
      have f414 := f391.keep Kq398 List.not_mem_nil
      have f415 := f392.keep Kq398
      have f416 := f393.keep Kq398 List.not_mem_nil
      have f417 := f394.keep Kq398 List.not_mem_nil
      have f418 := f395.keep Kq398 List.not_mem_nil
      have Z398 : n0 ≤ T398.heap.size := Nat.le_trans Z379 Kq398.1
      have K398 : Keep h0 T398.heap [] := K379.trans Kq398 (fun x hx => nomatch hx)
      have Xo398 := Xo379.keep Kq398 all0
      have k419 : ∀ t, Steps p.tables e below (T398.setTop (mkF m 256 #[.val (.long p1), .second, .val (.long p2), .second, .val (.int p3), .val (.int p4), .val (.double (FP.i2d p3)), .second, .val (.int (own_bel p4)), .val (.int (own_via p4)), .val (.ref b6), .val (.int (1 : Int32)), .val (.ref rrrb1_14_5_254), .val (.ref rb1_169)] [(.int (1 : Int32))])) t → Steps p.tables e below (s₁.setTop (entryFrame m #[(.long p1), (.long p2), (.int p3), (.int p4)] maxLocals)) t := fun t k => k397 t (st398.trans k)
      have k420 : ∀ t, Steps p.tables e below (T398.setTop (mkF m 261 #[.val (.long p1), .second, .val (.long p2), .second, .val (.int p3), .val (.int p4), .val (.double (FP.i2d p3)), .second, .val (.int (own_bel p4)), .val (.int (own_via p4)), .val (.ref b6), .val (.int (1 : Int32)), .val (.ref rrrb1_14_5_254), .val (.ref rb1_169)] [(.ref rb1_169)])) t → Steps p.tables e below (s₁.setTop (entryFrame m #[(.long p1), (.long p2), (.int p3), (.int p4)] maxLocals)) t := by
        intro t k
        refine k419 t ?_
        show Steps p.tables e below (T398.setTop (mkF m 256 #[.val (.long p1), .second, .val (.long p2), .second, .val (.int p3), .val (.int p4), .val (.double (FP.i2d p3)), .second, .val (.int (own_bel p4)), .val (.int (own_via p4)), .val (.ref b6), .val (.int (1 : Int32)), .val (.ref rrrb1_14_5_254), .val (.ref rb1_169)] [(.int (1 : Int32))])) _
        refine XS.ifNo X398.here hx rfl (hb hby at_256) rfl ((if0 _ _).trans (feq (by decide : ¬ ((1 : Int32) = (0 : Int32)))).1) ?_
        show Steps p.tables e below (T398.setTop (mkF m 259 #[.val (.long p1), .second, .val (.long p2), .second, .val (.int p3), .val (.int p4), .val (.double (FP.i2d p3)), .second, .val (.int (own_bel p4)), .val (.int (own_via p4)), .val (.ref b6), .val (.int (1 : Int32)), .val (.ref rrrb1_14_5_254), .val (.ref rb1_169)] [])) _
        refine XS.aload X398.here hx rfl (hb hby at_259) rfl rfl ?_
        exact k
      obtain ⟨cq421, kq421, q421a, q421b, q421c⟩ := isOf hZ rfl fq398_0
      obtain ⟨_, _, ⟨T421, L421, k421c, n421⟩, -, X421, ⟨Lc421, hQ421, l421, y421, z421⟩, st421⟩ := X398.virtualBack hx (y := (⟨"com/example/reckoner/reckoner/Value", "longValue", "()J"⟩ : MethodName)) (z := (⟨"com/example/reckoner/reckoner/Value", "longValue", "()J"⟩ : MethodName)) hown (mvT hZ (hw _ (List.mem_of_getElem? (i := 96) rfl))) (mvT hZ (hw _ (List.mem_of_getElem? (i := 97) rfl))) (notFace_of_selects (args := #[]) (mvT hZ (hw _ (List.mem_of_getElem? (i := 99) rfl)))) (mvT hZ (hw _ (List.mem_of_getElem? (i := 99) rfl))) (mvT hZ (hw _ (List.mem_of_getElem? (i := 98) rfl))) (by decide) (backOf (W := 0) (own_rmlv l Z a0 hw [] rb1_169 sI p1 T398.heap n0 Z398 fq398_0 fq398_1 f405 Xo398 SI) hZ (hw _ (List.mem_of_getElem? (i := 100) rfl)) (hw _ (List.mem_of_getElem? (i := 18) rfl)) (by decide) (by decide)) q421a q421c (g := (mkF m 261 #[.val (.long p1), .second, .val (.long p2), .second, .val (.int p3), .val (.int p4), .val (.double (FP.i2d p3)), .second, .val (.int (own_bel p4)), .val (.int (own_via p4)), .val (.ref b6), .val (.int (1 : Int32)), .val (.ref rrrb1_14_5_254), .val (.ref rb1_169)] [(.ref rb1_169)])) rfl (by rw [hml]; rfl) (Steps.refl _) (argsL := []) (rest := []) (lenOf own_pd12 rfl) rfl (by show 2 * 0 + _ ≤ _; exact Nat.le_of_eq rfl) (hb hby at_261) (fun _ _ => ⟨rfl, rfl, (by decide : 7 + 0 ≤ _), (by decide : 21 + 0 ≤ _)⟩)
      dsimp only [Pt.U, Pt.locs, Pt.cells, Pt.slots] at X421 l421 y421 z421 st421 hQ421
      subst l421 y421 z421
      obtain ⟨rfl, N421q, Kq421, fq421_0, fq421_1, fq421_2⟩ := hQ421
      have N421 := Fr.app N398 N421q
      have f422 := f399.keep Kq421
      have f423 := f400.keep Kq421 List.not_mem_nil
      have f424 := f401.keep Kq421 List.not_mem_nil
      have f425 := f402.keep Kq421 List.not_mem_nil
      have f426 := f403.keep Kq421 List.not_mem_nil
      have f427 := f404.keep Kq421 List.not_mem_nil
      have f428 := f406.keep Kq421 List.not_mem_nil
      have f429 := f407.keep Kq421
      have f430 := f408.keep Kq421 List.not_mem_nil
      have f431 := f409.keep Kq421 List.not_mem_nil
      have f432 := f410.keep Kq421 List.not_mem_nil
      have f433 := f411.keep Kq421
      have f434 := f412.keep Kq421 List.not_mem_nil
      have f435 := f413.keep Kq421 List.not_mem_nil
      have f436 := f414.keep Kq421 List.not_mem_nil
      have f437 := f415.keep Kq421
      have f438 := f416.keep Kq421 List.not_mem_nil
      have f439 := f417.keep Kq421 List.not_mem_nil
      have f440 := f418.keep Kq421 List.not_mem_nil
      have Z421 : n0 ≤ T421.heap.size := Nat.le_trans Z398 Kq421.1
      have K421 : Keep h0 T421.heap [] := K398.trans Kq421 (fun x hx => nomatch hx)
      have Xo421 := Xo398.keep Kq421 all0
      have k441 : ∀ t, Steps p.tables e below (T421.setTop (mkF m 264 #[.val (.long p1), .second, .val (.long p2), .second, .val (.int p3), .val (.int p4), .val (.double (FP.i2d p3)), .second, .val (.int (own_bel p4)), .val (.int (own_via p4)), .val (.ref b6), .val (.int (1 : Int32)), .val (.ref rrrb1_14_5_254), .val (.ref rb1_169)] [(.long p1)])) t → Steps p.tables e below (s₁.setTop (entryFrame m #[(.long p1), (.long p2), (.int p3), (.int p4)] maxLocals)) t := fun t k => k420 t (st421.trans k)
      have k442 : ∀ t, Steps p.tables e below (T421.setTop (mkF m 278 #[.val (.long p1), .second, .val (.long p2), .second, .val (.int p3), .val (.int p4), .val (.double (FP.i2d p3)), .second, .val (.int (own_bel p4)), .val (.int (own_via p4)), .val (.ref b6), .val (.int (1 : Int32)), .val (.ref rrrb1_14_5_254), .val (.ref rb1_169)] [(.int (1 : Int32))])) t → Steps p.tables e below (s₁.setTop (entryFrame m #[(.long p1), (.long p2), (.int p3), (.int p4)] maxLocals)) t := by
        intro t k
        refine k441 t ?_
        show Steps p.tables e below (T421.setTop (mkF m 264 #[.val (.long p1), .second, .val (.long p2), .second, .val (.int p3), .val (.int p4), .val (.double (FP.i2d p3)), .second, .val (.int (own_bel p4)), .val (.int (own_via p4)), .val (.ref b6), .val (.int (1 : Int32)), .val (.ref rrrb1_14_5_254), .val (.ref rb1_169)] [(.long p1)])) _
        refine XS.lloadN X421.here hx rfl (hb hby at_264) rfl ?_
        show Steps p.tables e below (T421.setTop (mkF m 265 #[.val (.long p1), .second, .val (.long p2), .second, .val (.int p3), .val (.int p4), .val (.double (FP.i2d p3)), .second, .val (.int (own_bel p4)), .val (.int (own_via p4)), .val (.ref b6), .val (.int (1 : Int32)), .val (.ref rrrb1_14_5_254), .val (.ref rb1_169)] [(.long p1), (.long p1)])) _
        refine XS.lcmp X421.here hx rfl (hb hby at_265) rfl ?_
        show Steps p.tables e below (T421.setTop (mkF m 266 #[.val (.long p1), .second, .val (.long p2), .second, .val (.int p3), .val (.int p4), .val (.double (FP.i2d p3)), .second, .val (.int (own_bel p4)), .val (.int (own_via p4)), .val (.ref b6), .val (.int (1 : Int32)), .val (.ref rrrb1_14_5_254), .val (.ref rb1_169)] [(.int (lcmpW p1 p1))])) _
        refine XS.ifNo X421.here hx rfl (hb hby at_266) rfl ((if0 _ _).trans (teq ((lw_eq p1 p1).mpr rfl)).2) ?_
        show Steps p.tables e below (T421.setTop (mkF m 269 #[.val (.long p1), .second, .val (.long p2), .second, .val (.int p3), .val (.int p4), .val (.double (FP.i2d p3)), .second, .val (.int (own_bel p4)), .val (.int (own_via p4)), .val (.ref b6), .val (.int (1 : Int32)), .val (.ref rrrb1_14_5_254), .val (.ref rb1_169)] [])) _
        refine XS.iconst X421.here hx rfl (hb hby at_269) ?_
        show Steps p.tables e below (T421.setTop (mkF m 270 #[.val (.long p1), .second, .val (.long p2), .second, .val (.int p3), .val (.int p4), .val (.double (FP.i2d p3)), .second, .val (.int (own_bel p4)), .val (.int (own_via p4)), .val (.ref b6), .val (.int (1 : Int32)), .val (.ref rrrb1_14_5_254), .val (.ref rb1_169)] [(.int (1 : Int32))])) _
        refine XS.goto X421.here hx rfl (pc0 := 270) (pc' := 274) rfl (hb hby at_270) (by decide) (by decide) ?_
        show Steps p.tables e below (T421.setTop (mkF m 274 #[.val (.long p1), .second, .val (.long p2), .second, .val (.int p3), .val (.int p4), .val (.double (FP.i2d p3)), .second, .val (.int (own_bel p4)), .val (.int (own_via p4)), .val (.ref b6), .val (.int (1 : Int32)), .val (.ref rrrb1_14_5_254), .val (.ref rb1_169)] [(.int (1 : Int32))])) _
        refine XS.istore X421.here hx rfl (hb hby at_274) rfl (l' := #[.val (.long p1), .second, .val (.long p2), .second, .val (.int p3), .val (.int p4), .val (.double (FP.i2d p3)), .second, .val (.int (own_bel p4)), .val (.int (own_via p4)), .val (.ref b6), .val (.int (1 : Int32)), .val (.ref rrrb1_14_5_254), .val (.ref rb1_169)]) rfl ?_
        show Steps p.tables e below (T421.setTop (mkF m 276 #[.val (.long p1), .second, .val (.long p2), .second, .val (.int p3), .val (.int p4), .val (.double (FP.i2d p3)), .second, .val (.int (own_bel p4)), .val (.int (own_via p4)), .val (.ref b6), .val (.int (1 : Int32)), .val (.ref rrrb1_14_5_254), .val (.ref rb1_169)] [])) _
        refine XS.iload X421.here hx rfl (hb hby at_276) rfl ?_
        exact k
      obtain ⟨fs, hr, hrun, hended, hW, hsame⟩ := X421.leave (v := (some (.int (1 : Int32)))) (fun h => by rw [Bd.returns] at h; cases h)
      refine ⟨_, _, k442 _ ?_, hrun, hended, _, _, rfl, ?_, ⟨_, rfl⟩, hW, hsame.mono (by decide) (by decide)⟩
      · exact retN X421 hx (t := .boolean) Bd.returns (by simp) (hb hby at_278) hr
      · exact ⟨rfl, N421⟩
    · have k443 : ∀ t, Steps p.tables e below (T291.setTop (mkF m 174 #[.val (.long p1), .second, .val (.long p2), .second, .val (.int p3), .val (.int p4), .val (.double (FP.i2d p3)), .second, .val (.int (own_bel p4)), .val (.int (own_via p4)), .val (.ref b6), .val (.int (1 : Int32)), .val (.ref rrrb1_14_5_254), .unset] [(.ref b6)])) t → Steps p.tables e below (s₁.setTop (entryFrame m #[(.long p1), (.long p2), (.int p3), (.int p4)] maxLocals)) t := by
        intro t k
        refine k308 t ?_
        show Steps p.tables e below (T291.setTop (mkF m 164 #[.val (.long p1), .second, .val (.long p2), .second, .val (.int p3), .val (.int p4), .val (.double (FP.i2d p3)), .second, .val (.int (own_bel p4)), .val (.int (own_via p4)), .val (.ref b6), .val (.int (1 : Int32)), .val (.ref rrrb1_14_5_254), .unset] [(.int (own_via p4))])) _
        refine XS.ifNo X291.here hx rfl (hb hby at_164) rfl ((if0 _ _).trans (feq hc164_309).1) ?_
        show Steps p.tables e below (T291.setTop (mkF m 167 #[.val (.long p1), .second, .val (.long p2), .second, .val (.int p3), .val (.int p4), .val (.double (FP.i2d p3)), .second, .val (.int (own_bel p4)), .val (.int (own_via p4)), .val (.ref b6), .val (.int (1 : Int32)), .val (.ref rrrb1_14_5_254), .unset] [])) _
        refine XS.iload X291.here hx rfl (hb hby at_167) rfl ?_
        show Steps p.tables e below (T291.setTop (mkF m 169 #[.val (.long p1), .second, .val (.long p2), .second, .val (.int p3), .val (.int p4), .val (.double (FP.i2d p3)), .second, .val (.int (own_bel p4)), .val (.int (own_via p4)), .val (.ref b6), .val (.int (1 : Int32)), .val (.ref rrrb1_14_5_254), .unset] [(.int (1 : Int32))])) _
        refine XS.ifNo X291.here hx rfl (hb hby at_169) rfl ((if0 _ _).trans (feq (by decide : ¬ ((1 : Int32) = (0 : Int32)))).1) ?_
        show Steps p.tables e below (T291.setTop (mkF m 172 #[.val (.long p1), .second, .val (.long p2), .second, .val (.int p3), .val (.int p4), .val (.double (FP.i2d p3)), .second, .val (.int (own_bel p4)), .val (.int (own_via p4)), .val (.ref b6), .val (.int (1 : Int32)), .val (.ref rrrb1_14_5_254), .unset] [])) _
        refine XS.aload X291.here hx rfl (hb hby at_172) rfl rfl ?_
        exact k
      obtain ⟨cq444, kq444, q444a, q444b, q444c⟩ := isOf hZ rfl f292
      obtain ⟨_, _, ⟨T444, L444, k444c, n444⟩, -, X444, ⟨Lc444, hQ444, l444, y444, z444⟩, st444⟩ := X291.virtualBack hx (y := (⟨"com/example/reckoner/reckoner/OperandStack", "popDouble", "()D"⟩ : MethodName)) (z := (⟨"com/example/reckoner/reckoner/OperandStack", "popDouble", "()D"⟩ : MethodName)) hown (mvT hZ (hw _ (List.mem_of_getElem? (i := 90) rfl))) (mvT hZ (hw _ (List.mem_of_getElem? (i := 91) rfl))) (notFace_of_selects (args := #[]) (mvT hZ (hw _ (List.mem_of_getElem? (i := 93) rfl)))) (mvT hZ (hw _ (List.mem_of_getElem? (i := 93) rfl))) (mvT hZ (hw _ (List.mem_of_getElem? (i := 92) rfl))) (by decide) (backOf (W := 0) (own_rmpd2 l Z a0 hw [] b6 rb5_12 rb20_12 rc_12c5 rc_12c20 (.ref rb1_169) .null (0 : UInt64) (FP.i2d p3) (0 : UInt64) T291.heap n0 Z291 f292 f293 f294 f295 f296 fq254_5 f297 ge6 ge12_b5 ge12_b20 ne13 ne14 nq12_b5_b20) hZ (hw _ (List.mem_of_getElem? (i := 94) rfl)) (hw _ (List.mem_of_getElem? (i := 2) rfl)) (by decide) (by decide)) q444a q444c (g := (mkF m 174 #[.val (.long p1), .second, .val (.long p2), .second, .val (.int p3), .val (.int p4), .val (.double (FP.i2d p3)), .second, .val (.int (own_bel p4)), .val (.int (own_via p4)), .val (.ref b6), .val (.int (1 : Int32)), .val (.ref rrrb1_14_5_254), .unset] [(.ref b6)])) rfl (by rw [hml]; rfl) (Steps.refl _) (argsL := []) (rest := []) (lenOf own_pd11 rfl) rfl (by show 2 * 0 + _ ≤ _; exact Nat.le_of_eq rfl) (hb hby at_174) (fun _ _ => ⟨rfl, rfl, (by decide : 6 + 0 ≤ _), (by decide : 18 + 0 ≤ _)⟩)
      dsimp only [Pt.U, Pt.locs, Pt.cells, Pt.slots] at X444 l444 y444 z444 st444 hQ444
      subst l444 y444 z444
      obtain ⟨rfl, N444q, Kq444, fq444_0, fq444_1, fq444_2, fq444_3, fq444_4, fq444_5, fq444_6⟩ := hQ444
      have N444 := Fr.app N291 N444q
      have f445 := f298.keep Kq444
      have f446 := f299.keep Kq444 (List.not_mem_cons_of_ne_of_not_mem (Ne.symm ne170) List.not_mem_nil)
      have f447 := f300.keep Kq444 (List.not_mem_cons_of_ne_of_not_mem (Ne.symm ne170) List.not_mem_nil)
      have f448 := f301.keep Kq444 (List.not_mem_cons_of_ne_of_not_mem (Ne.symm ne170) List.not_mem_nil)
      have f449 := f302.keep Kq444
      have f450 := f303.keep Kq444 (List.not_mem_cons_of_ne_of_not_mem (Ne.symm ne187) List.not_mem_nil)
      have f451 := f304.keep Kq444 (List.not_mem_cons_of_ne_of_not_mem (Ne.symm ne187) List.not_mem_nil)
      have f452 := f305.keep Kq444 (List.not_mem_cons_of_ne_of_not_mem (Ne.symm ne187) List.not_mem_nil)
      have f453 := fq291_0.keep Kq444
      have f454 := fq291_1.keep Kq444 (List.not_mem_cons_of_ne_of_not_mem (Ne.symm ne255) List.not_mem_nil)
      have f455 := f306.keep Kq444 (List.not_mem_cons_of_ne_of_not_mem (Ne.symm ne255) List.not_mem_nil)
      have f456 := fq291_2.keep Kq444 (List.not_mem_cons_of_ne_of_not_mem (Ne.symm ne255) List.not_mem_nil)
      have Z444 : n0 ≤ T444.heap.size := Nat.le_trans Z291 Kq444.1
      have K444 : Keep h0 T444.heap [] := K291.trans Kq444 (fun x hx => by rcases List.mem_cons.mp hx with rfl | hx; exact Or.inr bo6; exact nomatch hx)
      have Xo444 := Xo291.keep Kq444 (allS ge6 all0)
      have k457 : ∀ t, Steps p.tables e below (T444.setTop (mkF m 177 #[.val (.long p1), .second, .val (.long p2), .second, .val (.int p3), .val (.int p4), .val (.double (FP.i2d p3)), .second, .val (.int (own_bel p4)), .val (.int (own_via p4)), .val (.ref b6), .val (.int (1 : Int32)), .val (.ref rrrb1_14_5_254), .unset] [(.double (FP.i2d p3))])) t → Steps p.tables e below (s₁.setTop (entryFrame m #[(.long p1), (.long p2), (.int p3), (.int p4)] maxLocals)) t := fun t k => k443 t (st444.trans k)
      have k458 : ∀ t, Steps p.tables e below (T444.setTop (mkF m 241 #[.val (.long p1), .second, .val (.long p2), .second, .val (.int p3), .val (.int p4), .val (.double (FP.i2d p3)), .second, .val (.int (own_bel p4)), .val (.int (own_via p4)), .val (.ref b6), .val (.int (1 : Int32)), .val (.ref rrrb1_14_5_254), .unset] [(.ref b6)])) t → Steps p.tables e below (s₁.setTop (entryFrame m #[(.long p1), (.long p2), (.int p3), (.int p4)] maxLocals)) t := by
        intro t k
        refine k457 t ?_
        show Steps p.tables e below (T444.setTop (mkF m 177 #[.val (.long p1), .second, .val (.long p2), .second, .val (.int p3), .val (.int p4), .val (.double (FP.i2d p3)), .second, .val (.int (own_bel p4)), .val (.int (own_via p4)), .val (.ref b6), .val (.int (1 : Int32)), .val (.ref rrrb1_14_5_254), .unset] [(.double (FP.i2d p3))])) _
        refine XS.dload X444.here hx rfl (hb hby at_177) rfl ?_
        show Steps p.tables e below (T444.setTop (mkF m 179 #[.val (.long p1), .second, .val (.long p2), .second, .val (.int p3), .val (.int p4), .val (.double (FP.i2d p3)), .second, .val (.int (own_bel p4)), .val (.int (own_via p4)), .val (.ref b6), .val (.int (1 : Int32)), .val (.ref rrrb1_14_5_254), .unset] [(.double (FP.i2d p3)), (.double (FP.i2d p3))])) _
        refine XS.dcmpS X444.here hx rfl (hb hby at_179) rfl (dcmpV_self (nn_w (i2d_w p3)) _) ?_
        show Steps p.tables e below (T444.setTop (mkF m 180 #[.val (.long p1), .second, .val (.long p2), .second, .val (.int p3), .val (.int p4), .val (.double (FP.i2d p3)), .second, .val (.int (own_bel p4)), .val (.int (own_via p4)), .val (.ref b6), .val (.int (1 : Int32)), .val (.ref rrrb1_14_5_254), .unset] [(.int (0 : Int32))])) _
        refine XS.ifNo X444.here hx rfl (hb hby at_180) rfl ((if0 _ _).trans (teq (rfl : (0 : Int32) = (0 : Int32))).2) ?_
        show Steps p.tables e below (T444.setTop (mkF m 183 #[.val (.long p1), .second, .val (.long p2), .second, .val (.int p3), .val (.int p4), .val (.double (FP.i2d p3)), .second, .val (.int (own_bel p4)), .val (.int (own_via p4)), .val (.ref b6), .val (.int (1 : Int32)), .val (.ref rrrb1_14_5_254), .unset] [])) _
        refine XS.iconst X444.here hx rfl (hb hby at_183) ?_
        show Steps p.tables e below (T444.setTop (mkF m 184 #[.val (.long p1), .second, .val (.long p2), .second, .val (.int p3), .val (.int p4), .val (.double (FP.i2d p3)), .second, .val (.int (own_bel p4)), .val (.int (own_via p4)), .val (.ref b6), .val (.int (1 : Int32)), .val (.ref rrrb1_14_5_254), .unset] [(.int (1 : Int32))])) _
        refine XS.goto X444.here hx rfl (pc0 := 184) (pc' := 188) rfl (hb hby at_184) (by decide) (by decide) ?_
        show Steps p.tables e below (T444.setTop (mkF m 188 #[.val (.long p1), .second, .val (.long p2), .second, .val (.int p3), .val (.int p4), .val (.double (FP.i2d p3)), .second, .val (.int (own_bel p4)), .val (.int (own_via p4)), .val (.ref b6), .val (.int (1 : Int32)), .val (.ref rrrb1_14_5_254), .unset] [(.int (1 : Int32))])) _
        refine XS.istore X444.here hx rfl (hb hby at_188) rfl (l' := #[.val (.long p1), .second, .val (.long p2), .second, .val (.int p3), .val (.int p4), .val (.double (FP.i2d p3)), .second, .val (.int (own_bel p4)), .val (.int (own_via p4)), .val (.ref b6), .val (.int (1 : Int32)), .val (.ref rrrb1_14_5_254), .unset]) rfl ?_
        show Steps p.tables e below (T444.setTop (mkF m 190 #[.val (.long p1), .second, .val (.long p2), .second, .val (.int p3), .val (.int p4), .val (.double (FP.i2d p3)), .second, .val (.int (own_bel p4)), .val (.int (own_via p4)), .val (.ref b6), .val (.int (1 : Int32)), .val (.ref rrrb1_14_5_254), .unset] [])) _
        refine XS.goto X444.here hx rfl (pc0 := 190) (pc' := 234) rfl (hb hby at_190) (by decide) (by decide) ?_
        show Steps p.tables e below (T444.setTop (mkF m 234 #[.val (.long p1), .second, .val (.long p2), .second, .val (.int p3), .val (.int p4), .val (.double (FP.i2d p3)), .second, .val (.int (own_bel p4)), .val (.int (own_via p4)), .val (.ref b6), .val (.int (1 : Int32)), .val (.ref rrrb1_14_5_254), .unset] [])) _
        refine XS.iload X444.here hx rfl (hb hby at_234) rfl ?_
        show Steps p.tables e below (T444.setTop (mkF m 236 #[.val (.long p1), .second, .val (.long p2), .second, .val (.int p3), .val (.int p4), .val (.double (FP.i2d p3)), .second, .val (.int (own_bel p4)), .val (.int (own_via p4)), .val (.ref b6), .val (.int (1 : Int32)), .val (.ref rrrb1_14_5_254), .unset] [(.int (own_bel p4))])) _
        refine XS.ifNo X444.here hx rfl (hb hby at_236) rfl ((if0 _ _).trans (feq hc45_17).1) ?_
        show Steps p.tables e below (T444.setTop (mkF m 239 #[.val (.long p1), .second, .val (.long p2), .second, .val (.int p3), .val (.int p4), .val (.double (FP.i2d p3)), .second, .val (.int (own_bel p4)), .val (.int (own_via p4)), .val (.ref b6), .val (.int (1 : Int32)), .val (.ref rrrb1_14_5_254), .unset] [])) _
        refine XS.aload X444.here hx rfl (hb hby at_239) rfl rfl ?_
        exact k
      obtain ⟨cq459, kq459, q459a, q459b, q459c⟩ := isOf hZ rfl fq444_0
      obtain ⟨_, _, ⟨T459, L459, k459c, n459⟩, -, X459, ⟨Lc459, hQ459, l459, y459, z459⟩, st459⟩ := X444.virtualBack hx (y := (⟨"com/example/reckoner/reckoner/OperandStack", "pop", "()Lcom/example/reckoner/reckoner/Value;"⟩ : MethodName)) (z := (⟨"com/example/reckoner/reckoner/OperandStack", "pop", "()Lcom/example/reckoner/reckoner/Value;"⟩ : MethodName)) hown (mvT hZ (hw _ (List.mem_of_getElem? (i := 43) rfl))) (mvT hZ (hw _ (List.mem_of_getElem? (i := 44) rfl))) (notFace_of_selects (args := #[]) (mvT hZ (hw _ (List.mem_of_getElem? (i := 46) rfl)))) (mvT hZ (hw _ (List.mem_of_getElem? (i := 46) rfl))) (mvT hZ (hw _ (List.mem_of_getElem? (i := 45) rfl))) (by decide) (backOf (W := 0) (own_rmpo1o l Z a0 hw [] b6 rb5_12 rb20_12 rc_12c5 rc_12c20 rb1_169 .null .null (0 : UInt64) (FP.i2d p3) (0 : UInt64) T444.heap n0 Z444 fq444_0 fq444_1 fq444_2 fq444_3 fq444_4 fq444_5 fq444_6 ge6 ge12_b5 ge12_b20 ne13 ne14 nq12_b5_b20) hZ (hw _ (List.mem_of_getElem? (i := 47) rfl)) (hw _ (List.mem_of_getElem? (i := 2) rfl)) (by decide) (by decide)) q459a q459c (g := (mkF m 241 #[.val (.long p1), .second, .val (.long p2), .second, .val (.int p3), .val (.int p4), .val (.double (FP.i2d p3)), .second, .val (.int (own_bel p4)), .val (.int (own_via p4)), .val (.ref b6), .val (.int (1 : Int32)), .val (.ref rrrb1_14_5_254), .unset] [(.ref b6)])) rfl (by rw [hml]; rfl) (Steps.refl _) (argsL := []) (rest := []) (lenOf own_pd7 rfl) rfl (by show 2 * 0 + _ ≤ _; exact Nat.le_of_eq rfl) (hb hby at_241) (fun _ _ => ⟨rfl, rfl, (by decide : 6 + 0 ≤ _), (by decide : 18 + 0 ≤ _)⟩)
      dsimp only [Pt.U, Pt.locs, Pt.cells, Pt.slots] at X459 l459 y459 z459 st459 hQ459
      subst l459 y459 z459
      obtain ⟨rfl, N459q, Kq459, fq459_0, fq459_1, fq459_2, fq459_3, fq459_4, fq459_5, fq459_6⟩ := hQ459
      have N459 := Fr.app N444 N459q
      have f460 := f445.keep Kq459
      have f461 := f446.keep Kq459 (List.not_mem_cons_of_ne_of_not_mem (Ne.symm ne170) List.not_mem_nil)
      have f462 := f447.keep Kq459 (List.not_mem_cons_of_ne_of_not_mem (Ne.symm ne170) List.not_mem_nil)
      have f463 := f448.keep Kq459 (List.not_mem_cons_of_ne_of_not_mem (Ne.symm ne170) List.not_mem_nil)
      have f464 := f449.keep Kq459
      have f465 := f450.keep Kq459 (List.not_mem_cons_of_ne_of_not_mem (Ne.symm ne187) List.not_mem_nil)
      have f466 := f451.keep Kq459 (List.not_mem_cons_of_ne_of_not_mem (Ne.symm ne187) List.not_mem_nil)
      have f467 := f452.keep Kq459 (List.not_mem_cons_of_ne_of_not_mem (Ne.symm ne187) List.not_mem_nil)
      have f468 := f453.keep Kq459
      have f469 := f454.keep Kq459 (List.not_mem_cons_of_ne_of_not_mem (Ne.symm ne255) List.not_mem_nil)
      have f470 := f455.keep Kq459 (List.not_mem_cons_of_ne_of_not_mem (Ne.symm ne255) List.not_mem_nil)
      have f471 := f456.keep Kq459 (List.not_mem_cons_of_ne_of_not_mem (Ne.symm ne255) List.not_mem_nil)
      have Z459 : n0 ≤ T459.heap.size := Nat.le_trans Z444 Kq459.1
      have K459 : Keep h0 T459.heap [] := K444.trans Kq459 (fun x hx => by rcases List.mem_cons.mp hx with rfl | hx; exact Or.inr bo6; exact nomatch hx)
      have Xo459 := Xo444.keep Kq459 (allS ge6 all0)
      have k472 : ∀ t, Steps p.tables e below (T459.setTop (mkF m 244 #[.val (.long p1), .second, .val (.long p2), .second, .val (.int p3), .val (.int p4), .val (.double (FP.i2d p3)), .second, .val (.int (own_bel p4)), .val (.int (own_via p4)), .val (.ref b6), .val (.int (1 : Int32)), .val (.ref rrrb1_14_5_254), .unset] [(.ref rb1_169)])) t → Steps p.tables e below (s₁.setTop (entryFrame m #[(.long p1), (.long p2), (.int p3), (.int p4)] maxLocals)) t := fun t k => k458 t (st459.trans k)
      have k473 : ∀ t, Steps p.tables e below (T459.setTop (mkF m 253 #[.val (.long p1), .second, .val (.long p2), .second, .val (.int p3), .val (.int p4), .val (.double (FP.i2d p3)), .second, .val (.int (own_bel p4)), .val (.int (own_via p4)), .val (.ref b6), .val (.int (1 : Int32)), .val (.ref rrrb1_14_5_254), .val (.ref rb1_169)] [(.ref rb1_169)])) t → Steps p.tables e below (s₁.setTop (entryFrame m #[(.long p1), (.long p2), (.int p3), (.int p4)] maxLocals)) t := by
        intro t k
        refine k472 t ?_
        show Steps p.tables e below (T459.setTop (mkF m 244 #[.val (.long p1), .second, .val (.long p2), .second, .val (.int p3), .val (.int p4), .val (.double (FP.i2d p3)), .second, .val (.int (own_bel p4)), .val (.int (own_via p4)), .val (.ref b6), .val (.int (1 : Int32)), .val (.ref rrrb1_14_5_254), .unset] [(.ref rb1_169)])) _
        refine XS.astore X459.here hx rfl (hb hby at_244) rfl rfl (l' := #[.val (.long p1), .second, .val (.long p2), .second, .val (.int p3), .val (.int p4), .val (.double (FP.i2d p3)), .second, .val (.int (own_bel p4)), .val (.int (own_via p4)), .val (.ref b6), .val (.int (1 : Int32)), .val (.ref rrrb1_14_5_254), .val (.ref rb1_169)]) rfl ?_
        show Steps p.tables e below (T459.setTop (mkF m 246 #[.val (.long p1), .second, .val (.long p2), .second, .val (.int p3), .val (.int p4), .val (.double (FP.i2d p3)), .second, .val (.int (own_bel p4)), .val (.int (own_via p4)), .val (.ref b6), .val (.int (1 : Int32)), .val (.ref rrrb1_14_5_254), .val (.ref rb1_169)] [])) _
        refine XS.iload X459.here hx rfl (hb hby at_246) rfl ?_
        show Steps p.tables e below (T459.setTop (mkF m 248 #[.val (.long p1), .second, .val (.long p2), .second, .val (.int p3), .val (.int p4), .val (.double (FP.i2d p3)), .second, .val (.int (own_bel p4)), .val (.int (own_via p4)), .val (.ref b6), .val (.int (1 : Int32)), .val (.ref rrrb1_14_5_254), .val (.ref rb1_169)] [(.int (1 : Int32))])) _
        refine XS.ifNo X459.here hx rfl (hb hby at_248) rfl ((if0 _ _).trans (feq (by decide : ¬ ((1 : Int32) = (0 : Int32)))).1) ?_
        show Steps p.tables e below (T459.setTop (mkF m 251 #[.val (.long p1), .second, .val (.long p2), .second, .val (.int p3), .val (.int p4), .val (.double (FP.i2d p3)), .second, .val (.int (own_bel p4)), .val (.int (own_via p4)), .val (.ref b6), .val (.int (1 : Int32)), .val (.ref rrrb1_14_5_254), .val (.ref rb1_169)] [])) _
        refine XS.aload X459.here hx rfl (hb hby at_251) rfl rfl ?_
        exact k
      obtain ⟨cq474, kq474, q474a, q474b, q474c⟩ := isOf hZ rfl f460
      obtain ⟨_, _, ⟨T474, L474, k474c, n474⟩, -, X474, ⟨Lc474, hQ474, l474, y474, z474⟩, st474⟩ := X459.virtualBack hx (y := (⟨"com/example/reckoner/reckoner/Value", "isInteger", "()Z"⟩ : MethodName)) (z := (⟨"com/example/reckoner/reckoner/Value", "isInteger", "()Z"⟩ : MethodName)) hown (mvT hZ (hw _ (List.mem_of_getElem? (i := 95) rfl))) (mvT hZ (hw _ (List.mem_of_getElem? (i := 63) rfl))) (notFace_of_selects (args := #[]) (mvT hZ (hw _ (List.mem_of_getElem? (i := 65) rfl)))) (mvT hZ (hw _ (List.mem_of_getElem? (i := 65) rfl))) (mvT hZ (hw _ (List.mem_of_getElem? (i := 64) rfl))) (by decide) (backOf (W := 0) (own_rmii l Z a0 hw [] rb1_169 sI T459.heap n0 Z459 f460 f461 Xo459 SI) hZ (hw _ (List.mem_of_getElem? (i := 66) rfl)) (hw _ (List.mem_of_getElem? (i := 18) rfl)) (by decide) (by decide)) q474a q474c (g := (mkF m 253 #[.val (.long p1), .second, .val (.long p2), .second, .val (.int p3), .val (.int p4), .val (.double (FP.i2d p3)), .second, .val (.int (own_bel p4)), .val (.int (own_via p4)), .val (.ref b6), .val (.int (1 : Int32)), .val (.ref rrrb1_14_5_254), .val (.ref rb1_169)] [(.ref rb1_169)])) rfl (by rw [hml]; rfl) (Steps.refl _) (argsL := []) (rest := []) (lenOf own_pd3 rfl) rfl (by show 2 * 0 + _ ≤ _; exact Nat.le_of_eq rfl) (hb hby at_253) (fun _ _ => ⟨rfl, rfl, (by decide : 6 + 0 ≤ _), (by decide : 18 + 0 ≤ _)⟩)
      dsimp only [Pt.U, Pt.locs, Pt.cells, Pt.slots] at X474 l474 y474 z474 st474 hQ474
      subst l474 y474 z474
      obtain ⟨rfl, N474q, Kq474, fq474_0, fq474_1⟩ := hQ474
      have N474 := Fr.app N459 N474q
      have f475 := fq459_0.keep Kq474
      have f476 := fq459_1.keep Kq474 List.not_mem_nil
      have f477 := fq459_2.keep Kq474 List.not_mem_nil
      have f478 := fq459_3.keep Kq474 List.not_mem_nil
      have f479 := fq459_4.keep Kq474 List.not_mem_nil
      have f480 := fq459_6.keep Kq474 List.not_mem_nil
      have f481 := f462.keep Kq474 List.not_mem_nil
      have f482 := f463.keep Kq474 List.not_mem_nil
      have f483 := f464.keep Kq474
      have f484 := f465.keep Kq474 List.not_mem_nil
      have f485 := f466.keep Kq474 List.not_mem_nil
      have f486 := f467.keep Kq474 List.not_mem_nil
      have f487 := f468.keep Kq474
      have f488 := f469.keep Kq474 List.not_mem_nil
      have f489 := f470.keep Kq474 List.not_mem_nil
      have f490 := f471.keep Kq474 List.not_mem_nil
      have Z474 : n0 ≤ T474.heap.size := Nat.le_trans Z459 Kq474.1
      have K474 : Keep h0 T474.heap [] := K459.trans Kq474 (fun x hx => nomatch hx)
      have Xo474 := Xo459.keep Kq474 all0
      have k491 : ∀ t, Steps p.tables e below (T474.setTop (mkF m 256 #[.val (.long p1), .second, .val (.long p2), .second, .val (.int p3), .val (.int p4), .val (.double (FP.i2d p3)), .second, .val (.int (own_bel p4)), .val (.int (own_via p4)), .val (.ref b6), .val (.int (1 : Int32)), .val (.ref rrrb1_14_5_254), .val (.ref rb1_169)] [(.int (1 : Int32))])) t → Steps p.tables e below (s₁.setTop (entryFrame m #[(.long p1), (.long p2), (.int p3), (.int p4)] maxLocals)) t := fun t k => k473 t (st474.trans k)
      have k492 : ∀ t, Steps p.tables e below (T474.setTop (mkF m 261 #[.val (.long p1), .second, .val (.long p2), .second, .val (.int p3), .val (.int p4), .val (.double (FP.i2d p3)), .second, .val (.int (own_bel p4)), .val (.int (own_via p4)), .val (.ref b6), .val (.int (1 : Int32)), .val (.ref rrrb1_14_5_254), .val (.ref rb1_169)] [(.ref rb1_169)])) t → Steps p.tables e below (s₁.setTop (entryFrame m #[(.long p1), (.long p2), (.int p3), (.int p4)] maxLocals)) t := by
        intro t k
        refine k491 t ?_
        show Steps p.tables e below (T474.setTop (mkF m 256 #[.val (.long p1), .second, .val (.long p2), .second, .val (.int p3), .val (.int p4), .val (.double (FP.i2d p3)), .second, .val (.int (own_bel p4)), .val (.int (own_via p4)), .val (.ref b6), .val (.int (1 : Int32)), .val (.ref rrrb1_14_5_254), .val (.ref rb1_169)] [(.int (1 : Int32))])) _
        refine XS.ifNo X474.here hx rfl (hb hby at_256) rfl ((if0 _ _).trans (feq (by decide : ¬ ((1 : Int32) = (0 : Int32)))).1) ?_
        show Steps p.tables e below (T474.setTop (mkF m 259 #[.val (.long p1), .second, .val (.long p2), .second, .val (.int p3), .val (.int p4), .val (.double (FP.i2d p3)), .second, .val (.int (own_bel p4)), .val (.int (own_via p4)), .val (.ref b6), .val (.int (1 : Int32)), .val (.ref rrrb1_14_5_254), .val (.ref rb1_169)] [])) _
        refine XS.aload X474.here hx rfl (hb hby at_259) rfl rfl ?_
        exact k
      obtain ⟨cq493, kq493, q493a, q493b, q493c⟩ := isOf hZ rfl fq474_0
      obtain ⟨_, _, ⟨T493, L493, k493c, n493⟩, -, X493, ⟨Lc493, hQ493, l493, y493, z493⟩, st493⟩ := X474.virtualBack hx (y := (⟨"com/example/reckoner/reckoner/Value", "longValue", "()J"⟩ : MethodName)) (z := (⟨"com/example/reckoner/reckoner/Value", "longValue", "()J"⟩ : MethodName)) hown (mvT hZ (hw _ (List.mem_of_getElem? (i := 96) rfl))) (mvT hZ (hw _ (List.mem_of_getElem? (i := 97) rfl))) (notFace_of_selects (args := #[]) (mvT hZ (hw _ (List.mem_of_getElem? (i := 99) rfl)))) (mvT hZ (hw _ (List.mem_of_getElem? (i := 99) rfl))) (mvT hZ (hw _ (List.mem_of_getElem? (i := 98) rfl))) (by decide) (backOf (W := 0) (own_rmlv l Z a0 hw [] rb1_169 sI p1 T474.heap n0 Z474 fq474_0 fq474_1 f481 Xo474 SI) hZ (hw _ (List.mem_of_getElem? (i := 100) rfl)) (hw _ (List.mem_of_getElem? (i := 18) rfl)) (by decide) (by decide)) q493a q493c (g := (mkF m 261 #[.val (.long p1), .second, .val (.long p2), .second, .val (.int p3), .val (.int p4), .val (.double (FP.i2d p3)), .second, .val (.int (own_bel p4)), .val (.int (own_via p4)), .val (.ref b6), .val (.int (1 : Int32)), .val (.ref rrrb1_14_5_254), .val (.ref rb1_169)] [(.ref rb1_169)])) rfl (by rw [hml]; rfl) (Steps.refl _) (argsL := []) (rest := []) (lenOf own_pd12 rfl) rfl (by show 2 * 0 + _ ≤ _; exact Nat.le_of_eq rfl) (hb hby at_261) (fun _ _ => ⟨rfl, rfl, (by decide : 6 + 0 ≤ _), (by decide : 18 + 0 ≤ _)⟩)
      dsimp only [Pt.U, Pt.locs, Pt.cells, Pt.slots] at X493 l493 y493 z493 st493 hQ493
      subst l493 y493 z493
      obtain ⟨rfl, N493q, Kq493, fq493_0, fq493_1, fq493_2⟩ := hQ493
      have N493 := Fr.app N474 N493q
      have f494 := f475.keep Kq493
      have f495 := f476.keep Kq493 List.not_mem_nil
      have f496 := f477.keep Kq493 List.not_mem_nil
      have f497 := f478.keep Kq493 List.not_mem_nil
      have f498 := f479.keep Kq493 List.not_mem_nil
      have f499 := f480.keep Kq493 List.not_mem_nil
      have f500 := f482.keep Kq493 List.not_mem_nil
      have f501 := f483.keep Kq493
      have f502 := f484.keep Kq493 List.not_mem_nil
      have f503 := f485.keep Kq493 List.not_mem_nil
      have f504 := f486.keep Kq493 List.not_mem_nil
      have f505 := f487.keep Kq493
      have f506 := f488.keep Kq493 List.not_mem_nil
      have f507 := f489.keep Kq493 List.not_mem_nil
      have f508 := f490.keep Kq493 List.not_mem_nil
      have Z493 : n0 ≤ T493.heap.size := Nat.le_trans Z474 Kq493.1
      have K493 : Keep h0 T493.heap [] := K474.trans Kq493 (fun x hx => nomatch hx)
      have Xo493 := Xo474.keep Kq493 all0
      have k509 : ∀ t, Steps p.tables e below (T493.setTop (mkF m 264 #[.val (.long p1), .second, .val (.long p2), .second, .val (.int p3), .val (.int p4), .val (.double (FP.i2d p3)), .second, .val (.int (own_bel p4)), .val (.int (own_via p4)), .val (.ref b6), .val (.int (1 : Int32)), .val (.ref rrrb1_14_5_254), .val (.ref rb1_169)] [(.long p1)])) t → Steps p.tables e below (s₁.setTop (entryFrame m #[(.long p1), (.long p2), (.int p3), (.int p4)] maxLocals)) t := fun t k => k492 t (st493.trans k)
      have k510 : ∀ t, Steps p.tables e below (T493.setTop (mkF m 278 #[.val (.long p1), .second, .val (.long p2), .second, .val (.int p3), .val (.int p4), .val (.double (FP.i2d p3)), .second, .val (.int (own_bel p4)), .val (.int (own_via p4)), .val (.ref b6), .val (.int (1 : Int32)), .val (.ref rrrb1_14_5_254), .val (.ref rb1_169)] [(.int (1 : Int32))])) t → Steps p.tables e below (s₁.setTop (entryFrame m #[(.long p1), (.long p2), (.int p3), (.int p4)] maxLocals)) t := by
        intro t k
        refine k509 t ?_
        show Steps p.tables e below (T493.setTop (mkF m 264 #[.val (.long p1), .second, .val (.long p2), .second, .val (.int p3), .val (.int p4), .val (.double (FP.i2d p3)), .second, .val (.int (own_bel p4)), .val (.int (own_via p4)), .val (.ref b6), .val (.int (1 : Int32)), .val (.ref rrrb1_14_5_254), .val (.ref rb1_169)] [(.long p1)])) _
        refine XS.lloadN X493.here hx rfl (hb hby at_264) rfl ?_
        show Steps p.tables e below (T493.setTop (mkF m 265 #[.val (.long p1), .second, .val (.long p2), .second, .val (.int p3), .val (.int p4), .val (.double (FP.i2d p3)), .second, .val (.int (own_bel p4)), .val (.int (own_via p4)), .val (.ref b6), .val (.int (1 : Int32)), .val (.ref rrrb1_14_5_254), .val (.ref rb1_169)] [(.long p1), (.long p1)])) _
        refine XS.lcmp X493.here hx rfl (hb hby at_265) rfl ?_
        show Steps p.tables e below (T493.setTop (mkF m 266 #[.val (.long p1), .second, .val (.long p2), .second, .val (.int p3), .val (.int p4), .val (.double (FP.i2d p3)), .second, .val (.int (own_bel p4)), .val (.int (own_via p4)), .val (.ref b6), .val (.int (1 : Int32)), .val (.ref rrrb1_14_5_254), .val (.ref rb1_169)] [(.int (lcmpW p1 p1))])) _
        refine XS.ifNo X493.here hx rfl (hb hby at_266) rfl ((if0 _ _).trans (teq ((lw_eq p1 p1).mpr rfl)).2) ?_
        show Steps p.tables e below (T493.setTop (mkF m 269 #[.val (.long p1), .second, .val (.long p2), .second, .val (.int p3), .val (.int p4), .val (.double (FP.i2d p3)), .second, .val (.int (own_bel p4)), .val (.int (own_via p4)), .val (.ref b6), .val (.int (1 : Int32)), .val (.ref rrrb1_14_5_254), .val (.ref rb1_169)] [])) _
        refine XS.iconst X493.here hx rfl (hb hby at_269) ?_
        show Steps p.tables e below (T493.setTop (mkF m 270 #[.val (.long p1), .second, .val (.long p2), .second, .val (.int p3), .val (.int p4), .val (.double (FP.i2d p3)), .second, .val (.int (own_bel p4)), .val (.int (own_via p4)), .val (.ref b6), .val (.int (1 : Int32)), .val (.ref rrrb1_14_5_254), .val (.ref rb1_169)] [(.int (1 : Int32))])) _
        refine XS.goto X493.here hx rfl (pc0 := 270) (pc' := 274) rfl (hb hby at_270) (by decide) (by decide) ?_
        show Steps p.tables e below (T493.setTop (mkF m 274 #[.val (.long p1), .second, .val (.long p2), .second, .val (.int p3), .val (.int p4), .val (.double (FP.i2d p3)), .second, .val (.int (own_bel p4)), .val (.int (own_via p4)), .val (.ref b6), .val (.int (1 : Int32)), .val (.ref rrrb1_14_5_254), .val (.ref rb1_169)] [(.int (1 : Int32))])) _
        refine XS.istore X493.here hx rfl (hb hby at_274) rfl (l' := #[.val (.long p1), .second, .val (.long p2), .second, .val (.int p3), .val (.int p4), .val (.double (FP.i2d p3)), .second, .val (.int (own_bel p4)), .val (.int (own_via p4)), .val (.ref b6), .val (.int (1 : Int32)), .val (.ref rrrb1_14_5_254), .val (.ref rb1_169)]) rfl ?_
        show Steps p.tables e below (T493.setTop (mkF m 276 #[.val (.long p1), .second, .val (.long p2), .second, .val (.int p3), .val (.int p4), .val (.double (FP.i2d p3)), .second, .val (.int (own_bel p4)), .val (.int (own_via p4)), .val (.ref b6), .val (.int (1 : Int32)), .val (.ref rrrb1_14_5_254), .val (.ref rb1_169)] [])) _
        refine XS.iload X493.here hx rfl (hb hby at_276) rfl ?_
        exact k
      obtain ⟨fs, hr, hrun, hended, hW, hsame⟩ := X493.leave (v := (some (.int (1 : Int32)))) (fun h => by rw [Bd.returns] at h; cases h)
      refine ⟨_, _, k510 _ ?_, hrun, hended, _, _, rfl, ?_, ⟨_, rfl⟩, hW, hsame.mono (by decide) (by decide)⟩
      · exact retN X493 hx (t := .boolean) Bd.returns (by simp) (hb hby at_278) hr
      · exact ⟨rfl, N493⟩
set_option maxRecDepth 65536 in
set_option maxHeartbeats 40000000 in
theorem comes_1 {Post : Tables → Env → Array Value → State → Outcome → State → Prop} (hpost : ∀ tb e args s v u, (limb_1_1.after args s (.returned v) u = true ∧ limb_1_2.after args s (.returned v) u = true ∧ True) → FrameEnd s (.returned v) u (Jvm.fieldLocs frame_1_writes args s ++ Jvm.arrayLocs frame_1_arrays args s ++ Jvm.staticLocs frame_1_statics s) 24 128 → Post tb e args s (.returned v) u) :
    ArmFor flags0 classFile x code maxLocals ret World_1 tables_1 room_1 Calls_1 rest_1 Pre_1 Post := by
  intro l hfl _ _ p e ha hc hk s m args below hf hA hF happ hP
  obtain ⟨hcalls, hrest, hpre⟩ := hP
  obtain ⟨-, -, -, hnamed, -, -, -, hat⟩ := (Spec.applies_iff hf).mp happ
  obtain ⟨hg, hn⟩ := and_e (Cond.before_iff.mp (show (Jvm.Cond.and given_1 narrow_1).before args s = true from hpre))
  obtain ⟨hg0, hg⟩ := and_e hg
  obtain ⟨hi0, hg⟩ := and_e hg
  obtain ⟨hi1, hg⟩ := and_e hg
  obtain ⟨hi2, hg⟩ := and_e hg
  have hi3 := hg
  obtain ⟨w0, w1, w2, w3, rfl⟩ : ∃ w0 w1 w2 w3 : Value, args = #[w0, w1, w2, w3] := by
    have hs : args.size = 4 := by simpa [Cond.value, given_1] using hg0
    obtain ⟨L⟩ := args
    match L, hs with
    | [w0, w1, w2, w3], _ => exact ⟨w0, w1, w2, w3, rfl⟩
  have hw := fun d (hd : d ∈ tables_1) => atoms_spec (ws := Jvm.Cond.code x code maxLocals ret :: tables_1) hat d (List.mem_cons_of_mem _ hd)
  obtain ⟨p1, ev0⟩ := isL_v hi0
  obtain rfl : w0 = (.long p1) := Option.some.inj ev0
  obtain ⟨p2, ev1⟩ := isL_v hi1
  obtain rfl : w1 = (.long p2) := Option.some.inj ev1
  obtain ⟨p3, ev2⟩ := is_v hi2
  obtain rfl : w2 = (.int p3) := Option.some.inj ev2
  obtain ⟨p4, ev3⟩ := is_v hi3
  obtain rfl : w3 = (.int p4) := Option.some.inj ev3
  have own_eqint : ∀ {A : Array Value} {t : Term} {n : Int32}, (Cond.eq t (.int n)).value A s none s [] = some true → t.eval A s none [] s = some (.int n) := by
    intro A t n h
    obtain ⟨x, y, hx, hy, k1, k2⟩ := cmp_v (Or.inl h)
    obtain rfl : y = .int n := Option.some.inj (hy.symm.trans (Term.int_eval n))
    obtain ⟨z, rfl⟩ := k2
    rw [hx, gotT (Cond.eq_ints hx (Term.int_eval n)) h]
  obtain ⟨hn0, hn⟩ := and_e hn
  obtain ⟨hn1, hn⟩ := and_e hn
  obtain ⟨hn2, hn⟩ := and_e hn
  obtain ⟨hn3, hn⟩ := and_e hn
  obtain ⟨hn4, hn⟩ := and_e hn
  have hn5 := hn
  obtain ⟨sI, esI⟩ := exa_v hn0
  have SI := Sta.start esI (Or.inr ⟨(hw _ (List.mem_of_getElem? (i := 23) rfl)), (hw _ (List.mem_of_getElem? (i := 24) rfl))⟩)
  obtain ⟨sR, esR⟩ := exa_v hn1
  have SR := Sta.start esR (Or.inr ⟨(hw _ (List.mem_of_getElem? (i := 23) rfl)), (hw _ (List.mem_of_getElem? (i := 76) rfl))⟩)
  obtain ⟨sB, esB⟩ := exa_v hn2
  have SB := Sta.start esB (Or.inr ⟨(hw _ (List.mem_of_getElem? (i := 23) rfl)), (hw _ (List.mem_of_getElem? (i := 89) rfl))⟩)
  have OR := Fld.start ((fld_at esR).symm.trans (own_eqint hn3))
  have OB := Fld.start ((fld_at esB).symm.trans (own_eqint hn4))
  have OI := Fld.start ((fld_at esI).symm.trans (own_eqint hn5))
  have hIR : sI ≠ sR := OI.ne OR (fun e => absurd (Value.int.inj e) (by decide))
  have hIB : sI ≠ sB := OI.ne OB (fun e => absurd (Value.int.inj e) (by decide))
  have hRB : sR ≠ sB := OR.ne OB (fun e => absurd (Value.int.inj e) (by decide))
  obtain ⟨n, o, h1, h2, h3, _, L, rfl, ⟨rfl, N⟩, hq⟩ := own_rm0 l s _ hw tables_1 p1 p2 p3 p4 sI sR sB s.heap s.heap.size (Nat.le_refl _) (Old.start s) SI SR SB hIR hIB hRB  p e ha hc hk s m _ below hf ((Spec.applies_iff_loose hf).mp happ).1 ⟨rfl, State.Warmed39.refl s, rfl⟩ trivial
  refine ⟨n, _, h1, h2, h3, hpost _ _ _ _ _ _ ⟨Cond.after_iff.mpr rfl, Cond.after_iff.mpr (eq_i res_at (Term.int_eval (1)) rfl), trivial⟩ ⟨hq.1, hq.2.1, (hq.2.2.sift fun y hy => Or.inr (N y hy)).mono (by decide) (by decide)⟩⟩
theorem main_1_1 : Claimed_1_1 := comes_1 fun _ _ _ _ _ _ h hF => ⟨h.1, hF⟩
theorem main_1_2 : Claimed_1_2 := comes_1 fun _ _ _ _ _ _ h hF => ⟨h.2.1, hF⟩
end Jvm.Pilot.@@N@@
namespace Jvm.Pilot.@@N@@
open Jvm Jvm.ClassFile Sem Op Lib Jvm.Free Jvm.Stand Jvm.Pilot.@@N@@.Jvm.D
/-! MADE BY PROGRAM (witnessworld.py) out of the Statement's table words and the real class files: 15 classes; the members and pool entries that the words name. The judged class is class 1, her method 1. -/
namespace start1
open Jvm.ClassFile
def u (s : String) : CpInfo := .utf8 (stringToUtf16 s)
/-- a pool by its gaps: so many unusable entries, then the entry; so many at the end -/
def gap : Nat → List CpInfo → List CpInfo
  | 0, r => r
  | n + 1, r => .unusable :: gap n r
def poolList (es : List (Nat × CpInfo)) (last : Nat) : List CpInfo := es.foldr (fun e r => gap e.1 (e.2 :: r)) (gap last [])
def pool (es : List (Nat × CpInfo)) (last : Nat) : Array CpInfo := ⟨poolList es last⟩
def fileOf (pool : Array CpInfo) (this : Nat) (attrs : Array Attribute := #[]) (ms : Array MethodInfo := #[]) (fl : Nat := 33) (sup : Nat := 0) (ifs : Array Nat := #[]) (fds : Array FieldInfo := #[]) : ClassFile where
  minorVersion := 0
  majorVersion := 65
  constantPool := pool
  accessFlags := fl
  thisClass := this
  superClass := sup
  interfaces := ifs
  fields := fds
  methods := ms
  attributes := attrs
def plain (name : String) (sup : Option ClassId) : Class where
  name := name
  kind := .ordinary
  loader := none
  accessFlags := 33
  super := sup
  interfaces := #[]
  cf := none
  fields := #[]
  methods := #[]
  instanceTypes := #[]
  staticTypes := #[]
  resolved := #[]
  callSites := []
  init := .initialized
  statics := none
  mirror := none

def pool0 : Array CpInfo := pool [(5, u "<init>"), (0, u "()V"), (1, .class_ 10), (1, u "java/lang/Object")] 113

def k0c0 : Code := { maxStack := 0, maxLocals := 1, code := object_method_1_code, exceptionTable := #[], attributes := #[] }
def k0m0 : Method := { name := "<init>", desc := "()V", sig := { parameters := [], returnType := none }, accessFlags := 1, code := some k0c0 }
/-- java/lang/Object -/
def k0 : Class := { plain "java/lang/Object" none with
  accessFlags := 33
  interfaces := #[]
  cf := some (fileOf pool0 8 #[] #[{ accessFlags := 1, nameIndex := 5, descriptorIndex := 6, attributes := #[] }] 33 0 #[] #[])
  fields := #[]
  methods := #[k0m0]
  instanceTypes := #[]
  staticTypes := #[]
  resolved := Array.replicate 124 none
  statics := none }

def pool1 : Array CpInfo := pool [(2, .class_ 4), (1, u "java/lang/Object"), (0, u "<init>"), (0, u "()V"), (0, .class_ 8), (0, u "com/example/reckoner/reckoner/OperandStack"), (0, .methodref 7 10), (0, .nameAndType 5 11), (0, u "(I)V"), (0, .methodref 13 14), (0, .class_ 15), (0, .nameAndType 16 17), (0, u "com/example/reckoner/reckoner/Value"), (0, u "integer"), (0, u "(J)Lcom/example/reckoner/reckoner/Value;"), (0, .methodref 7 19), (0, .nameAndType 20 21), (0, u "push"), (0, u "(Lcom/example/reckoner/reckoner/Value;)V"), (0, .methodref 7 23), (0, .nameAndType 24 25), (0, u "pop"), (0, u "()Lcom/example/reckoner/reckoner/Value;"), (0, .methodref 7 27), (0, .nameAndType 28 29), (0, u "pushReal"), (0, u "(D)V"), (0, .methodref 7 31), (0, .nameAndType 32 33), (0, u "isInteger"), (0, u "(I)Z"), (0, .methodref 7 35), (0, .nameAndType 36 25), (0, u "peek"), (0, .methodref 13 38), (0, .nameAndType 39 40), (0, u "type"), (0, u "()Lcom/example/reckoner/reckoner/Value$Type;"), (0, .fieldref 42 43), (0, .class_ 44), (0, .nameAndType 45 46), (0, u "com/example/reckoner/reckoner/Value$Type"), (0, u "REAL"), (0, u "Lcom/example/reckoner/reckoner/Value$Type;"), (0, .methodref 13 48), (0, .nameAndType 49 50), (0, u "doubleValue"), (0, u "()D"), (0, .methodref 7 52), (0, .nameAndType 53 50), (0, u "popDouble"), (0, .methodref 13 55), (0, .nameAndType 32 56), (0, u "()Z"), (0, .methodref 13 58), (0, .nameAndType 59 60), (0, u "longValue"), (0, u "()J"), (0, .class_ 62), (0, u "com/example/reckoner/reckoner/OperandStackPushRealPinLaw"), (2, u "law"), (0, u "(JJII)Z")] 5

def k1m0 : Method := { name := "<init>", desc := "()V", sig := { parameters := [], returnType := none }, accessFlags := 2, code := none }
def k1c1 : Code := { maxStack := 4, maxLocals := 14, code := code, exceptionTable := #[], attributes := #[] }
def k1m1 : Method := { name := "law", desc := "(JJII)Z", sig := { parameters := [.long, .long, .int, .int], returnType := some .boolean }, accessFlags := 9, code := some k1c1 }
/-- com/example/reckoner/reckoner/OperandStackPushRealPinLaw -/
def k1 : Class := { plain "com/example/reckoner/reckoner/OperandStackPushRealPinLaw" (some 0) with
  accessFlags := 49
  interfaces := #[]
  cf := some (fileOf pool1 61 #[] #[{ accessFlags := 2, nameIndex := 5, descriptorIndex := 6, attributes := #[] }, { accessFlags := 9, nameIndex := 65, descriptorIndex := 66, attributes := #[] }] 49 2 #[] #[])
  fields := #[]
  methods := #[k1m0, k1m1]
  instanceTypes := #[]
  staticTypes := #[]
  resolved := Array.replicate 72 none
  statics := none }

def pool2 : Array CpInfo := pool [(1, .methodref 2 3), (0, .class_ 4), (0, .nameAndType 5 6), (0, u "java/lang/Object"), (0, u "<init>"), (0, u "()V"), (0, .class_ 8), (0, u "com/example/reckoner/reckoner/Value"), (0, .fieldref 10 11), (0, .class_ 12), (0, .nameAndType 13 14), (0, u "com/example/reckoner/reckoner/OperandStack"), (0, u "values"), (0, u "[Lcom/example/reckoner/reckoner/Value;"), (0, .fieldref 10 16), (0, .nameAndType 17 18), (0, u "reals"), (0, u "[D"), (0, .fieldref 10 20), (0, .nameAndType 21 22), (0, u "height"), (0, u "I"), (0, .methodref 10 24), (0, .nameAndType 25 26), (0, u "valueAt"), (0, u "(I)Lcom/example/reckoner/reckoner/Value;"), (0, .methodref 7 28), (0, .nameAndType 29 30), (0, u "doubleValue"), (0, u "()D"), (0, .methodref 7 32), (0, .nameAndType 33 34), (0, u "real"), (0, u "(D)Lcom/example/reckoner/reckoner/Value;"), (0, .methodref 7 36), (0, .nameAndType 37 38), (0, u "isInteger"), (0, u "()Z"), (0, u "(I)V"), (2, u "push"), (0, u "(Lcom/example/reckoner/reckoner/Value;)V"), (0, u "pushReal"), (0, u "(D)V"), (0, u "pop"), (0, u "()Lcom/example/reckoner/reckoner/Value;"), (0, u "popDouble"), (1, u "peek"), (0, u "(I)Z")] 2

def k2c0 : Code := { maxStack := 2, maxLocals := 2, code := prog_48_method_1_code, exceptionTable := #[], attributes := #[] }
def k2m0 : Method := { name := "<init>", desc := "(I)V", sig := { parameters := [.int], returnType := none }, accessFlags := 0, code := some k2c0 }
def k2c1 : Code := { maxStack := 5, maxLocals := 2, code := prog_48_method_2_code, exceptionTable := #[], attributes := #[] }
def k2m1 : Method := { name := "push", desc := "(Lcom/example/reckoner/reckoner/Value;)V", sig := { parameters := [(.object "com/example/reckoner/reckoner/Value")], returnType := none }, accessFlags := 0, code := some k2c1 }
def k2c2 : Code := { maxStack := 5, maxLocals := 3, code := prog_48_method_3_code, exceptionTable := #[], attributes := #[] }
def k2m2 : Method := { name := "pushReal", desc := "(D)V", sig := { parameters := [.double], returnType := none }, accessFlags := 0, code := some k2c2 }
def k2c3 : Code := { maxStack := 3, maxLocals := 1, code := prog_48_method_4_code, exceptionTable := #[], attributes := #[] }
def k2m3 : Method := { name := "pop", desc := "()Lcom/example/reckoner/reckoner/Value;", sig := { parameters := [], returnType := some (.object "com/example/reckoner/reckoner/Value") }, accessFlags := 0, code := some k2c3 }
def k2c4 : Code := { maxStack := 3, maxLocals := 2, code := prog_48_method_5_code, exceptionTable := #[], attributes := #[] }
def k2m4 : Method := { name := "popDouble", desc := "()D", sig := { parameters := [], returnType := some .double }, accessFlags := 0, code := some k2c4 }
def k2c5 : Code := { maxStack := 3, maxLocals := 1, code := prog_48_method_6_code, exceptionTable := #[], attributes := #[] }
def k2m5 : Method := { name := "peek", desc := "()Lcom/example/reckoner/reckoner/Value;", sig := { parameters := [], returnType := some (.object "com/example/reckoner/reckoner/Value") }, accessFlags := 0, code := some k2c5 }
def k2c6 : Code := { maxStack := 2, maxLocals := 3, code := prog_48_method_7_code, exceptionTable := #[], attributes := #[] }
def k2m6 : Method := { name := "valueAt", desc := "(I)Lcom/example/reckoner/reckoner/Value;", sig := { parameters := [.int], returnType := some (.object "com/example/reckoner/reckoner/Value") }, accessFlags := 2, code := some k2c6 }
def k2c7 : Code := { maxStack := 3, maxLocals := 3, code := prog_48_method_8_code, exceptionTable := #[], attributes := #[] }
def k2m7 : Method := { name := "isInteger", desc := "(I)Z", sig := { parameters := [.int], returnType := some .boolean }, accessFlags := 0, code := some k2c7 }
/-- com/example/reckoner/reckoner/OperandStack -/
def k2 : Class := { plain "com/example/reckoner/reckoner/OperandStack" (some 0) with
  accessFlags := 48
  interfaces := #[]
  cf := some (fileOf pool2 10 #[] #[{ accessFlags := 0, nameIndex := 5, descriptorIndex := 39, attributes := #[] }, { accessFlags := 0, nameIndex := 42, descriptorIndex := 43, attributes := #[] }, { accessFlags := 0, nameIndex := 44, descriptorIndex := 45, attributes := #[] }, { accessFlags := 0, nameIndex := 46, descriptorIndex := 47, attributes := #[] }, { accessFlags := 0, nameIndex := 48, descriptorIndex := 30, attributes := #[] }, { accessFlags := 0, nameIndex := 50, descriptorIndex := 47, attributes := #[] }, { accessFlags := 2, nameIndex := 25, descriptorIndex := 26, attributes := #[] }, { accessFlags := 0, nameIndex := 37, descriptorIndex := 51, attributes := #[] }] 48 2 #[] #[{ accessFlags := 18, nameIndex := 13, descriptorIndex := 14, attributes := #[] }, { accessFlags := 18, nameIndex := 17, descriptorIndex := 18, attributes := #[] }, { accessFlags := 2, nameIndex := 21, descriptorIndex := 22, attributes := #[] }])
  fields := #[{ name := "values", type := (.array (.object "com/example/reckoner/reckoner/Value")), accessFlags := 18, slot := 0, constantValue := 0 }, { name := "reals", type := (.array .double), accessFlags := 18, slot := 1, constantValue := 0 }, { name := "height", type := .int, accessFlags := 2, slot := 2, constantValue := 0 }]
  methods := #[k2m0, k2m1, k2m2, k2m3, k2m4, k2m5, k2m6, k2m7]
  instanceTypes := #[(.array (.object "com/example/reckoner/reckoner/Value")), (.array .double), .int]
  staticTypes := #[]
  resolved := Array.replicate 54 none
  statics := none }

def pool3 : Array CpInfo := pool [(1, .methodref 2 3), (0, .class_ 4), (0, .nameAndType 5 6), (0, u "java/lang/Object"), (0, u "<init>"), (0, u "()V"), (0, .fieldref 8 9), (0, .class_ 10), (0, .nameAndType 11 12), (0, u "com/example/reckoner/reckoner/Value"), (0, u "type"), (0, u "Lcom/example/reckoner/reckoner/Value$Type;"), (0, .fieldref 8 14), (0, .nameAndType 15 16), (0, u "integerValue"), (0, u "J"), (0, .fieldref 8 18), (0, .nameAndType 19 20), (0, u "realValue"), (0, u "D"), (0, .fieldref 22 23), (0, .class_ 24), (0, .nameAndType 25 12), (0, u "com/example/reckoner/reckoner/Value$Type"), (0, u "INTEGER"), (0, .methodref 8 27), (0, .nameAndType 5 28), (0, u "(Lcom/example/reckoner/reckoner/Value$Type;JD)V"), (0, .fieldref 22 30), (0, .nameAndType 31 12), (0, u "REAL"), (2, u "TRUE"), (0, u "Lcom/example/reckoner/reckoner/Value;"), (2, u "FALSE"), (59, u "real"), (0, u "(D)Lcom/example/reckoner/reckoner/Value;"), (8, u "integer"), (0, u "(J)Lcom/example/reckoner/reckoner/Value;"), (0, .fieldref 22 111), (0, .nameAndType 112 12), (0, u "BOOLEAN"), (1, .class_ 116), (1, u "com/example/reckoner/reckoner/Value$Kind"), (16, u "()Z"), (20, u "()Lcom/example/reckoner/reckoner/Value$Type;"), (2, u "isInteger"), (0, u "longValue"), (0, u "()J"), (0, u "doubleValue"), (0, u "()D")] 27

def k3c0 : Code := { maxStack := 3, maxLocals := 6, code := prog_69_method_1_code, exceptionTable := #[], attributes := #[] }
def k3m0 : Method := { name := "<init>", desc := "(Lcom/example/reckoner/reckoner/Value$Type;JD)V", sig := { parameters := [(.object "com/example/reckoner/reckoner/Value$Type"), .long, .double], returnType := none }, accessFlags := 2, code := some k3c0 }
def k3c1 : Code := { maxStack := 7, maxLocals := 2, code := prog_69_method_2_code, exceptionTable := #[], attributes := #[] }
def k3m1 : Method := { name := "integer", desc := "(J)Lcom/example/reckoner/reckoner/Value;", sig := { parameters := [.long], returnType := some (.object "com/example/reckoner/reckoner/Value") }, accessFlags := 9, code := some k3c1 }
def k3c2 : Code := { maxStack := 7, maxLocals := 2, code := prog_69_method_3_code, exceptionTable := #[], attributes := #[] }
def k3m2 : Method := { name := "real", desc := "(D)Lcom/example/reckoner/reckoner/Value;", sig := { parameters := [.double], returnType := some (.object "com/example/reckoner/reckoner/Value") }, accessFlags := 9, code := some k3c2 }
def k3c3 : Code := { maxStack := 1, maxLocals := 1, code := prog_69_method_7_code, exceptionTable := #[], attributes := #[] }
def k3m3 : Method := { name := "type", desc := "()Lcom/example/reckoner/reckoner/Value$Type;", sig := { parameters := [], returnType := some (.object "com/example/reckoner/reckoner/Value$Type") }, accessFlags := 1, code := some k3c3 }
def k3c4 : Code := { maxStack := 2, maxLocals := 1, code := prog_69_method_9_code, exceptionTable := #[], attributes := #[] }
def k3m4 : Method := { name := "isInteger", desc := "()Z", sig := { parameters := [], returnType := some .boolean }, accessFlags := 0, code := some k3c4 }
def k3c5 : Code := { maxStack := 3, maxLocals := 1, code := prog_69_method_10_code, exceptionTable := #[], attributes := #[] }
def k3m5 : Method := { name := "longValue", desc := "()J", sig := { parameters := [], returnType := some .long }, accessFlags := 1, code := some k3c5 }
def k3c6 : Code := { maxStack := 3, maxLocals := 1, code := prog_69_method_11_code, exceptionTable := #[], attributes := #[] }
def k3m6 : Method := { name := "doubleValue", desc := "()D", sig := { parameters := [], returnType := some .double }, accessFlags := 1, code := some k3c6 }
/-- com/example/reckoner/reckoner/Value -/
def k3 : Class := { plain "com/example/reckoner/reckoner/Value" (some 0) with
  accessFlags := 49
  interfaces := #[]
  cf := some (fileOf pool3 8 #[.nestMembers #[114, 22]] #[{ accessFlags := 2, nameIndex := 5, descriptorIndex := 28, attributes := #[] }, { accessFlags := 9, nameIndex := 108, descriptorIndex := 109, attributes := #[] }, { accessFlags := 9, nameIndex := 98, descriptorIndex := 99, attributes := #[] }, { accessFlags := 1, nameIndex := 11, descriptorIndex := 154, attributes := #[] }, { accessFlags := 0, nameIndex := 157, descriptorIndex := 133, attributes := #[] }, { accessFlags := 1, nameIndex := 158, descriptorIndex := 159, attributes := #[] }, { accessFlags := 1, nameIndex := 160, descriptorIndex := 161, attributes := #[] }] 49 2 #[] #[{ accessFlags := 24, nameIndex := 34, descriptorIndex := 35, attributes := #[] }, { accessFlags := 24, nameIndex := 38, descriptorIndex := 35, attributes := #[] }, { accessFlags := 18, nameIndex := 11, descriptorIndex := 12, attributes := #[] }, { accessFlags := 18, nameIndex := 15, descriptorIndex := 16, attributes := #[] }, { accessFlags := 18, nameIndex := 19, descriptorIndex := 20, attributes := #[] }])
  fields := #[{ name := "TRUE", type := (.object "com/example/reckoner/reckoner/Value"), accessFlags := 24, slot := 0, constantValue := 0 }, { name := "FALSE", type := (.object "com/example/reckoner/reckoner/Value"), accessFlags := 24, slot := 1, constantValue := 0 }, { name := "type", type := (.object "com/example/reckoner/reckoner/Value$Type"), accessFlags := 18, slot := 0, constantValue := 0 }, { name := "integerValue", type := .long, accessFlags := 18, slot := 1, constantValue := 0 }, { name := "realValue", type := .double, accessFlags := 18, slot := 2, constantValue := 0 }]
  methods := #[k3m0, k3m1, k3m2, k3m3, k3m4, k3m5, k3m6]
  instanceTypes := #[(.object "com/example/reckoner/reckoner/Value$Type"), .long, .double]
  staticTypes := #[(.object "com/example/reckoner/reckoner/Value"), (.object "com/example/reckoner/reckoner/Value")]
  resolved := Array.replicate 189 none
  statics := none }

def pool4 : Array CpInfo := pool [(1, .class_ 2), (0, u "java/lang/constant/Constable"), (0, .class_ 4), (0, u "java/lang/Object")] 6

/-- java/lang/constant/Constable -/
def k4 : Class := { plain "java/lang/constant/Constable" (some 0) with
  accessFlags := 1537
  interfaces := #[]
  cf := some (fileOf pool4 1 #[] #[] 1537 3 #[] #[])
  fields := #[]
  methods := #[]
  instanceTypes := #[]
  staticTypes := #[]
  resolved := Array.replicate 11 none
  statics := none }

def pool5 : Array CpInfo := pool [(1, .class_ 2), (0, u "java/lang/Comparable"), (0, .class_ 4), (0, u "java/lang/Object")] 7

/-- java/lang/Comparable -/
def k5 : Class := { plain "java/lang/Comparable" (some 0) with
  accessFlags := 1537
  interfaces := #[]
  cf := some (fileOf pool5 1 #[] #[] 1537 3 #[] #[])
  fields := #[]
  methods := #[]
  instanceTypes := #[]
  staticTypes := #[]
  resolved := Array.replicate 12 none
  statics := none }

def pool6 : Array CpInfo := pool [(1, .class_ 2), (0, u "java/io/Serializable"), (0, .class_ 4), (0, u "java/lang/Object")] 2

/-- java/io/Serializable -/
def k6 : Class := { plain "java/io/Serializable" (some 0) with
  accessFlags := 1537
  interfaces := #[]
  cf := some (fileOf pool6 1 #[] #[] 1537 3 #[] #[])
  fields := #[]
  methods := #[]
  instanceTypes := #[]
  staticTypes := #[]
  resolved := Array.replicate 7 none
  statics := none }

def pool7 : Array CpInfo := pool [(2, .class_ 4), (1, u "java/lang/Enum"), (0, u "name"), (0, u "Ljava/lang/String;"), (2, u "ordinal"), (0, u "I"), (1, .class_ 14), (1, u "java/lang/Object"), (4, u "hash"), (86, .class_ 108), (1, u "java/lang/Enum$EnumDesc"), (2, .class_ 112), (0, u "java/lang/constant/Constable"), (0, .class_ 114), (0, u "java/lang/Comparable"), (0, .class_ 116), (0, u "java/io/Serializable")] 87

/-- java/lang/Enum -/
def k7 : Class := { plain "java/lang/Enum" (some 0) with
  accessFlags := 1057
  interfaces := #[4, 5, 6]
  cf := some (fileOf pool7 2 #[.nestMembers #[106]] #[] 1057 12 #[111, 113, 115] #[{ accessFlags := 18, nameIndex := 5, descriptorIndex := 6, attributes := #[] }, { accessFlags := 18, nameIndex := 9, descriptorIndex := 10, attributes := #[] }, { accessFlags := 2, nameIndex := 19, descriptorIndex := 10, attributes := #[] }])
  fields := #[{ name := "name", type := (.object "java/lang/String"), accessFlags := 18, slot := 0, constantValue := 0 }, { name := "ordinal", type := .int, accessFlags := 18, slot := 1, constantValue := 0 }, { name := "hash", type := .int, accessFlags := 2, slot := 2, constantValue := 0 }]
  methods := #[]
  instanceTypes := #[(.object "java/lang/String"), .int, .int]
  staticTypes := #[]
  resolved := Array.replicate 204 none
  statics := none }

def pool8 : Array CpInfo := pool [(1, .class_ 2), (0, u "com/example/reckoner/reckoner/Value$Type"), (2, u "INTEGER"), (0, u "Lcom/example/reckoner/reckoner/Value$Type;"), (2, u "REAL"), (2, u "BOOLEAN"), (2, u "$VALUES"), (0, u "[Lcom/example/reckoner/reckoner/Value$Type;"), (6, .class_ 25), (1, u "java/lang/Enum"), (26, .class_ 53), (0, u "com/example/reckoner/reckoner/Value")] 2

/-- com/example/reckoner/reckoner/Value$Type -/
def k8 : Class := { plain "com/example/reckoner/reckoner/Value$Type" (some 7) with
  accessFlags := 16433
  interfaces := #[]
  cf := some (fileOf pool8 1 #[.nestHost 52] #[] 16433 23 #[] #[{ accessFlags := 16409, nameIndex := 5, descriptorIndex := 6, attributes := #[] }, { accessFlags := 16409, nameIndex := 9, descriptorIndex := 6, attributes := #[] }, { accessFlags := 16409, nameIndex := 12, descriptorIndex := 6, attributes := #[] }, { accessFlags := 4122, nameIndex := 15, descriptorIndex := 16, attributes := #[] }])
  fields := #[{ name := "INTEGER", type := (.object "com/example/reckoner/reckoner/Value$Type"), accessFlags := 16409, slot := 0, constantValue := 0 }, { name := "REAL", type := (.object "com/example/reckoner/reckoner/Value$Type"), accessFlags := 16409, slot := 1, constantValue := 0 }, { name := "BOOLEAN", type := (.object "com/example/reckoner/reckoner/Value$Type"), accessFlags := 16409, slot := 2, constantValue := 0 }, { name := "$VALUES", type := (.array (.object "com/example/reckoner/reckoner/Value$Type")), accessFlags := 4122, slot := 3, constantValue := 0 }]
  methods := #[]
  instanceTypes := #[(.object "java/lang/String"), .int, .int]
  staticTypes := #[(.object "com/example/reckoner/reckoner/Value$Type"), (.object "com/example/reckoner/reckoner/Value$Type"), (.object "com/example/reckoner/reckoner/Value$Type"), (.array (.object "com/example/reckoner/reckoner/Value$Type"))]
  resolved := Array.replicate 56 none
  statics := some 0 }

def pool9 : Array CpInfo := pool [(1, u "java/lang/Cloneable"), (0, .class_ 1), (0, u "java/lang/Object"), (0, .class_ 3)] 3

/-- java/lang/Cloneable -/
def k9 : Class := { plain "java/lang/Cloneable" (some 0) with
  accessFlags := 1537
  interfaces := #[]
  cf := some (fileOf pool9 2 #[] #[] 1537 4 #[] #[])
  fields := #[]
  methods := #[]
  instanceTypes := #[]
  staticTypes := #[]
  resolved := Array.replicate 8 none
  statics := none }

/-- the primitive byte -/
def k10 : Class := { plain "byte" none with kind := .primitive 'B', accessFlags := 0x411 }
/-- [B -/
def k11 : Class := { plain "[B" (some 0) with kind := .array 10 .byte, interfaces := #[9, 6], accessFlags := 1041 }

/-- the primitive int -/
def k12 : Class := { plain "int" none with kind := .primitive 'I', accessFlags := 0x411 }
/-- [I -/
def k13 : Class := { plain "[I" (some 0) with kind := .array 12 .int, interfaces := #[9, 6], accessFlags := 1041 }

/-- [Lcom/example/reckoner/reckoner/Value; -/
def k14 : Class := { plain "[Lcom/example/reckoner/reckoner/Value;" (some 0) with kind := .array 3 (.object "com/example/reckoner/reckoner/Value"), interfaces := #[9, 6], accessFlags := 1041 }

def heap : Heap := #[{ cls := 8, slots := #[.ref 1, .ref 2, .ref 3, .null], vm := .statics 8 },
  { cls := 8, slots := #[.null, .int 0, .int 0], vm := .none },
  { cls := 8, slots := #[.null, .int 1, .int 0], vm := .none },
  { cls := 8, slots := #[.null, .int 2, .int 0], vm := .none }]
/-- the primitive double -/
def k15 : Class := { plain "double" none with kind := .primitive 'D', accessFlags := 0x411 }
/-- [D -/
def k16 : Class := { plain "[D" (some 0) with kind := .array 15 .double, interfaces := #[9, 6], accessFlags := 1041 }

def classes : Array Class := #[k0, k1, k2, k3, k4, k5, k6, k7, k8, k9, k10, k11, k12, k13, k14, k15, k16]
def interned : List (Array UInt16 × Addr) := []
def slotsUsed : Nat := 13
def theMethod : MethodId := ⟨1, 1⟩
def args0 : Array Value := #[.long 5, .long 6, .int 7, .int 3]
def aboutOver (below : List Frame) : State where
  vm := { classes := classes, interned := interned.toArray }
  heap := heap
  slotsUsed := slotsUsed
  threads := #[{ frames := .invoking theMethod args0 :: below }]
def below0 : List Frame := [.native { method := ⟨0, 0⟩, args := #[] }]
def about1 : State := aboutOver below0
def p0 : Program := .bare "" "" ""
def e0 : Env := launch0.env 0 0 0
theorem w_frames : about1.frames = Frame.invoking theMethod args0 :: below0 := rfl
set_option maxRecDepth 65536 in
theorem w_args : argsFit about1.vm theMethod args0 = true := by decide +kernel
set_option maxRecDepth 65536 in
theorem w_heap : heapFits about1 = true := by decide +kernel
set_option maxRecDepth 65536 in
theorem w_runnable : about1.curStatus? = some .runnable := by decide +kernel
set_option maxRecDepth 65536 in
theorem w_alone : about1.alone = true := by decide +kernel
set_option maxRecDepth 65536 in
theorem w_named : about1.methodNamed? x = some theMethod := by decide +kernel
set_option maxRecDepth 65536 in
theorem w_hears : about1.hears theMethod below0 = true := by decide +kernel
set_option maxRecDepth 65536 in
theorem w_ripe : about1.ripe theMethod args0 below0 = true := by decide +kernel
theorem w_running : about1.status = .running := rfl
set_option maxRecDepth 65536 in
theorem w_room : about1.hasRoom e0.platform room_1 = true :=
  launch0.hasRoom_least _ room_1 (by decide +kernel) (by decide +kernel) (by decide +kernel) (by decide +kernel) (by decide +kernel) (by decide +kernel)
theorem allAtoms_all (ts : List Jvm.Cond) (a : Array Jvm.Value) (st : Jvm.State) : (allAtoms ts).before a st = ts.all (fun c => c.before a st) := by
  induction ts with
  | nil => rfl
  | cons c t ih =>
    show (Jvm.Cond.and c (allAtoms t)).before a st = _
    rw [Jvm.Cond.before_and, ih, List.all_cons]
def words1 : List Jvm.Cond := Jvm.Cond.code x code maxLocals ret :: tables_1
/-- a 'code' word, met by the world's own term for the bytes: nothing is compared byte by byte -/
theorem code_word {y : MethodName} {bytes : ByteArray} {mx : Nat} {rt : Option FieldType} {a : Array Value} {s : State} {m : MethodId} {meth : Method} {c : Code} (h1 : s.methodNamed? y = some m) (h2 : s.vm.method? m = some meth) (h3 : meth.code = some c) (h4 : c.code = bytes)
    (h5 : (c.maxLocals == mx && c.exceptionTable.isEmpty && decide (c.maxStack ≤ mostOperands) && decide (meth.sig.returnType = rt) && !meth.locks && decide (parseMethodDescriptor y.desc = some meth.sig)) = true) : (Jvm.Cond.code y bytes mx rt).before a s = true := by
  simp only [Bool.and_eq_true, beq_iff_eq, Bool.not_eq_true', decide_eq_true_eq] at h5
  obtain ⟨⟨⟨⟨⟨g1, g2⟩, g3⟩, g4⟩, g5⟩, g6⟩ := h5
  simp [Cond.before, Cond.holds, Cond.value, h1, h2, h3, h4, g1, g2, g3, g4, g5, g6]
def isCode : Jvm.Cond → Bool
  | .code _ _ _ _ => true
  | _ => false
theorem all_split {L : List Jvm.Cond} {P : Jvm.Cond → Bool} (h1 : L.all (fun c => isCode c || P c) = true) (h2 : ∀ c ∈ L.filter isCode, P c = true) : L.all P = true := by
  refine List.all_eq_true.mpr fun c hc => ?_
  have h := List.all_eq_true.mp h1 c hc
  rcases Bool.eq_false_or_eq_true (isCode c) with hi | hi
  · exact h2 c (List.mem_filter.mpr ⟨hc, hi⟩)
  · simpa [hi] using h
set_option maxRecDepth 65536 in
theorem w_c0 : (Jvm.Cond.code x code maxLocals ret).before args0 about1 = true := code_word (m := ⟨1, 1⟩) (meth := k1m1) (c := k1c1) (by decide +kernel) rfl rfl rfl (by decide +kernel)
set_option maxRecDepth 65536 in
theorem w_c1 : (Jvm.Cond.code ({ cls := "com/example/reckoner/reckoner/OperandStack", name := "<init>", desc := "(I)V" } : Jvm.MethodName) prog_48_method_1_code (2 : Nat) (Option.none : Option Jvm.ClassFile.FieldType)).before args0 about1 = true := code_word (m := ⟨2, 0⟩) (meth := k2m0) (c := k2c0) (by decide +kernel) rfl rfl rfl (by decide +kernel)
set_option maxRecDepth 65536 in
theorem w_c2 : (Jvm.Cond.code ({ cls := "java/lang/Object", name := "<init>", desc := "()V" } : Jvm.MethodName) object_method_1_code (1 : Nat) (Option.none : Option Jvm.ClassFile.FieldType)).before args0 about1 = true := code_word (m := ⟨0, 0⟩) (meth := k0m0) (c := k0c0) (by decide +kernel) rfl rfl rfl (by decide +kernel)
set_option maxRecDepth 65536 in
theorem w_c3 : (Jvm.Cond.code ({ cls := "com/example/reckoner/reckoner/Value", name := "integer", desc := "(J)Lcom/example/reckoner/reckoner/Value;" } : Jvm.MethodName) prog_69_method_2_code (2 : Nat) (Option.some (Jvm.ClassFile.FieldType.object "com/example/reckoner/reckoner/Value"))).before args0 about1 = true := code_word (m := ⟨3, 1⟩) (meth := k3m1) (c := k3c1) (by decide +kernel) rfl rfl rfl (by decide +kernel)
set_option maxRecDepth 65536 in
theorem w_c4 : (Jvm.Cond.code ({ cls := "com/example/reckoner/reckoner/Value", name := "<init>", desc := "(Lcom/example/reckoner/reckoner/Value$Type;JD)V" } : Jvm.MethodName) prog_69_method_1_code (6 : Nat) (Option.none : Option Jvm.ClassFile.FieldType)).before args0 about1 = true := code_word (m := ⟨3, 0⟩) (meth := k3m0) (c := k3c0) (by decide +kernel) rfl rfl rfl (by decide +kernel)
set_option maxRecDepth 65536 in
theorem w_c5 : (Jvm.Cond.code ({ cls := "com/example/reckoner/reckoner/OperandStack", name := "push", desc := "(Lcom/example/reckoner/reckoner/Value;)V" } : Jvm.MethodName) prog_48_method_2_code (2 : Nat) (Option.none : Option Jvm.ClassFile.FieldType)).before args0 about1 = true := code_word (m := ⟨2, 1⟩) (meth := k2m1) (c := k2c1) (by decide +kernel) rfl rfl rfl (by decide +kernel)
set_option maxRecDepth 65536 in
theorem w_c6 : (Jvm.Cond.code ({ cls := "com/example/reckoner/reckoner/OperandStack", name := "pop", desc := "()Lcom/example/reckoner/reckoner/Value;" } : Jvm.MethodName) prog_48_method_4_code (1 : Nat) (Option.some (Jvm.ClassFile.FieldType.object "com/example/reckoner/reckoner/Value"))).before args0 about1 = true := code_word (m := ⟨2, 3⟩) (meth := k2m3) (c := k2c3) (by decide +kernel) rfl rfl rfl (by decide +kernel)
set_option maxRecDepth 65536 in
theorem w_c7 : (Jvm.Cond.code ({ cls := "com/example/reckoner/reckoner/OperandStack", name := "valueAt", desc := "(I)Lcom/example/reckoner/reckoner/Value;" } : Jvm.MethodName) prog_48_method_7_code (3 : Nat) (Option.some (Jvm.ClassFile.FieldType.object "com/example/reckoner/reckoner/Value"))).before args0 about1 = true := code_word (m := ⟨2, 6⟩) (meth := k2m6) (c := k2c6) (by decide +kernel) rfl rfl rfl (by decide +kernel)
set_option maxRecDepth 65536 in
theorem w_c8 : (Jvm.Cond.code ({ cls := "com/example/reckoner/reckoner/OperandStack", name := "pushReal", desc := "(D)V" } : Jvm.MethodName) prog_48_method_3_code (3 : Nat) (Option.none : Option Jvm.ClassFile.FieldType)).before args0 about1 = true := code_word (m := ⟨2, 2⟩) (meth := k2m2) (c := k2c2) (by decide +kernel) rfl rfl rfl (by decide +kernel)
set_option maxRecDepth 65536 in
theorem w_c9 : (Jvm.Cond.code ({ cls := "com/example/reckoner/reckoner/OperandStack", name := "isInteger", desc := "(I)Z" } : Jvm.MethodName) prog_48_method_8_code (3 : Nat) (Option.some Jvm.ClassFile.FieldType.boolean)).before args0 about1 = true := code_word (m := ⟨2, 7⟩) (meth := k2m7) (c := k2c7) (by decide +kernel) rfl rfl rfl (by decide +kernel)
set_option maxRecDepth 65536 in
theorem w_c10 : (Jvm.Cond.code ({ cls := "com/example/reckoner/reckoner/Value", name := "isInteger", desc := "()Z" } : Jvm.MethodName) prog_69_method_9_code (1 : Nat) (Option.some Jvm.ClassFile.FieldType.boolean)).before args0 about1 = true := code_word (m := ⟨3, 4⟩) (meth := k3m4) (c := k3c4) (by decide +kernel) rfl rfl rfl (by decide +kernel)
set_option maxRecDepth 65536 in
theorem w_c11 : (Jvm.Cond.code ({ cls := "com/example/reckoner/reckoner/OperandStack", name := "peek", desc := "()Lcom/example/reckoner/reckoner/Value;" } : Jvm.MethodName) prog_48_method_6_code (1 : Nat) (Option.some (Jvm.ClassFile.FieldType.object "com/example/reckoner/reckoner/Value"))).before args0 about1 = true := code_word (m := ⟨2, 5⟩) (meth := k2m5) (c := k2c5) (by decide +kernel) rfl rfl rfl (by decide +kernel)
set_option maxRecDepth 65536 in
theorem w_c12 : (Jvm.Cond.code ({ cls := "com/example/reckoner/reckoner/Value", name := "real", desc := "(D)Lcom/example/reckoner/reckoner/Value;" } : Jvm.MethodName) prog_69_method_3_code (2 : Nat) (Option.some (Jvm.ClassFile.FieldType.object "com/example/reckoner/reckoner/Value"))).before args0 about1 = true := code_word (m := ⟨3, 2⟩) (meth := k3m2) (c := k3c2) (by decide +kernel) rfl rfl rfl (by decide +kernel)
set_option maxRecDepth 65536 in
theorem w_c13 : (Jvm.Cond.code ({ cls := "com/example/reckoner/reckoner/Value", name := "type", desc := "()Lcom/example/reckoner/reckoner/Value$Type;" } : Jvm.MethodName) prog_69_method_7_code (1 : Nat) (Option.some (Jvm.ClassFile.FieldType.object "com/example/reckoner/reckoner/Value$Type"))).before args0 about1 = true := code_word (m := ⟨3, 3⟩) (meth := k3m3) (c := k3c3) (by decide +kernel) rfl rfl rfl (by decide +kernel)
set_option maxRecDepth 65536 in
theorem w_c14 : (Jvm.Cond.code ({ cls := "com/example/reckoner/reckoner/Value", name := "doubleValue", desc := "()D" } : Jvm.MethodName) prog_69_method_11_code (1 : Nat) (Option.some Jvm.ClassFile.FieldType.double)).before args0 about1 = true := code_word (m := ⟨3, 6⟩) (meth := k3m6) (c := k3c6) (by decide +kernel) rfl rfl rfl (by decide +kernel)
set_option maxRecDepth 65536 in
theorem w_c15 : (Jvm.Cond.code ({ cls := "com/example/reckoner/reckoner/OperandStack", name := "popDouble", desc := "()D" } : Jvm.MethodName) prog_48_method_5_code (2 : Nat) (Option.some Jvm.ClassFile.FieldType.double)).before args0 about1 = true := code_word (m := ⟨2, 4⟩) (meth := k2m4) (c := k2c4) (by decide +kernel) rfl rfl rfl (by decide +kernel)
set_option maxRecDepth 65536 in
theorem w_c16 : (Jvm.Cond.code ({ cls := "com/example/reckoner/reckoner/Value", name := "longValue", desc := "()J" } : Jvm.MethodName) prog_69_method_10_code (1 : Nat) (Option.some Jvm.ClassFile.FieldType.long)).before args0 about1 = true := code_word (m := ⟨3, 5⟩) (meth := k3m5) (c := k3c5) (by decide +kernel) rfl rfl rfl (by decide +kernel)
def codes1 : List Jvm.Cond := [Jvm.Cond.code x code maxLocals ret, Jvm.Cond.code ({ cls := "com/example/reckoner/reckoner/OperandStack", name := "<init>", desc := "(I)V" } : Jvm.MethodName) prog_48_method_1_code (2 : Nat) (Option.none : Option Jvm.ClassFile.FieldType), Jvm.Cond.code ({ cls := "java/lang/Object", name := "<init>", desc := "()V" } : Jvm.MethodName) object_method_1_code (1 : Nat) (Option.none : Option Jvm.ClassFile.FieldType), Jvm.Cond.code ({ cls := "com/example/reckoner/reckoner/Value", name := "integer", desc := "(J)Lcom/example/reckoner/reckoner/Value;" } : Jvm.MethodName) prog_69_method_2_code (2 : Nat) (Option.some (Jvm.ClassFile.FieldType.object "com/example/reckoner/reckoner/Value")), Jvm.Cond.code ({ cls := "com/example/reckoner/reckoner/Value", name := "<init>", desc := "(Lcom/example/reckoner/reckoner/Value$Type;JD)V" } : Jvm.MethodName) prog_69_method_1_code (6 : Nat) (Option.none : Option Jvm.ClassFile.FieldType), Jvm.Cond.code ({ cls := "com/example/reckoner/reckoner/OperandStack", name := "push", desc := "(Lcom/example/reckoner/reckoner/Value;)V" } : Jvm.MethodName) prog_48_method_2_code (2 : Nat) (Option.none : Option Jvm.ClassFile.FieldType), Jvm.Cond.code ({ cls := "com/example/reckoner/reckoner/OperandStack", name := "pop", desc := "()Lcom/example/reckoner/reckoner/Value;" } : Jvm.MethodName) prog_48_method_4_code (1 : Nat) (Option.some (Jvm.ClassFile.FieldType.object "com/example/reckoner/reckoner/Value")), Jvm.Cond.code ({ cls := "com/example/reckoner/reckoner/OperandStack", name := "valueAt", desc := "(I)Lcom/example/reckoner/reckoner/Value;" } : Jvm.MethodName) prog_48_method_7_code (3 : Nat) (Option.some (Jvm.ClassFile.FieldType.object "com/example/reckoner/reckoner/Value")), Jvm.Cond.code ({ cls := "com/example/reckoner/reckoner/OperandStack", name := "pushReal", desc := "(D)V" } : Jvm.MethodName) prog_48_method_3_code (3 : Nat) (Option.none : Option Jvm.ClassFile.FieldType), Jvm.Cond.code ({ cls := "com/example/reckoner/reckoner/OperandStack", name := "isInteger", desc := "(I)Z" } : Jvm.MethodName) prog_48_method_8_code (3 : Nat) (Option.some Jvm.ClassFile.FieldType.boolean), Jvm.Cond.code ({ cls := "com/example/reckoner/reckoner/Value", name := "isInteger", desc := "()Z" } : Jvm.MethodName) prog_69_method_9_code (1 : Nat) (Option.some Jvm.ClassFile.FieldType.boolean), Jvm.Cond.code ({ cls := "com/example/reckoner/reckoner/OperandStack", name := "peek", desc := "()Lcom/example/reckoner/reckoner/Value;" } : Jvm.MethodName) prog_48_method_6_code (1 : Nat) (Option.some (Jvm.ClassFile.FieldType.object "com/example/reckoner/reckoner/Value")), Jvm.Cond.code ({ cls := "com/example/reckoner/reckoner/Value", name := "real", desc := "(D)Lcom/example/reckoner/reckoner/Value;" } : Jvm.MethodName) prog_69_method_3_code (2 : Nat) (Option.some (Jvm.ClassFile.FieldType.object "com/example/reckoner/reckoner/Value")), Jvm.Cond.code ({ cls := "com/example/reckoner/reckoner/Value", name := "type", desc := "()Lcom/example/reckoner/reckoner/Value$Type;" } : Jvm.MethodName) prog_69_method_7_code (1 : Nat) (Option.some (Jvm.ClassFile.FieldType.object "com/example/reckoner/reckoner/Value$Type")), Jvm.Cond.code ({ cls := "com/example/reckoner/reckoner/Value", name := "doubleValue", desc := "()D" } : Jvm.MethodName) prog_69_method_11_code (1 : Nat) (Option.some Jvm.ClassFile.FieldType.double), Jvm.Cond.code ({ cls := "com/example/reckoner/reckoner/OperandStack", name := "popDouble", desc := "()D" } : Jvm.MethodName) prog_48_method_5_code (2 : Nat) (Option.some Jvm.ClassFile.FieldType.double), Jvm.Cond.code ({ cls := "com/example/reckoner/reckoner/Value", name := "longValue", desc := "()J" } : Jvm.MethodName) prog_69_method_10_code (1 : Nat) (Option.some Jvm.ClassFile.FieldType.long)]
set_option maxRecDepth 65536 in
theorem codes_eq : words1.filter isCode = codes1 := rfl
theorem w_codes : ∀ c ∈ words1.filter isCode, c.before args0 about1 = true := by
  rw [codes_eq]
  intro c hc
  simp only [codes1, List.mem_cons, List.not_mem_nil, or_false] at hc
  rcases hc with rfl | rfl | rfl | rfl | rfl | rfl | rfl | rfl | rfl | rfl | rfl | rfl | rfl | rfl | rfl | rfl | rfl
  · exact w_c0
  · exact w_c1
  · exact w_c2
  · exact w_c3
  · exact w_c4
  · exact w_c5
  · exact w_c6
  · exact w_c7
  · exact w_c8
  · exact w_c9
  · exact w_c10
  · exact w_c11
  · exact w_c12
  · exact w_c13
  · exact w_c14
  · exact w_c15
  · exact w_c16
set_option maxRecDepth 65536 in
theorem w_t1 : (words1.take 24).all (fun c => isCode c || c.before args0 about1) = true := by decide +kernel
set_option maxRecDepth 65536 in
theorem w_t2 : ((words1.drop 24).take 24).all (fun c => isCode c || c.before args0 about1) = true := by decide +kernel
set_option maxRecDepth 65536 in
theorem w_t3 : (((words1.drop 24).drop 24).take 24).all (fun c => isCode c || c.before args0 about1) = true := by decide +kernel
set_option maxRecDepth 65536 in
theorem w_t4 : ((((words1.drop 24).drop 24).drop 24).take 24).all (fun c => isCode c || c.before args0 about1) = true := by decide +kernel
set_option maxRecDepth 65536 in
theorem w_t5 : ((((words1.drop 24).drop 24).drop 24).drop 24).all (fun c => isCode c || c.before args0 about1) = true := by decide +kernel
theorem w_tables : (allAtoms (Jvm.Cond.code x code maxLocals ret :: tables_1)).before args0 about1 = true := by
  rw [allAtoms_all]
  show words1.all (fun c => c.before args0 about1) = true
  refine all_split ?_ w_codes
  rw [← List.take_append_drop 24 words1, List.all_append, w_t1, ← List.take_append_drop 24 (words1.drop 24), List.all_append, w_t2, ← List.take_append_drop 24 ((words1.drop 24).drop 24), List.all_append, w_t3, ← List.take_append_drop 24 (((words1.drop 24).drop 24).drop 24), List.all_append, w_t4, w_t5]
  rfl
set_option maxRecDepth 65536 in
theorem w_case : (Jvm.Cond.and given_1 narrow_1).before args0 about1 = true := by decide +kernel
theorem w_applies : (headSpec (Jvm.Cond.code x code maxLocals ret :: tables_1) room_1).applies x e0.platform about1 = true :=
  (Spec.applies_iff w_frames).mpr ⟨w_running, w_runnable, w_alone, w_named, w_hears, w_ripe, w_room, w_tables⟩
theorem atStart : AtStart classFile x code maxLocals ret World_1 tables_1 room_1 Calls_1 rest_1 Pre_1 launch0 p0 e0 about1 theMethod args0 below0 :=
  ⟨lists_1, trivial, launch0.admits_env _ _ _, launch0.least_env, fairChoices_fair.cas, fairChoices_fair.clock, w_frames, w_args, w_heap, w_applies, trivial, trivial, w_case⟩
end start1
theorem witness_1 : WitnessClaimed_1 := ⟨start1.p0, start1.e0, start1.about1, start1.theMethod, start1.args0, start1.below0, start1.atStart⟩
end Jvm.Pilot.@@N@@
