import JvmDerived
import JvmDerived.Pilot.@@N@@Statement
import JvmDerived.Pilot.@@N@@Code
set_option linter.unusedVariables false
set_option linter.unusedSimpArgs false

namespace Jvm.RoadKit
open Sem ClassFile Op Lib Jvm.Stand Jvm.Free Jvm.LawKit
section New
variable {p : Program} {l : Launch} {e : Env} {R : Room} {s : State} {m : MethodId} {args : Array Value} {below : List Frame} {meth : Method} {c : Code} {T : State} {locs : List Loc} {cells slots : Nat}
theorem retI (X : Stand p l e R s m args below meth c T locs cells slots) (hx : p.tables.exec = Jvm.exec) {pc : Nat} {Ls : Array Slot} {z : Int32} {rest : List Value} (hret : meth.sig.returnType = some .int) (hd : decode c.code pc = .ok (.ireturn, 1)) {fs : List Frame}
    (hl : ∀ (f : JFrame) (acts : List Action), f.method = m → f.locked = none → f.entered = [] → (doReturn e (T.setTop f) acts (some (.int z))).1 = T.setFrames fs) : Steps p.tables e below (T.setTop (mkF m pc Ls (.int z :: rest))) (T.setFrames fs) := by
  have hm' : T.vm.method? m = some meth := X.method'
  have hn : narrow .int (.int z) = .int z := rfl
  show Steps p.tables e below (T.setTop { method := m, pc := pc, locals := Ls, stack := _ :: rest, locked := none }) _
  jvm_step X.here [X.here.top, hx, hd, hm', hret, hn]
  first | (intro acts; rw [hl _ acts rfl rfl rfl]) | rw [hl _ _ rfl rfl rfl]
  exact Steps.refl _
end New
end Jvm.RoadKit
namespace Jvm.Pilot.@@N@@
open Jvm Jvm.ClassFile Sem Op Lib Jvm.Free Jvm.Stand Jvm.LawKit Jvm.RoadKit Bundle Jvm.Pilot.@@N@@.Jvm.D

theorem own_ne {Z : State} {h : Heap} {a b : Addr} {C n d : String} {x y : Int32} (F : Fld Z h a C n d (.int x)) (G : Fld Z h b C n d (.int y)) (q : x ≠ y) : a ≠ b := F.ne G (fun e => q (Value.int.inj e))
def own_vls  (a : Addr) (s2 : Addr) (s4 : Addr) (s5 : Addr) (s8 : Addr) (s9 : Addr) (s10 : Addr) (s11 : Addr) : Int32 :=
  if a = s2 then (1 : Int32) else
  if a = s4 then (1 : Int32) else
  if a = s5 then (1 : Int32) else
  if a = s8 then (1 : Int32) else
  if a = s9 then (1 : Int32) else
  if a = s10 then (1 : Int32) else
  if a = s11 then (1 : Int32) else
  (0 : Int32)
theorem own_d1_0 : decode prog_71_method_9_code 0 = .ok (.aload_n 0, 1) := by decide +kernel
theorem own_d1_1 : decode prog_71_method_9_code 1 = .ok (.getstatic 10, 3) := by decide +kernel
theorem own_d1_4 : decode prog_71_method_9_code 4 = .ok (.if_acmp .eq 45, 3) := by decide +kernel
theorem own_d1_7 : decode prog_71_method_9_code 7 = .ok (.aload_n 0, 1) := by decide +kernel
theorem own_d1_8 : decode prog_71_method_9_code 8 = .ok (.getstatic 16, 3) := by decide +kernel
theorem own_d1_11 : decode prog_71_method_9_code 11 = .ok (.if_acmp .eq 38, 3) := by decide +kernel
theorem own_d1_14 : decode prog_71_method_9_code 14 = .ok (.aload_n 0, 1) := by decide +kernel
theorem own_d1_15 : decode prog_71_method_9_code 15 = .ok (.getstatic 19, 3) := by decide +kernel
theorem own_d1_18 : decode prog_71_method_9_code 18 = .ok (.if_acmp .eq 31, 3) := by decide +kernel
theorem own_d1_21 : decode prog_71_method_9_code 21 = .ok (.aload_n 0, 1) := by decide +kernel
theorem own_d1_22 : decode prog_71_method_9_code 22 = .ok (.getstatic 28, 3) := by decide +kernel
theorem own_d1_25 : decode prog_71_method_9_code 25 = .ok (.if_acmp .eq 24, 3) := by decide +kernel
theorem own_d1_28 : decode prog_71_method_9_code 28 = .ok (.aload_n 0, 1) := by decide +kernel
theorem own_d1_29 : decode prog_71_method_9_code 29 = .ok (.getstatic 31, 3) := by decide +kernel
theorem own_d1_32 : decode prog_71_method_9_code 32 = .ok (.if_acmp .eq 17, 3) := by decide +kernel
theorem own_d1_35 : decode prog_71_method_9_code 35 = .ok (.aload_n 0, 1) := by decide +kernel
theorem own_d1_36 : decode prog_71_method_9_code 36 = .ok (.getstatic 34, 3) := by decide +kernel
theorem own_d1_39 : decode prog_71_method_9_code 39 = .ok (.if_acmp .eq 10, 3) := by decide +kernel
theorem own_d1_42 : decode prog_71_method_9_code 42 = .ok (.aload_n 0, 1) := by decide +kernel
theorem own_d1_43 : decode prog_71_method_9_code 43 = .ok (.getstatic 37, 3) := by decide +kernel
theorem own_d1_46 : decode prog_71_method_9_code 46 = .ok (.if_acmp .ne 7, 3) := by decide +kernel
theorem own_d1_49 : decode prog_71_method_9_code 49 = .ok (.iconst 1, 1) := by decide +kernel
theorem own_d1_50 : decode prog_71_method_9_code 50 = .ok (.goto 4, 3) := by decide +kernel
theorem own_d1_53 : decode prog_71_method_9_code 53 = .ok (.iconst 0, 1) := by decide +kernel
theorem own_d1_54 : decode prog_71_method_9_code 54 = .ok (.ireturn, 1) := by decide +kernel
theorem own_pn0 : plainName "com/example/eager_path/eagerpath/LocationPath$Axis" = true := by first | (simp [plainName, overriddenIn]; done) | decide +kernel
theorem own_efls (m : MethodId) (x0 : Addr) : entryFrame m #[(.ref x0)] 1 = mkF m 0 #[.val (.ref x0)] [] := by first | (simp [entryFrame, mkF, argsToLocals, Value.category]; done) | rfl
def own_Qls (Z : State) (a : Addr) (s2 : Addr) (s4 : Addr) (s5 : Addr) (s8 : Addr) (s9 : Addr) (s10 : Addr) (s11 : Addr) (h0 : Heap) (n0 : Nat) (v : Option Value) (h : Heap) (L : List Loc) : Prop := v = some (.int (own_vls a s2 s4 s5 s8 s9 s10 s11)) ∧ Fr n0 L ∧ h = h0
set_option maxRecDepth 65536 in
set_option maxHeartbeats 40000000 in
theorem own_rmls (l : Launch) (Z : State) (a0 : Array Value) (hw : ∀ d ∈ tables_1, d.before a0 Z = true) (ws : List Jvm.Cond) (a : Addr) (s2 : Addr) (s4 : Addr) (s5 : Addr) (s8 : Addr) (s9 : Addr) (s10 : Addr) (s11 : Addr) (h0 : Heap) (n0 : Nat) (Z0 : n0 ≤ h0.size) (sS2 : Sta Z h0 "com/example/eager_path/eagerpath/LocationPath$Axis" "PARENT" "Lcom/example/eager_path/eagerpath/LocationPath$Axis;" (.ref s2)) (sS4 : Sta Z h0 "com/example/eager_path/eagerpath/LocationPath$Axis" "ANCESTOR" "Lcom/example/eager_path/eagerpath/LocationPath$Axis;" (.ref s4)) (sS5 : Sta Z h0 "com/example/eager_path/eagerpath/LocationPath$Axis" "ANCESTOR_OR_SELF" "Lcom/example/eager_path/eagerpath/LocationPath$Axis;" (.ref s5)) (sS8 : Sta Z h0 "com/example/eager_path/eagerpath/LocationPath$Axis" "FOLLOWING" "Lcom/example/eager_path/eagerpath/LocationPath$Axis;" (.ref s8)) (sS9 : Sta Z h0 "com/example/eager_path/eagerpath/LocationPath$Axis" "FOLLOWING_SIBLING" "Lcom/example/eager_path/eagerpath/LocationPath$Axis;" (.ref s9)) (sS10 : Sta Z h0 "com/example/eager_path/eagerpath/LocationPath$Axis" "PRECEDING" "Lcom/example/eager_path/eagerpath/LocationPath$Axis;" (.ref s10)) (sS11 : Sta Z h0 "com/example/eager_path/eagerpath/LocationPath$Axis" "PRECEDING_SIBLING" "Lcom/example/eager_path/eagerpath/LocationPath$Axis;" (.ref s11)) :
    MetFree l (⟨"com/example/eager_path/eagerpath/LocationPath$Axis", "leavesSubtree", "()Z"⟩ : MethodName) (head1 (Jvm.Cond.code (⟨"com/example/eager_path/eagerpath/LocationPath$Axis", "leavesSubtree", "()Z"⟩ : MethodName) prog_71_method_9_code 1 (some .boolean) :: ws) ({ frames := 0, cells := 0, slots := 0, locals := 0 } : Room)) (fun aa U => aa = #[(.ref a)] ∧ Z.Warmed39 U.vm ∧ U.heap = h0) (fun _ _ _ _ _ => True) (fun _ U o U' => ∃ v L, o = .returned v ∧ own_Qls Z a s2 s4 s5 s8 s9 s10 s11 h0 n0 v U'.heap L ∧ FrameEnd U o U' L ({ frames := 0, cells := 0, slots := 0, locals := 0 } : Room).cells ({ frames := 0, cells := 0, slots := 0, locals := 0 } : Room).slots) := by
  refine MetFree.of_bodySF (plainFor_of_name own_pn0) hisR ?_
  intro p e s m args below meth c s₁ Bd hml0 hP hK
  obtain ⟨rfl, hZ, hh⟩ := hP
  have hx := Bd.exec
  have hby := Bd.bytes
  have hml : c.maxLocals = 1 := hml0
  have hown : s.vm.findClass "com/example/eager_path/eagerpath/LocationPath$Axis" = some m.cls := findClass_of_methodNamed Bd.named
  have hnm := (name_of_methodNamed Bd.named Bd.method).1
  have X0 : Stand p l e ({ frames := 0, cells := 0, slots := 0, locals := 0 } : Room) s m #[(.ref a)] below meth c s₁ [] 0 0 := Stand.of_body Bd
  have e0 : s₁.heap = h0 := by rw [← hh, Bd.state]; rfl
  have N0 := Fr.nil n0
  have pre0 : ∀ t, Steps p.tables e below (s₁.setTop (mkF m 0 #[.val (.ref a)] [])) t → Steps p.tables e below (s₁.setTop (entryFrame m #[(.ref a)] 1)) t := fun t k => castTop (own_efls m a) k
  have k1 : ∀ t, Steps p.tables e below (s₁.setTop (mkF m 1 #[.val (.ref a)] [(.ref a)])) t → Steps p.tables e below (s₁.setTop (entryFrame m #[(.ref a)] 1)) t := by
    intro t k
    refine pre0 t ?_
    show Steps p.tables e below (s₁.setTop (mkF m 0 #[.val (.ref a)] [])) _
    refine XS.aloadN X0.here hx rfl (hb hby own_d1_0) rfl rfl ?_
    exact k
  obtain ⟨T2, X2, e2, st2⟩ := getS2 X0 hx hZ hown (host := "") (Or.inl (hw _ (List.mem_of_getElem? (i := 36) rfl))) Via.refl e0 sS2 (g := (mkF m 1 #[.val (.ref a)] [(.ref a)])) rfl (hb hby own_d1_1)
  have k3 : ∀ t, Steps p.tables e below (T2.setTop (mkF m 4 #[.val (.ref a)] [(.ref s2), (.ref a)])) t → Steps p.tables e below (s₁.setTop (entryFrame m #[(.ref a)] 1)) t := fun t k => k1 t (st2 t k)
  by_cases hc4_4 : a = s2
  · have k5 : ∀ t, Steps p.tables e below (T2.setTop (mkF m 54 #[.val (.ref a)] [(.int (1 : Int32))])) t → Steps p.tables e below (s₁.setTop (entryFrame m #[(.ref a)] 1)) t := by
      intro t k
      refine k3 t ?_
      show Steps p.tables e below (T2.setTop (mkF m 4 #[.val (.ref a)] [(.ref s2), (.ref a)])) _
      refine Jvm.RoadKit.acmp (g := (mkF m 4 #[.val (.ref a)] [(.ref s2), (.ref a)])) X2 hx rfl rfl rfl (pc0 := 4) (pc' := 49) (same := true) rfl (hb hby own_d1_4) rfl (decide_eq_true (congrArg Value.ref hc4_4)) (by decide) (by decide) ?_
      show Steps p.tables e below (T2.setTop (mkF m 49 #[.val (.ref a)] [])) _
      refine XS.iconst X2.here hx rfl (hb hby own_d1_49) ?_
      show Steps p.tables e below (T2.setTop (mkF m 50 #[.val (.ref a)] [(.int (1 : Int32))])) _
      refine XS.goto X2.here hx rfl (pc0 := 50) (pc' := 54) rfl (hb hby own_d1_50) (by decide) (by decide) ?_
      exact k
    obtain ⟨fs, hr, hrun, hended, hW, hsame⟩ := X2.leave (v := (some (.int (1 : Int32)))) (fun h => by rw [Bd.returns] at h; cases h)
    refine ⟨_, _, k5 _ ?_, hrun, hended, _, _, rfl, ?_, ⟨_, rfl⟩, hW, hsame.mono (by decide) (by decide)⟩
    · exact retN X2 hx (t := .boolean) Bd.returns (by simp) (hb hby own_d1_54) hr
    · have hv : (own_vls a s2 s4 s5 s8 s9 s10 s11) = (1 : Int32) := (if_pos hc4_4)
      exact ⟨congrArg (fun z => some (Value.int z)) hv.symm, N0, e2⟩
  · have k6 : ∀ t, Steps p.tables e below (T2.setTop (mkF m 8 #[.val (.ref a)] [(.ref a)])) t → Steps p.tables e below (s₁.setTop (entryFrame m #[(.ref a)] 1)) t := by
      intro t k
      refine k3 t ?_
      show Steps p.tables e below (T2.setTop (mkF m 4 #[.val (.ref a)] [(.ref s2), (.ref a)])) _
      refine Jvm.RoadKit.acmp (g := (mkF m 4 #[.val (.ref a)] [(.ref s2), (.ref a)])) X2 hx rfl rfl rfl (pc0 := 4) (pc' := 7) (same := false) rfl (hb hby own_d1_4) rfl (decide_eq_false fun q => hc4_4 (Value.ref.inj q)) (by decide) (by decide) ?_
      show Steps p.tables e below (T2.setTop (mkF m 7 #[.val (.ref a)] [])) _
      refine XS.aloadN X2.here hx rfl (hb hby own_d1_7) rfl rfl ?_
      exact k
    obtain ⟨T7, X7, e7, st7⟩ := getS2 X2 hx hZ hown (host := "") (Or.inl (hw _ (List.mem_of_getElem? (i := 37) rfl))) Via.refl e2 sS4 (g := (mkF m 8 #[.val (.ref a)] [(.ref a)])) rfl (hb hby own_d1_8)
    have k8 : ∀ t, Steps p.tables e below (T7.setTop (mkF m 11 #[.val (.ref a)] [(.ref s4), (.ref a)])) t → Steps p.tables e below (s₁.setTop (entryFrame m #[(.ref a)] 1)) t := fun t k => k6 t (st7 t k)
    by_cases hc11_9 : a = s4
    · have k10 : ∀ t, Steps p.tables e below (T7.setTop (mkF m 54 #[.val (.ref a)] [(.int (1 : Int32))])) t → Steps p.tables e below (s₁.setTop (entryFrame m #[(.ref a)] 1)) t := by
        intro t k
        refine k8 t ?_
        show Steps p.tables e below (T7.setTop (mkF m 11 #[.val (.ref a)] [(.ref s4), (.ref a)])) _
        refine Jvm.RoadKit.acmp (g := (mkF m 11 #[.val (.ref a)] [(.ref s4), (.ref a)])) X7 hx rfl rfl rfl (pc0 := 11) (pc' := 49) (same := true) rfl (hb hby own_d1_11) rfl (decide_eq_true (congrArg Value.ref hc11_9)) (by decide) (by decide) ?_
        show Steps p.tables e below (T7.setTop (mkF m 49 #[.val (.ref a)] [])) _
        refine XS.iconst X7.here hx rfl (hb hby own_d1_49) ?_
        show Steps p.tables e below (T7.setTop (mkF m 50 #[.val (.ref a)] [(.int (1 : Int32))])) _
        refine XS.goto X7.here hx rfl (pc0 := 50) (pc' := 54) rfl (hb hby own_d1_50) (by decide) (by decide) ?_
        exact k
      obtain ⟨fs, hr, hrun, hended, hW, hsame⟩ := X7.leave (v := (some (.int (1 : Int32)))) (fun h => by rw [Bd.returns] at h; cases h)
      refine ⟨_, _, k10 _ ?_, hrun, hended, _, _, rfl, ?_, ⟨_, rfl⟩, hW, hsame.mono (by decide) (by decide)⟩
      · exact retN X7 hx (t := .boolean) Bd.returns (by simp) (hb hby own_d1_54) hr
      · have hv : (own_vls a s2 s4 s5 s8 s9 s10 s11) = (1 : Int32) := ((if_neg hc4_4).trans (if_pos hc11_9))
        exact ⟨congrArg (fun z => some (Value.int z)) hv.symm, N0, e7⟩
    · have k11 : ∀ t, Steps p.tables e below (T7.setTop (mkF m 15 #[.val (.ref a)] [(.ref a)])) t → Steps p.tables e below (s₁.setTop (entryFrame m #[(.ref a)] 1)) t := by
        intro t k
        refine k8 t ?_
        show Steps p.tables e below (T7.setTop (mkF m 11 #[.val (.ref a)] [(.ref s4), (.ref a)])) _
        refine Jvm.RoadKit.acmp (g := (mkF m 11 #[.val (.ref a)] [(.ref s4), (.ref a)])) X7 hx rfl rfl rfl (pc0 := 11) (pc' := 14) (same := false) rfl (hb hby own_d1_11) rfl (decide_eq_false fun q => hc11_9 (Value.ref.inj q)) (by decide) (by decide) ?_
        show Steps p.tables e below (T7.setTop (mkF m 14 #[.val (.ref a)] [])) _
        refine XS.aloadN X7.here hx rfl (hb hby own_d1_14) rfl rfl ?_
        exact k
      obtain ⟨T12, X12, e12, st12⟩ := getS2 X7 hx hZ hown (host := "") (Or.inl (hw _ (List.mem_of_getElem? (i := 38) rfl))) Via.refl e7 sS5 (g := (mkF m 15 #[.val (.ref a)] [(.ref a)])) rfl (hb hby own_d1_15)
      have k13 : ∀ t, Steps p.tables e below (T12.setTop (mkF m 18 #[.val (.ref a)] [(.ref s5), (.ref a)])) t → Steps p.tables e below (s₁.setTop (entryFrame m #[(.ref a)] 1)) t := fun t k => k11 t (st12 t k)
      by_cases hc18_14 : a = s5
      · have k15 : ∀ t, Steps p.tables e below (T12.setTop (mkF m 54 #[.val (.ref a)] [(.int (1 : Int32))])) t → Steps p.tables e below (s₁.setTop (entryFrame m #[(.ref a)] 1)) t := by
          intro t k
          refine k13 t ?_
          show Steps p.tables e below (T12.setTop (mkF m 18 #[.val (.ref a)] [(.ref s5), (.ref a)])) _
          refine Jvm.RoadKit.acmp (g := (mkF m 18 #[.val (.ref a)] [(.ref s5), (.ref a)])) X12 hx rfl rfl rfl (pc0 := 18) (pc' := 49) (same := true) rfl (hb hby own_d1_18) rfl (decide_eq_true (congrArg Value.ref hc18_14)) (by decide) (by decide) ?_
          show Steps p.tables e below (T12.setTop (mkF m 49 #[.val (.ref a)] [])) _
          refine XS.iconst X12.here hx rfl (hb hby own_d1_49) ?_
          show Steps p.tables e below (T12.setTop (mkF m 50 #[.val (.ref a)] [(.int (1 : Int32))])) _
          refine XS.goto X12.here hx rfl (pc0 := 50) (pc' := 54) rfl (hb hby own_d1_50) (by decide) (by decide) ?_
          exact k
        obtain ⟨fs, hr, hrun, hended, hW, hsame⟩ := X12.leave (v := (some (.int (1 : Int32)))) (fun h => by rw [Bd.returns] at h; cases h)
        refine ⟨_, _, k15 _ ?_, hrun, hended, _, _, rfl, ?_, ⟨_, rfl⟩, hW, hsame.mono (by decide) (by decide)⟩
        · exact retN X12 hx (t := .boolean) Bd.returns (by simp) (hb hby own_d1_54) hr
        · have hv : (own_vls a s2 s4 s5 s8 s9 s10 s11) = (1 : Int32) := ((if_neg hc4_4).trans ((if_neg hc11_9).trans (if_pos hc18_14)))
          exact ⟨congrArg (fun z => some (Value.int z)) hv.symm, N0, e12⟩
      · have k16 : ∀ t, Steps p.tables e below (T12.setTop (mkF m 22 #[.val (.ref a)] [(.ref a)])) t → Steps p.tables e below (s₁.setTop (entryFrame m #[(.ref a)] 1)) t := by
          intro t k
          refine k13 t ?_
          show Steps p.tables e below (T12.setTop (mkF m 18 #[.val (.ref a)] [(.ref s5), (.ref a)])) _
          refine Jvm.RoadKit.acmp (g := (mkF m 18 #[.val (.ref a)] [(.ref s5), (.ref a)])) X12 hx rfl rfl rfl (pc0 := 18) (pc' := 21) (same := false) rfl (hb hby own_d1_18) rfl (decide_eq_false fun q => hc18_14 (Value.ref.inj q)) (by decide) (by decide) ?_
          show Steps p.tables e below (T12.setTop (mkF m 21 #[.val (.ref a)] [])) _
          refine XS.aloadN X12.here hx rfl (hb hby own_d1_21) rfl rfl ?_
          exact k
        obtain ⟨T17, X17, e17, st17⟩ := getS2 X12 hx hZ hown (host := "") (Or.inl (hw _ (List.mem_of_getElem? (i := 39) rfl))) Via.refl e12 sS8 (g := (mkF m 22 #[.val (.ref a)] [(.ref a)])) rfl (hb hby own_d1_22)
        have k18 : ∀ t, Steps p.tables e below (T17.setTop (mkF m 25 #[.val (.ref a)] [(.ref s8), (.ref a)])) t → Steps p.tables e below (s₁.setTop (entryFrame m #[(.ref a)] 1)) t := fun t k => k16 t (st17 t k)
        by_cases hc25_19 : a = s8
        · have k20 : ∀ t, Steps p.tables e below (T17.setTop (mkF m 54 #[.val (.ref a)] [(.int (1 : Int32))])) t → Steps p.tables e below (s₁.setTop (entryFrame m #[(.ref a)] 1)) t := by
            intro t k
            refine k18 t ?_
            show Steps p.tables e below (T17.setTop (mkF m 25 #[.val (.ref a)] [(.ref s8), (.ref a)])) _
            refine Jvm.RoadKit.acmp (g := (mkF m 25 #[.val (.ref a)] [(.ref s8), (.ref a)])) X17 hx rfl rfl rfl (pc0 := 25) (pc' := 49) (same := true) rfl (hb hby own_d1_25) rfl (decide_eq_true (congrArg Value.ref hc25_19)) (by decide) (by decide) ?_
            show Steps p.tables e below (T17.setTop (mkF m 49 #[.val (.ref a)] [])) _
            refine XS.iconst X17.here hx rfl (hb hby own_d1_49) ?_
            show Steps p.tables e below (T17.setTop (mkF m 50 #[.val (.ref a)] [(.int (1 : Int32))])) _
            refine XS.goto X17.here hx rfl (pc0 := 50) (pc' := 54) rfl (hb hby own_d1_50) (by decide) (by decide) ?_
            exact k
          obtain ⟨fs, hr, hrun, hended, hW, hsame⟩ := X17.leave (v := (some (.int (1 : Int32)))) (fun h => by rw [Bd.returns] at h; cases h)
          refine ⟨_, _, k20 _ ?_, hrun, hended, _, _, rfl, ?_, ⟨_, rfl⟩, hW, hsame.mono (by decide) (by decide)⟩
          · exact retN X17 hx (t := .boolean) Bd.returns (by simp) (hb hby own_d1_54) hr
          · have hv : (own_vls a s2 s4 s5 s8 s9 s10 s11) = (1 : Int32) := ((if_neg hc4_4).trans ((if_neg hc11_9).trans ((if_neg hc18_14).trans (if_pos hc25_19))))
            exact ⟨congrArg (fun z => some (Value.int z)) hv.symm, N0, e17⟩
        · have k21 : ∀ t, Steps p.tables e below (T17.setTop (mkF m 29 #[.val (.ref a)] [(.ref a)])) t → Steps p.tables e below (s₁.setTop (entryFrame m #[(.ref a)] 1)) t := by
            intro t k
            refine k18 t ?_
            show Steps p.tables e below (T17.setTop (mkF m 25 #[.val (.ref a)] [(.ref s8), (.ref a)])) _
            refine Jvm.RoadKit.acmp (g := (mkF m 25 #[.val (.ref a)] [(.ref s8), (.ref a)])) X17 hx rfl rfl rfl (pc0 := 25) (pc' := 28) (same := false) rfl (hb hby own_d1_25) rfl (decide_eq_false fun q => hc25_19 (Value.ref.inj q)) (by decide) (by decide) ?_
            show Steps p.tables e below (T17.setTop (mkF m 28 #[.val (.ref a)] [])) _
            refine XS.aloadN X17.here hx rfl (hb hby own_d1_28) rfl rfl ?_
            exact k
          obtain ⟨T22, X22, e22, st22⟩ := getS2 X17 hx hZ hown (host := "") (Or.inl (hw _ (List.mem_of_getElem? (i := 40) rfl))) Via.refl e17 sS9 (g := (mkF m 29 #[.val (.ref a)] [(.ref a)])) rfl (hb hby own_d1_29)
          have k23 : ∀ t, Steps p.tables e below (T22.setTop (mkF m 32 #[.val (.ref a)] [(.ref s9), (.ref a)])) t → Steps p.tables e below (s₁.setTop (entryFrame m #[(.ref a)] 1)) t := fun t k => k21 t (st22 t k)
          by_cases hc32_24 : a = s9
          · have k25 : ∀ t, Steps p.tables e below (T22.setTop (mkF m 54 #[.val (.ref a)] [(.int (1 : Int32))])) t → Steps p.tables e below (s₁.setTop (entryFrame m #[(.ref a)] 1)) t := by
              intro t k
              refine k23 t ?_
              show Steps p.tables e below (T22.setTop (mkF m 32 #[.val (.ref a)] [(.ref s9), (.ref a)])) _
              refine Jvm.RoadKit.acmp (g := (mkF m 32 #[.val (.ref a)] [(.ref s9), (.ref a)])) X22 hx rfl rfl rfl (pc0 := 32) (pc' := 49) (same := true) rfl (hb hby own_d1_32) rfl (decide_eq_true (congrArg Value.ref hc32_24)) (by decide) (by decide) ?_
              show Steps p.tables e below (T22.setTop (mkF m 49 #[.val (.ref a)] [])) _
              refine XS.iconst X22.here hx rfl (hb hby own_d1_49) ?_
              show Steps p.tables e below (T22.setTop (mkF m 50 #[.val (.ref a)] [(.int (1 : Int32))])) _
              refine XS.goto X22.here hx rfl (pc0 := 50) (pc' := 54) rfl (hb hby own_d1_50) (by decide) (by decide) ?_
              exact k
            obtain ⟨fs, hr, hrun, hended, hW, hsame⟩ := X22.leave (v := (some (.int (1 : Int32)))) (fun h => by rw [Bd.returns] at h; cases h)
            refine ⟨_, _, k25 _ ?_, hrun, hended, _, _, rfl, ?_, ⟨_, rfl⟩, hW, hsame.mono (by decide) (by decide)⟩
            · exact retN X22 hx (t := .boolean) Bd.returns (by simp) (hb hby own_d1_54) hr
            · have hv : (own_vls a s2 s4 s5 s8 s9 s10 s11) = (1 : Int32) := ((if_neg hc4_4).trans ((if_neg hc11_9).trans ((if_neg hc18_14).trans ((if_neg hc25_19).trans (if_pos hc32_24)))))
              exact ⟨congrArg (fun z => some (Value.int z)) hv.symm, N0, e22⟩
          · have k26 : ∀ t, Steps p.tables e below (T22.setTop (mkF m 36 #[.val (.ref a)] [(.ref a)])) t → Steps p.tables e below (s₁.setTop (entryFrame m #[(.ref a)] 1)) t := by
              intro t k
              refine k23 t ?_
              show Steps p.tables e below (T22.setTop (mkF m 32 #[.val (.ref a)] [(.ref s9), (.ref a)])) _
              refine Jvm.RoadKit.acmp (g := (mkF m 32 #[.val (.ref a)] [(.ref s9), (.ref a)])) X22 hx rfl rfl rfl (pc0 := 32) (pc' := 35) (same := false) rfl (hb hby own_d1_32) rfl (decide_eq_false fun q => hc32_24 (Value.ref.inj q)) (by decide) (by decide) ?_
              show Steps p.tables e below (T22.setTop (mkF m 35 #[.val (.ref a)] [])) _
              refine XS.aloadN X22.here hx rfl (hb hby own_d1_35) rfl rfl ?_
              exact k
            obtain ⟨T27, X27, e27, st27⟩ := getS2 X22 hx hZ hown (host := "") (Or.inl (hw _ (List.mem_of_getElem? (i := 41) rfl))) Via.refl e22 sS10 (g := (mkF m 36 #[.val (.ref a)] [(.ref a)])) rfl (hb hby own_d1_36)
            have k28 : ∀ t, Steps p.tables e below (T27.setTop (mkF m 39 #[.val (.ref a)] [(.ref s10), (.ref a)])) t → Steps p.tables e below (s₁.setTop (entryFrame m #[(.ref a)] 1)) t := fun t k => k26 t (st27 t k)
            by_cases hc39_29 : a = s10
            · have k30 : ∀ t, Steps p.tables e below (T27.setTop (mkF m 54 #[.val (.ref a)] [(.int (1 : Int32))])) t → Steps p.tables e below (s₁.setTop (entryFrame m #[(.ref a)] 1)) t := by
                intro t k
                refine k28 t ?_
                show Steps p.tables e below (T27.setTop (mkF m 39 #[.val (.ref a)] [(.ref s10), (.ref a)])) _
                refine Jvm.RoadKit.acmp (g := (mkF m 39 #[.val (.ref a)] [(.ref s10), (.ref a)])) X27 hx rfl rfl rfl (pc0 := 39) (pc' := 49) (same := true) rfl (hb hby own_d1_39) rfl (decide_eq_true (congrArg Value.ref hc39_29)) (by decide) (by decide) ?_
                show Steps p.tables e below (T27.setTop (mkF m 49 #[.val (.ref a)] [])) _
                refine XS.iconst X27.here hx rfl (hb hby own_d1_49) ?_
                show Steps p.tables e below (T27.setTop (mkF m 50 #[.val (.ref a)] [(.int (1 : Int32))])) _
                refine XS.goto X27.here hx rfl (pc0 := 50) (pc' := 54) rfl (hb hby own_d1_50) (by decide) (by decide) ?_
                exact k
              obtain ⟨fs, hr, hrun, hended, hW, hsame⟩ := X27.leave (v := (some (.int (1 : Int32)))) (fun h => by rw [Bd.returns] at h; cases h)
              refine ⟨_, _, k30 _ ?_, hrun, hended, _, _, rfl, ?_, ⟨_, rfl⟩, hW, hsame.mono (by decide) (by decide)⟩
              · exact retN X27 hx (t := .boolean) Bd.returns (by simp) (hb hby own_d1_54) hr
              · have hv : (own_vls a s2 s4 s5 s8 s9 s10 s11) = (1 : Int32) := ((if_neg hc4_4).trans ((if_neg hc11_9).trans ((if_neg hc18_14).trans ((if_neg hc25_19).trans ((if_neg hc32_24).trans (if_pos hc39_29))))))
                exact ⟨congrArg (fun z => some (Value.int z)) hv.symm, N0, e27⟩
            · have k31 : ∀ t, Steps p.tables e below (T27.setTop (mkF m 43 #[.val (.ref a)] [(.ref a)])) t → Steps p.tables e below (s₁.setTop (entryFrame m #[(.ref a)] 1)) t := by
                intro t k
                refine k28 t ?_
                show Steps p.tables e below (T27.setTop (mkF m 39 #[.val (.ref a)] [(.ref s10), (.ref a)])) _
                refine Jvm.RoadKit.acmp (g := (mkF m 39 #[.val (.ref a)] [(.ref s10), (.ref a)])) X27 hx rfl rfl rfl (pc0 := 39) (pc' := 42) (same := false) rfl (hb hby own_d1_39) rfl (decide_eq_false fun q => hc39_29 (Value.ref.inj q)) (by decide) (by decide) ?_
                show Steps p.tables e below (T27.setTop (mkF m 42 #[.val (.ref a)] [])) _
                refine XS.aloadN X27.here hx rfl (hb hby own_d1_42) rfl rfl ?_
                exact k
              obtain ⟨T32, X32, e32, st32⟩ := getS2 X27 hx hZ hown (host := "") (Or.inl (hw _ (List.mem_of_getElem? (i := 42) rfl))) Via.refl e27 sS11 (g := (mkF m 43 #[.val (.ref a)] [(.ref a)])) rfl (hb hby own_d1_43)
              have k33 : ∀ t, Steps p.tables e below (T32.setTop (mkF m 46 #[.val (.ref a)] [(.ref s11), (.ref a)])) t → Steps p.tables e below (s₁.setTop (entryFrame m #[(.ref a)] 1)) t := fun t k => k31 t (st32 t k)
              by_cases hc46_34 : a = s11
              · have k35 : ∀ t, Steps p.tables e below (T32.setTop (mkF m 54 #[.val (.ref a)] [(.int (1 : Int32))])) t → Steps p.tables e below (s₁.setTop (entryFrame m #[(.ref a)] 1)) t := by
                  intro t k
                  refine k33 t ?_
                  show Steps p.tables e below (T32.setTop (mkF m 46 #[.val (.ref a)] [(.ref s11), (.ref a)])) _
                  refine Jvm.RoadKit.acmp (g := (mkF m 46 #[.val (.ref a)] [(.ref s11), (.ref a)])) X32 hx rfl rfl rfl (pc0 := 46) (pc' := 49) (same := true) rfl (hb hby own_d1_46) rfl (decide_eq_true (congrArg Value.ref hc46_34)) (by decide) (by decide) ?_
                  show Steps p.tables e below (T32.setTop (mkF m 49 #[.val (.ref a)] [])) _
                  refine XS.iconst X32.here hx rfl (hb hby own_d1_49) ?_
                  show Steps p.tables e below (T32.setTop (mkF m 50 #[.val (.ref a)] [(.int (1 : Int32))])) _
                  refine XS.goto X32.here hx rfl (pc0 := 50) (pc' := 54) rfl (hb hby own_d1_50) (by decide) (by decide) ?_
                  exact k
                obtain ⟨fs, hr, hrun, hended, hW, hsame⟩ := X32.leave (v := (some (.int (1 : Int32)))) (fun h => by rw [Bd.returns] at h; cases h)
                refine ⟨_, _, k35 _ ?_, hrun, hended, _, _, rfl, ?_, ⟨_, rfl⟩, hW, hsame.mono (by decide) (by decide)⟩
                · exact retN X32 hx (t := .boolean) Bd.returns (by simp) (hb hby own_d1_54) hr
                · have hv : (own_vls a s2 s4 s5 s8 s9 s10 s11) = (1 : Int32) := ((if_neg hc4_4).trans ((if_neg hc11_9).trans ((if_neg hc18_14).trans ((if_neg hc25_19).trans ((if_neg hc32_24).trans ((if_neg hc39_29).trans (if_pos hc46_34)))))))
                  exact ⟨congrArg (fun z => some (Value.int z)) hv.symm, N0, e32⟩
              · have k36 : ∀ t, Steps p.tables e below (T32.setTop (mkF m 54 #[.val (.ref a)] [(.int (0 : Int32))])) t → Steps p.tables e below (s₁.setTop (entryFrame m #[(.ref a)] 1)) t := by
                  intro t k
                  refine k33 t ?_
                  show Steps p.tables e below (T32.setTop (mkF m 46 #[.val (.ref a)] [(.ref s11), (.ref a)])) _
                  refine Jvm.RoadKit.acmp (g := (mkF m 46 #[.val (.ref a)] [(.ref s11), (.ref a)])) X32 hx rfl rfl rfl (pc0 := 46) (pc' := 53) (same := false) rfl (hb hby own_d1_46) rfl (decide_eq_false fun q => hc46_34 (Value.ref.inj q)) (by decide) (by decide) ?_
                  show Steps p.tables e below (T32.setTop (mkF m 53 #[.val (.ref a)] [])) _
                  refine XS.iconst X32.here hx rfl (hb hby own_d1_53) ?_
                  exact k
                obtain ⟨fs, hr, hrun, hended, hW, hsame⟩ := X32.leave (v := (some (.int (0 : Int32)))) (fun h => by rw [Bd.returns] at h; cases h)
                refine ⟨_, _, k36 _ ?_, hrun, hended, _, _, rfl, ?_, ⟨_, rfl⟩, hW, hsame.mono (by decide) (by decide)⟩
                · exact retN X32 hx (t := .boolean) Bd.returns (by simp) (hb hby own_d1_54) hr
                · have hv : (own_vls a s2 s4 s5 s8 s9 s10 s11) = (0 : Int32) := ((if_neg hc4_4).trans ((if_neg hc11_9).trans ((if_neg hc18_14).trans ((if_neg hc25_19).trans ((if_neg hc32_24).trans ((if_neg hc39_29).trans (if_neg hc46_34)))))))
                  exact ⟨congrArg (fun z => some (Value.int z)) hv.symm, N0, e32⟩
def own_vrv  (a : Addr) (s4 : Addr) (s5 : Addr) (s10 : Addr) (s11 : Addr) : Int32 :=
  if a = s4 then (1 : Int32) else
  if a = s5 then (1 : Int32) else
  if a = s10 then (1 : Int32) else
  if a = s11 then (1 : Int32) else
  (0 : Int32)
theorem own_d2_0 : decode prog_71_method_5_code 0 = .ok (.aload_n 0, 1) := by decide +kernel
theorem own_d2_1 : decode prog_71_method_5_code 1 = .ok (.getstatic 16, 3) := by decide +kernel
theorem own_d2_4 : decode prog_71_method_5_code 4 = .ok (.if_acmp .eq 24, 3) := by decide +kernel
theorem own_d2_7 : decode prog_71_method_5_code 7 = .ok (.aload_n 0, 1) := by decide +kernel
theorem own_d2_8 : decode prog_71_method_5_code 8 = .ok (.getstatic 19, 3) := by decide +kernel
theorem own_d2_11 : decode prog_71_method_5_code 11 = .ok (.if_acmp .eq 17, 3) := by decide +kernel
theorem own_d2_14 : decode prog_71_method_5_code 14 = .ok (.aload_n 0, 1) := by decide +kernel
theorem own_d2_15 : decode prog_71_method_5_code 15 = .ok (.getstatic 34, 3) := by decide +kernel
theorem own_d2_18 : decode prog_71_method_5_code 18 = .ok (.if_acmp .eq 10, 3) := by decide +kernel
theorem own_d2_21 : decode prog_71_method_5_code 21 = .ok (.aload_n 0, 1) := by decide +kernel
theorem own_d2_22 : decode prog_71_method_5_code 22 = .ok (.getstatic 37, 3) := by decide +kernel
theorem own_d2_25 : decode prog_71_method_5_code 25 = .ok (.if_acmp .ne 7, 3) := by decide +kernel
theorem own_d2_28 : decode prog_71_method_5_code 28 = .ok (.iconst 1, 1) := by decide +kernel
theorem own_d2_29 : decode prog_71_method_5_code 29 = .ok (.goto 4, 3) := by decide +kernel
theorem own_d2_32 : decode prog_71_method_5_code 32 = .ok (.iconst 0, 1) := by decide +kernel
theorem own_d2_33 : decode prog_71_method_5_code 33 = .ok (.ireturn, 1) := by decide +kernel
theorem own_efrv (m : MethodId) (x0 : Addr) : entryFrame m #[(.ref x0)] 1 = mkF m 0 #[.val (.ref x0)] [] := by first | (simp [entryFrame, mkF, argsToLocals, Value.category]; done) | rfl
def own_Qrv (Z : State) (a : Addr) (s4 : Addr) (s5 : Addr) (s10 : Addr) (s11 : Addr) (h0 : Heap) (n0 : Nat) (v : Option Value) (h : Heap) (L : List Loc) : Prop := v = some (.int (own_vrv a s4 s5 s10 s11)) ∧ Fr n0 L ∧ h = h0
set_option maxRecDepth 65536 in
set_option maxHeartbeats 40000000 in
theorem own_rmrv (l : Launch) (Z : State) (a0 : Array Value) (hw : ∀ d ∈ tables_1, d.before a0 Z = true) (ws : List Jvm.Cond) (a : Addr) (s4 : Addr) (s5 : Addr) (s10 : Addr) (s11 : Addr) (h0 : Heap) (n0 : Nat) (Z0 : n0 ≤ h0.size) (sS4 : Sta Z h0 "com/example/eager_path/eagerpath/LocationPath$Axis" "ANCESTOR" "Lcom/example/eager_path/eagerpath/LocationPath$Axis;" (.ref s4)) (sS5 : Sta Z h0 "com/example/eager_path/eagerpath/LocationPath$Axis" "ANCESTOR_OR_SELF" "Lcom/example/eager_path/eagerpath/LocationPath$Axis;" (.ref s5)) (sS10 : Sta Z h0 "com/example/eager_path/eagerpath/LocationPath$Axis" "PRECEDING" "Lcom/example/eager_path/eagerpath/LocationPath$Axis;" (.ref s10)) (sS11 : Sta Z h0 "com/example/eager_path/eagerpath/LocationPath$Axis" "PRECEDING_SIBLING" "Lcom/example/eager_path/eagerpath/LocationPath$Axis;" (.ref s11)) :
    MetFree l (⟨"com/example/eager_path/eagerpath/LocationPath$Axis", "reverse", "()Z"⟩ : MethodName) (head1 (Jvm.Cond.code (⟨"com/example/eager_path/eagerpath/LocationPath$Axis", "reverse", "()Z"⟩ : MethodName) prog_71_method_5_code 1 (some .boolean) :: ws) ({ frames := 0, cells := 0, slots := 0, locals := 0 } : Room)) (fun aa U => aa = #[(.ref a)] ∧ Z.Warmed39 U.vm ∧ U.heap = h0) (fun _ _ _ _ _ => True) (fun _ U o U' => ∃ v L, o = .returned v ∧ own_Qrv Z a s4 s5 s10 s11 h0 n0 v U'.heap L ∧ FrameEnd U o U' L ({ frames := 0, cells := 0, slots := 0, locals := 0 } : Room).cells ({ frames := 0, cells := 0, slots := 0, locals := 0 } : Room).slots) := by
  refine MetFree.of_bodySF (plainFor_of_name own_pn0) hisR ?_
  intro p e s m args below meth c s₁ Bd hml0 hP hK
  obtain ⟨rfl, hZ, hh⟩ := hP
  have hx := Bd.exec
  have hby := Bd.bytes
  have hml : c.maxLocals = 1 := hml0
  have hown : s.vm.findClass "com/example/eager_path/eagerpath/LocationPath$Axis" = some m.cls := findClass_of_methodNamed Bd.named
  have hnm := (name_of_methodNamed Bd.named Bd.method).1
  have X0 : Stand p l e ({ frames := 0, cells := 0, slots := 0, locals := 0 } : Room) s m #[(.ref a)] below meth c s₁ [] 0 0 := Stand.of_body Bd
  have e0 : s₁.heap = h0 := by rw [← hh, Bd.state]; rfl
  have N0 := Fr.nil n0
  have pre0 : ∀ t, Steps p.tables e below (s₁.setTop (mkF m 0 #[.val (.ref a)] [])) t → Steps p.tables e below (s₁.setTop (entryFrame m #[(.ref a)] 1)) t := fun t k => castTop (own_efrv m a) k
  have k1 : ∀ t, Steps p.tables e below (s₁.setTop (mkF m 1 #[.val (.ref a)] [(.ref a)])) t → Steps p.tables e below (s₁.setTop (entryFrame m #[(.ref a)] 1)) t := by
    intro t k
    refine pre0 t ?_
    show Steps p.tables e below (s₁.setTop (mkF m 0 #[.val (.ref a)] [])) _
    refine XS.aloadN X0.here hx rfl (hb hby own_d2_0) rfl rfl ?_
    exact k
  obtain ⟨T2, X2, e2, st2⟩ := getS2 X0 hx hZ hown (host := "") (Or.inl (hw _ (List.mem_of_getElem? (i := 37) rfl))) Via.refl e0 sS4 (g := (mkF m 1 #[.val (.ref a)] [(.ref a)])) rfl (hb hby own_d2_1)
  have k3 : ∀ t, Steps p.tables e below (T2.setTop (mkF m 4 #[.val (.ref a)] [(.ref s4), (.ref a)])) t → Steps p.tables e below (s₁.setTop (entryFrame m #[(.ref a)] 1)) t := fun t k => k1 t (st2 t k)
  by_cases hc4_4 : a = s4
  · have k5 : ∀ t, Steps p.tables e below (T2.setTop (mkF m 33 #[.val (.ref a)] [(.int (1 : Int32))])) t → Steps p.tables e below (s₁.setTop (entryFrame m #[(.ref a)] 1)) t := by
      intro t k
      refine k3 t ?_
      show Steps p.tables e below (T2.setTop (mkF m 4 #[.val (.ref a)] [(.ref s4), (.ref a)])) _
      refine Jvm.RoadKit.acmp (g := (mkF m 4 #[.val (.ref a)] [(.ref s4), (.ref a)])) X2 hx rfl rfl rfl (pc0 := 4) (pc' := 28) (same := true) rfl (hb hby own_d2_4) rfl (decide_eq_true (congrArg Value.ref hc4_4)) (by decide) (by decide) ?_
      show Steps p.tables e below (T2.setTop (mkF m 28 #[.val (.ref a)] [])) _
      refine XS.iconst X2.here hx rfl (hb hby own_d2_28) ?_
      show Steps p.tables e below (T2.setTop (mkF m 29 #[.val (.ref a)] [(.int (1 : Int32))])) _
      refine XS.goto X2.here hx rfl (pc0 := 29) (pc' := 33) rfl (hb hby own_d2_29) (by decide) (by decide) ?_
      exact k
    obtain ⟨fs, hr, hrun, hended, hW, hsame⟩ := X2.leave (v := (some (.int (1 : Int32)))) (fun h => by rw [Bd.returns] at h; cases h)
    refine ⟨_, _, k5 _ ?_, hrun, hended, _, _, rfl, ?_, ⟨_, rfl⟩, hW, hsame.mono (by decide) (by decide)⟩
    · exact retN X2 hx (t := .boolean) Bd.returns (by simp) (hb hby own_d2_33) hr
    · have hv : (own_vrv a s4 s5 s10 s11) = (1 : Int32) := (if_pos hc4_4)
      exact ⟨congrArg (fun z => some (Value.int z)) hv.symm, N0, e2⟩
  · have k6 : ∀ t, Steps p.tables e below (T2.setTop (mkF m 8 #[.val (.ref a)] [(.ref a)])) t → Steps p.tables e below (s₁.setTop (entryFrame m #[(.ref a)] 1)) t := by
      intro t k
      refine k3 t ?_
      show Steps p.tables e below (T2.setTop (mkF m 4 #[.val (.ref a)] [(.ref s4), (.ref a)])) _
      refine Jvm.RoadKit.acmp (g := (mkF m 4 #[.val (.ref a)] [(.ref s4), (.ref a)])) X2 hx rfl rfl rfl (pc0 := 4) (pc' := 7) (same := false) rfl (hb hby own_d2_4) rfl (decide_eq_false fun q => hc4_4 (Value.ref.inj q)) (by decide) (by decide) ?_
      show Steps p.tables e below (T2.setTop (mkF m 7 #[.val (.ref a)] [])) _
      refine XS.aloadN X2.here hx rfl (hb hby own_d2_7) rfl rfl ?_
      exact k
    obtain ⟨T7, X7, e7, st7⟩ := getS2 X2 hx hZ hown (host := "") (Or.inl (hw _ (List.mem_of_getElem? (i := 38) rfl))) Via.refl e2 sS5 (g := (mkF m 8 #[.val (.ref a)] [(.ref a)])) rfl (hb hby own_d2_8)
    have k8 : ∀ t, Steps p.tables e below (T7.setTop (mkF m 11 #[.val (.ref a)] [(.ref s5), (.ref a)])) t → Steps p.tables e below (s₁.setTop (entryFrame m #[(.ref a)] 1)) t := fun t k => k6 t (st7 t k)
    by_cases hc11_9 : a = s5
    · have k10 : ∀ t, Steps p.tables e below (T7.setTop (mkF m 33 #[.val (.ref a)] [(.int (1 : Int32))])) t → Steps p.tables e below (s₁.setTop (entryFrame m #[(.ref a)] 1)) t := by
        intro t k
        refine k8 t ?_
        show Steps p.tables e below (T7.setTop (mkF m 11 #[.val (.ref a)] [(.ref s5), (.ref a)])) _
        refine Jvm.RoadKit.acmp (g := (mkF m 11 #[.val (.ref a)] [(.ref s5), (.ref a)])) X7 hx rfl rfl rfl (pc0 := 11) (pc' := 28) (same := true) rfl (hb hby own_d2_11) rfl (decide_eq_true (congrArg Value.ref hc11_9)) (by decide) (by decide) ?_
        show Steps p.tables e below (T7.setTop (mkF m 28 #[.val (.ref a)] [])) _
        refine XS.iconst X7.here hx rfl (hb hby own_d2_28) ?_
        show Steps p.tables e below (T7.setTop (mkF m 29 #[.val (.ref a)] [(.int (1 : Int32))])) _
        refine XS.goto X7.here hx rfl (pc0 := 29) (pc' := 33) rfl (hb hby own_d2_29) (by decide) (by decide) ?_
        exact k
      obtain ⟨fs, hr, hrun, hended, hW, hsame⟩ := X7.leave (v := (some (.int (1 : Int32)))) (fun h => by rw [Bd.returns] at h; cases h)
      refine ⟨_, _, k10 _ ?_, hrun, hended, _, _, rfl, ?_, ⟨_, rfl⟩, hW, hsame.mono (by decide) (by decide)⟩
      · exact retN X7 hx (t := .boolean) Bd.returns (by simp) (hb hby own_d2_33) hr
      · have hv : (own_vrv a s4 s5 s10 s11) = (1 : Int32) := ((if_neg hc4_4).trans (if_pos hc11_9))
        exact ⟨congrArg (fun z => some (Value.int z)) hv.symm, N0, e7⟩
    · have k11 : ∀ t, Steps p.tables e below (T7.setTop (mkF m 15 #[.val (.ref a)] [(.ref a)])) t → Steps p.tables e below (s₁.setTop (entryFrame m #[(.ref a)] 1)) t := by
        intro t k
        refine k8 t ?_
        show Steps p.tables e below (T7.setTop (mkF m 11 #[.val (.ref a)] [(.ref s5), (.ref a)])) _
        refine Jvm.RoadKit.acmp (g := (mkF m 11 #[.val (.ref a)] [(.ref s5), (.ref a)])) X7 hx rfl rfl rfl (pc0 := 11) (pc' := 14) (same := false) rfl (hb hby own_d2_11) rfl (decide_eq_false fun q => hc11_9 (Value.ref.inj q)) (by decide) (by decide) ?_
        show Steps p.tables e below (T7.setTop (mkF m 14 #[.val (.ref a)] [])) _
        refine XS.aloadN X7.here hx rfl (hb hby own_d2_14) rfl rfl ?_
        exact k
      obtain ⟨T12, X12, e12, st12⟩ := getS2 X7 hx hZ hown (host := "") (Or.inl (hw _ (List.mem_of_getElem? (i := 41) rfl))) Via.refl e7 sS10 (g := (mkF m 15 #[.val (.ref a)] [(.ref a)])) rfl (hb hby own_d2_15)
      have k13 : ∀ t, Steps p.tables e below (T12.setTop (mkF m 18 #[.val (.ref a)] [(.ref s10), (.ref a)])) t → Steps p.tables e below (s₁.setTop (entryFrame m #[(.ref a)] 1)) t := fun t k => k11 t (st12 t k)
      by_cases hc18_14 : a = s10
      · have k15 : ∀ t, Steps p.tables e below (T12.setTop (mkF m 33 #[.val (.ref a)] [(.int (1 : Int32))])) t → Steps p.tables e below (s₁.setTop (entryFrame m #[(.ref a)] 1)) t := by
          intro t k
          refine k13 t ?_
          show Steps p.tables e below (T12.setTop (mkF m 18 #[.val (.ref a)] [(.ref s10), (.ref a)])) _
          refine Jvm.RoadKit.acmp (g := (mkF m 18 #[.val (.ref a)] [(.ref s10), (.ref a)])) X12 hx rfl rfl rfl (pc0 := 18) (pc' := 28) (same := true) rfl (hb hby own_d2_18) rfl (decide_eq_true (congrArg Value.ref hc18_14)) (by decide) (by decide) ?_
          show Steps p.tables e below (T12.setTop (mkF m 28 #[.val (.ref a)] [])) _
          refine XS.iconst X12.here hx rfl (hb hby own_d2_28) ?_
          show Steps p.tables e below (T12.setTop (mkF m 29 #[.val (.ref a)] [(.int (1 : Int32))])) _
          refine XS.goto X12.here hx rfl (pc0 := 29) (pc' := 33) rfl (hb hby own_d2_29) (by decide) (by decide) ?_
          exact k
        obtain ⟨fs, hr, hrun, hended, hW, hsame⟩ := X12.leave (v := (some (.int (1 : Int32)))) (fun h => by rw [Bd.returns] at h; cases h)
        refine ⟨_, _, k15 _ ?_, hrun, hended, _, _, rfl, ?_, ⟨_, rfl⟩, hW, hsame.mono (by decide) (by decide)⟩
        · exact retN X12 hx (t := .boolean) Bd.returns (by simp) (hb hby own_d2_33) hr
        · have hv : (own_vrv a s4 s5 s10 s11) = (1 : Int32) := ((if_neg hc4_4).trans ((if_neg hc11_9).trans (if_pos hc18_14)))
          exact ⟨congrArg (fun z => some (Value.int z)) hv.symm, N0, e12⟩
      · have k16 : ∀ t, Steps p.tables e below (T12.setTop (mkF m 22 #[.val (.ref a)] [(.ref a)])) t → Steps p.tables e below (s₁.setTop (entryFrame m #[(.ref a)] 1)) t := by
          intro t k
          refine k13 t ?_
          show Steps p.tables e below (T12.setTop (mkF m 18 #[.val (.ref a)] [(.ref s10), (.ref a)])) _
          refine Jvm.RoadKit.acmp (g := (mkF m 18 #[.val (.ref a)] [(.ref s10), (.ref a)])) X12 hx rfl rfl rfl (pc0 := 18) (pc' := 21) (same := false) rfl (hb hby own_d2_18) rfl (decide_eq_false fun q => hc18_14 (Value.ref.inj q)) (by decide) (by decide) ?_
          show Steps p.tables e below (T12.setTop (mkF m 21 #[.val (.ref a)] [])) _
          refine XS.aloadN X12.here hx rfl (hb hby own_d2_21) rfl rfl ?_
          exact k
        obtain ⟨T17, X17, e17, st17⟩ := getS2 X12 hx hZ hown (host := "") (Or.inl (hw _ (List.mem_of_getElem? (i := 42) rfl))) Via.refl e12 sS11 (g := (mkF m 22 #[.val (.ref a)] [(.ref a)])) rfl (hb hby own_d2_22)
        have k18 : ∀ t, Steps p.tables e below (T17.setTop (mkF m 25 #[.val (.ref a)] [(.ref s11), (.ref a)])) t → Steps p.tables e below (s₁.setTop (entryFrame m #[(.ref a)] 1)) t := fun t k => k16 t (st17 t k)
        by_cases hc25_19 : a = s11
        · have k20 : ∀ t, Steps p.tables e below (T17.setTop (mkF m 33 #[.val (.ref a)] [(.int (1 : Int32))])) t → Steps p.tables e below (s₁.setTop (entryFrame m #[(.ref a)] 1)) t := by
            intro t k
            refine k18 t ?_
            show Steps p.tables e below (T17.setTop (mkF m 25 #[.val (.ref a)] [(.ref s11), (.ref a)])) _
            refine Jvm.RoadKit.acmp (g := (mkF m 25 #[.val (.ref a)] [(.ref s11), (.ref a)])) X17 hx rfl rfl rfl (pc0 := 25) (pc' := 28) (same := true) rfl (hb hby own_d2_25) rfl (decide_eq_true (congrArg Value.ref hc25_19)) (by decide) (by decide) ?_
            show Steps p.tables e below (T17.setTop (mkF m 28 #[.val (.ref a)] [])) _
            refine XS.iconst X17.here hx rfl (hb hby own_d2_28) ?_
            show Steps p.tables e below (T17.setTop (mkF m 29 #[.val (.ref a)] [(.int (1 : Int32))])) _
            refine XS.goto X17.here hx rfl (pc0 := 29) (pc' := 33) rfl (hb hby own_d2_29) (by decide) (by decide) ?_
            exact k
          obtain ⟨fs, hr, hrun, hended, hW, hsame⟩ := X17.leave (v := (some (.int (1 : Int32)))) (fun h => by rw [Bd.returns] at h; cases h)
          refine ⟨_, _, k20 _ ?_, hrun, hended, _, _, rfl, ?_, ⟨_, rfl⟩, hW, hsame.mono (by decide) (by decide)⟩
          · exact retN X17 hx (t := .boolean) Bd.returns (by simp) (hb hby own_d2_33) hr
          · have hv : (own_vrv a s4 s5 s10 s11) = (1 : Int32) := ((if_neg hc4_4).trans ((if_neg hc11_9).trans ((if_neg hc18_14).trans (if_pos hc25_19))))
            exact ⟨congrArg (fun z => some (Value.int z)) hv.symm, N0, e17⟩
        · have k21 : ∀ t, Steps p.tables e below (T17.setTop (mkF m 33 #[.val (.ref a)] [(.int (0 : Int32))])) t → Steps p.tables e below (s₁.setTop (entryFrame m #[(.ref a)] 1)) t := by
            intro t k
            refine k18 t ?_
            show Steps p.tables e below (T17.setTop (mkF m 25 #[.val (.ref a)] [(.ref s11), (.ref a)])) _
            refine Jvm.RoadKit.acmp (g := (mkF m 25 #[.val (.ref a)] [(.ref s11), (.ref a)])) X17 hx rfl rfl rfl (pc0 := 25) (pc' := 32) (same := false) rfl (hb hby own_d2_25) rfl (decide_eq_false fun q => hc25_19 (Value.ref.inj q)) (by decide) (by decide) ?_
            show Steps p.tables e below (T17.setTop (mkF m 32 #[.val (.ref a)] [])) _
            refine XS.iconst X17.here hx rfl (hb hby own_d2_32) ?_
            exact k
          obtain ⟨fs, hr, hrun, hended, hW, hsame⟩ := X17.leave (v := (some (.int (0 : Int32)))) (fun h => by rw [Bd.returns] at h; cases h)
          refine ⟨_, _, k21 _ ?_, hrun, hended, _, _, rfl, ?_, ⟨_, rfl⟩, hW, hsame.mono (by decide) (by decide)⟩
          · exact retN X17 hx (t := .boolean) Bd.returns (by simp) (hb hby own_d2_33) hr
          · have hv : (own_vrv a s4 s5 s10 s11) = (0 : Int32) := ((if_neg hc4_4).trans ((if_neg hc11_9).trans ((if_neg hc18_14).trans (if_neg hc25_19))))
            exact ⟨congrArg (fun z => some (Value.int z)) hv.symm, N0, e17⟩
def own_ix (p1 : Int32) : Int32 := ((p1 &&& (2147483647 : Int32)) % (13 : Int32))
theorem own_ixc (p1 : Int32) : own_ix p1 = (0 : Int32) ∨ own_ix p1 = (1 : Int32) ∨ own_ix p1 = (2 : Int32) ∨ own_ix p1 = (3 : Int32) ∨ own_ix p1 = (4 : Int32) ∨ own_ix p1 = (5 : Int32) ∨ own_ix p1 = (6 : Int32) ∨ own_ix p1 = (7 : Int32) ∨ own_ix p1 = (8 : Int32) ∨ own_ix p1 = (9 : Int32) ∨ own_ix p1 = (10 : Int32) ∨ own_ix p1 = (11 : Int32) ∨ own_ix p1 = (12 : Int32) := by
  have h1 := c_mask p1 2147483647 31 (by decide) (by decide)
  have h2 := (c_irem (p1 &&& 2147483647) 13 13 (by decide)).1 (by omega)
  have h3 : 0 ≤ (own_ix p1).toInt ∧ (own_ix p1).toInt < 13 := by unfold own_ix; omega
  simp only [← Int32.toInt_inj]
  generalize (own_ix p1).toInt = z at h3
  show z = 0 ∨ z = 1 ∨ z = 2 ∨ z = 3 ∨ z = 4 ∨ z = 5 ∨ z = 6 ∨ z = 7 ∨ z = 8 ∨ z = 9 ∨ z = 10 ∨ z = 11 ∨ z = 12
  omega
theorem own_pd0 : parseMethodDescriptor "()Z" = some ⟨[], some .boolean⟩ := by decide +kernel
theorem own_pn1 : plainName "com/example/eager_path/eagerpath/AxisLeavesSubtreePinLaw" = true := by first | (simp [plainName, overriddenIn]; done) | decide +kernel
theorem own_ef0 (m : MethodId) (x0 : Int32) : entryFrame m #[(.int x0)] maxLocals = mkF m 0 #[.val (.int x0), .unset, .unset, .unset, .unset, .unset, .unset] [] := by first | (simp [entryFrame, mkF, argsToLocals, Value.category, maxLocals]; done) | rfl
def own_Q0 (Z : State) (p1 : Int32) (s0 : Addr) (s1 : Addr) (s2 : Addr) (s3 : Addr) (s4 : Addr) (s5 : Addr) (s6 : Addr) (s7 : Addr) (s8 : Addr) (s9 : Addr) (s10 : Addr) (s11 : Addr) (s12 : Addr) (h0 : Heap) (n0 : Nat) (v : Option Value) (h : Heap) (L : List Loc) : Prop := v = some (.int (1 : Int32)) ∧ Fr n0 L
set_option maxRecDepth 65536 in
set_option maxHeartbeats 40000000 in
theorem own_rm0 (l : Launch) (Z : State) (a0 : Array Value) (hw : ∀ d ∈ tables_1, d.before a0 Z = true) (ws : List Jvm.Cond) (p1 : Int32) (s0 : Addr) (s1 : Addr) (s2 : Addr) (s3 : Addr) (s4 : Addr) (s5 : Addr) (s6 : Addr) (s7 : Addr) (s8 : Addr) (s9 : Addr) (s10 : Addr) (s11 : Addr) (s12 : Addr) (h0 : Heap) (n0 : Nat) (Z0 : n0 ≤ h0.size) (sS0 : Sta Z h0 "com/example/eager_path/eagerpath/LocationPath$Axis" "CHILD" "Lcom/example/eager_path/eagerpath/LocationPath$Axis;" (.ref s0)) (eE0 : Exa Z h0 s0 "com/example/eager_path/eagerpath/LocationPath$Axis") (oO0 : Fld Z h0 s0 "java/lang/Enum" "ordinal" "I" (.int (0 : Int32))) (sS1 : Sta Z h0 "com/example/eager_path/eagerpath/LocationPath$Axis" "ATTRIBUTE" "Lcom/example/eager_path/eagerpath/LocationPath$Axis;" (.ref s1)) (eE1 : Exa Z h0 s1 "com/example/eager_path/eagerpath/LocationPath$Axis") (oO1 : Fld Z h0 s1 "java/lang/Enum" "ordinal" "I" (.int (1 : Int32))) (sS2 : Sta Z h0 "com/example/eager_path/eagerpath/LocationPath$Axis" "PARENT" "Lcom/example/eager_path/eagerpath/LocationPath$Axis;" (.ref s2)) (eE2 : Exa Z h0 s2 "com/example/eager_path/eagerpath/LocationPath$Axis") (oO2 : Fld Z h0 s2 "java/lang/Enum" "ordinal" "I" (.int (2 : Int32))) (sS3 : Sta Z h0 "com/example/eager_path/eagerpath/LocationPath$Axis" "SELF" "Lcom/example/eager_path/eagerpath/LocationPath$Axis;" (.ref s3)) (eE3 : Exa Z h0 s3 "com/example/eager_path/eagerpath/LocationPath$Axis") (oO3 : Fld Z h0 s3 "java/lang/Enum" "ordinal" "I" (.int (3 : Int32))) (sS4 : Sta Z h0 "com/example/eager_path/eagerpath/LocationPath$Axis" "ANCESTOR" "Lcom/example/eager_path/eagerpath/LocationPath$Axis;" (.ref s4)) (eE4 : Exa Z h0 s4 "com/example/eager_path/eagerpath/LocationPath$Axis") (oO4 : Fld Z h0 s4 "java/lang/Enum" "ordinal" "I" (.int (4 : Int32))) (sS5 : Sta Z h0 "com/example/eager_path/eagerpath/LocationPath$Axis" "ANCESTOR_OR_SELF" "Lcom/example/eager_path/eagerpath/LocationPath$Axis;" (.ref s5)) (eE5 : Exa Z h0 s5 "com/example/eager_path/eagerpath/LocationPath$Axis") (oO5 : Fld Z h0 s5 "java/lang/Enum" "ordinal" "I" (.int (5 : Int32))) (sS6 : Sta Z h0 "com/example/eager_path/eagerpath/LocationPath$Axis" "DESCENDANT" "Lcom/example/eager_path/eagerpath/LocationPath$Axis;" (.ref s6)) (eE6 : Exa Z h0 s6 "com/example/eager_path/eagerpath/LocationPath$Axis") (oO6 : Fld Z h0 s6 "java/lang/Enum" "ordinal" "I" (.int (6 : Int32))) (sS7 : Sta Z h0 "com/example/eager_path/eagerpath/LocationPath$Axis" "DESCENDANT_OR_SELF" "Lcom/example/eager_path/eagerpath/LocationPath$Axis;" (.ref s7)) (eE7 : Exa Z h0 s7 "com/example/eager_path/eagerpath/LocationPath$Axis") (oO7 : Fld Z h0 s7 "java/lang/Enum" "ordinal" "I" (.int (7 : Int32))) (sS8 : Sta Z h0 "com/example/eager_path/eagerpath/LocationPath$Axis" "FOLLOWING" "Lcom/example/eager_path/eagerpath/LocationPath$Axis;" (.ref s8)) (eE8 : Exa Z h0 s8 "com/example/eager_path/eagerpath/LocationPath$Axis") (oO8 : Fld Z h0 s8 "java/lang/Enum" "ordinal" "I" (.int (8 : Int32))) (sS9 : Sta Z h0 "com/example/eager_path/eagerpath/LocationPath$Axis" "FOLLOWING_SIBLING" "Lcom/example/eager_path/eagerpath/LocationPath$Axis;" (.ref s9)) (eE9 : Exa Z h0 s9 "com/example/eager_path/eagerpath/LocationPath$Axis") (oO9 : Fld Z h0 s9 "java/lang/Enum" "ordinal" "I" (.int (9 : Int32))) (sS10 : Sta Z h0 "com/example/eager_path/eagerpath/LocationPath$Axis" "PRECEDING" "Lcom/example/eager_path/eagerpath/LocationPath$Axis;" (.ref s10)) (eE10 : Exa Z h0 s10 "com/example/eager_path/eagerpath/LocationPath$Axis") (oO10 : Fld Z h0 s10 "java/lang/Enum" "ordinal" "I" (.int (10 : Int32))) (sS11 : Sta Z h0 "com/example/eager_path/eagerpath/LocationPath$Axis" "PRECEDING_SIBLING" "Lcom/example/eager_path/eagerpath/LocationPath$Axis;" (.ref s11)) (eE11 : Exa Z h0 s11 "com/example/eager_path/eagerpath/LocationPath$Axis") (oO11 : Fld Z h0 s11 "java/lang/Enum" "ordinal" "I" (.int (11 : Int32))) (sS12 : Sta Z h0 "com/example/eager_path/eagerpath/LocationPath$Axis" "NAMESPACE" "Lcom/example/eager_path/eagerpath/LocationPath$Axis;" (.ref s12)) (eE12 : Exa Z h0 s12 "com/example/eager_path/eagerpath/LocationPath$Axis") (oO12 : Fld Z h0 s12 "java/lang/Enum" "ordinal" "I" (.int (12 : Int32))) :
    MetFree l x (head1 (Jvm.Cond.code x code maxLocals ret :: ws) room_1) (fun aa U => aa = #[(.int p1)] ∧ Z.Warmed39 U.vm ∧ U.heap = h0) (fun _ _ _ _ _ => True) (fun _ U o U' => ∃ v L, o = .returned v ∧ own_Q0 Z p1 s0 s1 s2 s3 s4 s5 s6 s7 s8 s9 s10 s11 s12 h0 n0 v U'.heap L ∧ FrameEnd U o U' L room_1.cells room_1.slots) := by
  refine MetFree.of_bodySF (plainFor_of_name own_pn1) hisR ?_
  intro p e s m args below meth c s₁ Bd hml0 hP hK
  obtain ⟨rfl, hZ, hh⟩ := hP
  have hx := Bd.exec
  have hby := Bd.bytes
  have hml : c.maxLocals = 7 := hml0
  have hown : s.vm.findClass "com/example/eager_path/eagerpath/AxisLeavesSubtreePinLaw" = some m.cls := findClass_of_methodNamed Bd.named
  have hnm := (name_of_methodNamed Bd.named Bd.method).1
  have X0 : Stand p l e room_1 s m #[(.int p1)] below meth c s₁ [] 0 0 := Stand.of_body Bd
  have e0 : s₁.heap = h0 := by rw [← hh, Bd.state]; rfl
  have N0 := Fr.nil n0
  have pre0 : ∀ t, Steps p.tables e below (s₁.setTop (mkF m 0 #[.val (.int p1), .unset, .unset, .unset, .unset, .unset, .unset] [])) t → Steps p.tables e below (s₁.setTop (entryFrame m #[(.int p1)] maxLocals)) t := fun t k => castTop (own_ef0 m p1) k
  have k1 : ∀ t, Steps p.tables e below (s₁.setTop (mkF m 2 #[.val (.int p1), .unset, .unset, .unset, .unset, .unset, .unset] [(.int (13 : Int32))])) t → Steps p.tables e below (s₁.setTop (entryFrame m #[(.int p1)] maxLocals)) t := by
    intro t k
    refine pre0 t ?_
    show Steps p.tables e below (s₁.setTop (mkF m 0 #[.val (.int p1), .unset, .unset, .unset, .unset, .unset, .unset] [])) _
    refine XS.bipush X0.here hx rfl (hb hby at_0) ?_
    exact k
  obtain ⟨T2, h2, c2, X2, e2, E2, A2, O2, st2⟩ := newR X0 hx hZ hown (hw _ (List.mem_of_getElem? (i := 0) rfl)) (hw _ (List.mem_of_getElem? (i := 1) rfl)) e0 (g := (mkF m 2 #[.val (.int p1), .unset, .unset, .unset, .unset, .unset, .unset] [(.int (13 : Int32))])) rfl (hb hby at_2) rfl (by decide) (cap := 13) (by decide) (by decide) (by decide) (by decide)
  obtain ⟨b2, g2⟩ : ∃ z, z = h0.size := ⟨_, rfl⟩
  rw [← g2] at A2 st2
  have ge2 : n0 ≤ b2 := Nat.le_trans Z0 (Nat.le_of_eq g2.symm)
  have bo2 : h0.size ≤ b2 := Nat.le_trans (Keep.refl h0 []).1 (Nat.le_of_eq g2.symm)
  have ne3 : s0 ≠ b2 := Nat.ne_of_lt (Nat.lt_of_lt_of_le eE0.lt (Nat.le_of_eq g2.symm))
  have ne4 : s1 ≠ b2 := Nat.ne_of_lt (Nat.lt_of_lt_of_le eE1.lt (Nat.le_of_eq g2.symm))
  have ne5 : s2 ≠ b2 := Nat.ne_of_lt (Nat.lt_of_lt_of_le eE2.lt (Nat.le_of_eq g2.symm))
  have ne6 : s3 ≠ b2 := Nat.ne_of_lt (Nat.lt_of_lt_of_le eE3.lt (Nat.le_of_eq g2.symm))
  have ne7 : s4 ≠ b2 := Nat.ne_of_lt (Nat.lt_of_lt_of_le eE4.lt (Nat.le_of_eq g2.symm))
  have ne8 : s5 ≠ b2 := Nat.ne_of_lt (Nat.lt_of_lt_of_le eE5.lt (Nat.le_of_eq g2.symm))
  have ne9 : s6 ≠ b2 := Nat.ne_of_lt (Nat.lt_of_lt_of_le eE6.lt (Nat.le_of_eq g2.symm))
  have ne10 : s7 ≠ b2 := Nat.ne_of_lt (Nat.lt_of_lt_of_le eE7.lt (Nat.le_of_eq g2.symm))
  have ne11 : s8 ≠ b2 := Nat.ne_of_lt (Nat.lt_of_lt_of_le eE8.lt (Nat.le_of_eq g2.symm))
  have ne12 : s9 ≠ b2 := Nat.ne_of_lt (Nat.lt_of_lt_of_le eE9.lt (Nat.le_of_eq g2.symm))
  have ne13 : s10 ≠ b2 := Nat.ne_of_lt (Nat.lt_of_lt_of_le eE10.lt (Nat.le_of_eq g2.symm))
  have ne14 : s11 ≠ b2 := Nat.ne_of_lt (Nat.lt_of_lt_of_le eE11.lt (Nat.le_of_eq g2.symm))
  have ne15 : s12 ≠ b2 := Nat.ne_of_lt (Nat.lt_of_lt_of_le eE12.lt (Nat.le_of_eq g2.symm))
  have Z2 : n0 ≤ h2.size := Nat.le_trans Z0 E2.1
  have K2 : Keep h0 h2 [] := (Keep.refl h0 []).ext E2
  have f16 := sS0.ext E2
  have f17 := eE0.ext E2
  have f18 := sS1.ext E2
  have f19 := eE1.ext E2
  have f20 := sS2.ext E2
  have f21 := eE2.ext E2
  have f22 := sS3.ext E2
  have f23 := eE3.ext E2
  have f24 := sS4.ext E2
  have f25 := eE4.ext E2
  have f26 := sS5.ext E2
  have f27 := eE5.ext E2
  have f28 := sS6.ext E2
  have f29 := eE6.ext E2
  have f30 := sS7.ext E2
  have f31 := eE7.ext E2
  have f32 := sS8.ext E2
  have f33 := eE8.ext E2
  have f34 := sS9.ext E2
  have f35 := eE9.ext E2
  have f36 := sS10.ext E2
  have f37 := eE10.ext E2
  have f38 := sS11.ext E2
  have f39 := eE11.ext E2
  have f40 := sS12.ext E2
  have f41 := eE12.ext E2
  have V2 : Arv Z h2 b2 c2 (.object "com/example/eager_path/eagerpath/LocationPath$Axis") (13 : Int32) [.null, .null, .null, .null, .null, .null, .null, .null, .null, .null, .null, .null, .null] .null := (Arv.new A2 (by decide)).pad (pad_rep [] .null 13)
  have k42 : ∀ t, Steps p.tables e below (T2.setTop (mkF m 5 #[.val (.int p1), .unset, .unset, .unset, .unset, .unset, .unset] [(.ref b2)])) t → Steps p.tables e below (s₁.setTop (entryFrame m #[(.int p1)] maxLocals)) t := fun t k => k1 t (st2 t k)
  have k43 : ∀ t, Steps p.tables e below (T2.setTop (mkF m 7 #[.val (.int p1), .unset, .unset, .unset, .unset, .unset, .unset] [(.int (0 : Int32)), (.ref b2), (.ref b2)])) t → Steps p.tables e below (s₁.setTop (entryFrame m #[(.int p1)] maxLocals)) t := by
    intro t k
    refine k42 t ?_
    show Steps p.tables e below (T2.setTop (mkF m 5 #[.val (.int p1), .unset, .unset, .unset, .unset, .unset, .unset] [(.ref b2)])) _
    refine XS.dup X2.here hx rfl (hb hby at_5) rfl rfl ?_
    show Steps p.tables e below (T2.setTop (mkF m 6 #[.val (.int p1), .unset, .unset, .unset, .unset, .unset, .unset] [(.ref b2), (.ref b2)])) _
    refine XS.iconst X2.here hx rfl (hb hby at_6) ?_
    exact k
  obtain ⟨T44, X44, e44, st44⟩ := getS2 X2 hx hZ hown (host := "") (Or.inl (hw _ (List.mem_of_getElem? (i := 2) rfl))) Via.refl e2 f16 (g := (mkF m 7 #[.val (.int p1), .unset, .unset, .unset, .unset, .unset, .unset] [(.int (0 : Int32)), (.ref b2), (.ref b2)])) rfl (hb hby at_7)
  have k45 : ∀ t, Steps p.tables e below (T44.setTop (mkF m 10 #[.val (.int p1), .unset, .unset, .unset, .unset, .unset, .unset] [(.ref s0), (.int (0 : Int32)), (.ref b2), (.ref b2)])) t → Steps p.tables e below (s₁.setTop (entryFrame m #[(.int p1)] maxLocals)) t := fun t k => k43 t (st44 t k)
  obtain ⟨cl46, Ar46, qa46, Sa46, Na46, Ha46, Ga46⟩ := id V2
  have hin47 : ¬ ((0 : Int32) < 0 ∨ cl46.slots.size ≤ ((0 : Int32)).toNatClampNeg) := inb_of Sa46 ⟨by decide, by decide⟩
  obtain ⟨T48, h48, X48, e48, W48, st48⟩ := stR X44 hx hZ e44 Ar46 (j := (0 : Int32)) hin47 rfl (Sto.ofV Ar46 qa46 O2 (Ins.self f17)) (g := (mkF m 10 #[.val (.int p1), .unset, .unset, .unset, .unset, .unset, .unset] [(.ref s0), (.int (0 : Int32)), (.ref b2), (.ref b2)])) rfl rfl (hb hby at_10)
  have f49 := f16.wr W48
  have f50 := f17.wr W48
  have f51 := f18.wr W48
  have f52 := f19.wr W48
  have f53 := f20.wr W48
  have f54 := f21.wr W48
  have f55 := f22.wr W48
  have f56 := f23.wr W48
  have f57 := f24.wr W48
  have f58 := f25.wr W48
  have f59 := f26.wr W48
  have f60 := f27.wr W48
  have f61 := f28.wr W48
  have f62 := f29.wr W48
  have f63 := f30.wr W48
  have f64 := f31.wr W48
  have f65 := f32.wr W48
  have f66 := f33.wr W48
  have f67 := f34.wr W48
  have f68 := f35.wr W48
  have f69 := f36.wr W48
  have f70 := f37.wr W48
  have f71 := f38.wr W48
  have f72 := f39.wr W48
  have f73 := f40.wr W48
  have f74 := f41.wr W48
  have V48 : Arv Z h48 b2 c2 (.object "com/example/eager_path/eagerpath/LocationPath$Axis") (13 : Int32) [(.ref s0), .null, .null, .null, .null, .null, .null, .null, .null, .null, .null, .null, .null] .null := Arv.set Ar46 qa46 Sa46 Na46 Ha46 Ga46 rfl W48 0 rfl (Nat.le_of_ble_eq_true rfl)
  have N48 := Fr.snoc X48 N0 ge2
  have K48 : Keep h0 h48 [] := K2.wr W48 (Or.inr bo2)
  have Z48 : n0 ≤ h48.size := Nat.le_trans Z2 (Keep.of_wr W48).1
  have k75 : ∀ t, Steps p.tables e below (T48.setTop (mkF m 11 #[.val (.int p1), .unset, .unset, .unset, .unset, .unset, .unset] [(.ref b2)])) t → Steps p.tables e below (s₁.setTop (entryFrame m #[(.int p1)] maxLocals)) t := fun t k => k45 t (st48 t k)
  have k76 : ∀ t, Steps p.tables e below (T48.setTop (mkF m 13 #[.val (.int p1), .unset, .unset, .unset, .unset, .unset, .unset] [(.int (1 : Int32)), (.ref b2), (.ref b2)])) t → Steps p.tables e below (s₁.setTop (entryFrame m #[(.int p1)] maxLocals)) t := by
    intro t k
    refine k75 t ?_
    show Steps p.tables e below (T48.setTop (mkF m 11 #[.val (.int p1), .unset, .unset, .unset, .unset, .unset, .unset] [(.ref b2)])) _
    refine XS.dup X48.here hx rfl (hb hby at_11) rfl rfl ?_
    show Steps p.tables e below (T48.setTop (mkF m 12 #[.val (.int p1), .unset, .unset, .unset, .unset, .unset, .unset] [(.ref b2), (.ref b2)])) _
    refine XS.iconst X48.here hx rfl (hb hby at_12) ?_
    exact k
  obtain ⟨T77, X77, e77, st77⟩ := getS2 X48 hx hZ hown (host := "") (Or.inl (hw _ (List.mem_of_getElem? (i := 6) rfl))) Via.refl e48 f51 (g := (mkF m 13 #[.val (.int p1), .unset, .unset, .unset, .unset, .unset, .unset] [(.int (1 : Int32)), (.ref b2), (.ref b2)])) rfl (hb hby at_13)
  have k78 : ∀ t, Steps p.tables e below (T77.setTop (mkF m 16 #[.val (.int p1), .unset, .unset, .unset, .unset, .unset, .unset] [(.ref s1), (.int (1 : Int32)), (.ref b2), (.ref b2)])) t → Steps p.tables e below (s₁.setTop (entryFrame m #[(.int p1)] maxLocals)) t := fun t k => k76 t (st77 t k)
  obtain ⟨cl79, Ar79, qa79, Sa79, Na79, Ha79, Ga79⟩ := id V48
  have hin80 : ¬ ((1 : Int32) < 0 ∨ cl79.slots.size ≤ ((1 : Int32)).toNatClampNeg) := inb_of Sa79 ⟨by decide, by decide⟩
  obtain ⟨T81, h81, X81, e81, W81, st81⟩ := stR X77 hx hZ e77 Ar79 (j := (1 : Int32)) hin80 rfl (Sto.ofV Ar79 qa79 O2 (Ins.self f52)) (g := (mkF m 16 #[.val (.int p1), .unset, .unset, .unset, .unset, .unset, .unset] [(.ref s1), (.int (1 : Int32)), (.ref b2), (.ref b2)])) rfl rfl (hb hby at_16)
  have f82 := f49.wr W81
  have f83 := f50.wr W81
  have f84 := f51.wr W81
  have f85 := f52.wr W81
  have f86 := f53.wr W81
  have f87 := f54.wr W81
  have f88 := f55.wr W81
  have f89 := f56.wr W81
  have f90 := f57.wr W81
  have f91 := f58.wr W81
  have f92 := f59.wr W81
  have f93 := f60.wr W81
  have f94 := f61.wr W81
  have f95 := f62.wr W81
  have f96 := f63.wr W81
  have f97 := f64.wr W81
  have f98 := f65.wr W81
  have f99 := f66.wr W81
  have f100 := f67.wr W81
  have f101 := f68.wr W81
  have f102 := f69.wr W81
  have f103 := f70.wr W81
  have f104 := f71.wr W81
  have f105 := f72.wr W81
  have f106 := f73.wr W81
  have f107 := f74.wr W81
  have V81 : Arv Z h81 b2 c2 (.object "com/example/eager_path/eagerpath/LocationPath$Axis") (13 : Int32) [(.ref s0), (.ref s1), .null, .null, .null, .null, .null, .null, .null, .null, .null, .null, .null] .null := Arv.set Ar79 qa79 Sa79 Na79 Ha79 Ga79 rfl W81 1 rfl (Nat.le_of_ble_eq_true rfl)
  have N81 := Fr.snoc X81 N48 ge2
  have K81 : Keep h0 h81 [] := K48.wr W81 (Or.inr bo2)
  have Z81 : n0 ≤ h81.size := Nat.le_trans Z48 (Keep.of_wr W81).1
  have k108 : ∀ t, Steps p.tables e below (T81.setTop (mkF m 17 #[.val (.int p1), .unset, .unset, .unset, .unset, .unset, .unset] [(.ref b2)])) t → Steps p.tables e below (s₁.setTop (entryFrame m #[(.int p1)] maxLocals)) t := fun t k => k78 t (st81 t k)
  have k109 : ∀ t, Steps p.tables e below (T81.setTop (mkF m 19 #[.val (.int p1), .unset, .unset, .unset, .unset, .unset, .unset] [(.int (2 : Int32)), (.ref b2), (.ref b2)])) t → Steps p.tables e below (s₁.setTop (entryFrame m #[(.int p1)] maxLocals)) t := by
    intro t k
    refine k108 t ?_
    show Steps p.tables e below (T81.setTop (mkF m 17 #[.val (.int p1), .unset, .unset, .unset, .unset, .unset, .unset] [(.ref b2)])) _
    refine XS.dup X81.here hx rfl (hb hby at_17) rfl rfl ?_
    show Steps p.tables e below (T81.setTop (mkF m 18 #[.val (.int p1), .unset, .unset, .unset, .unset, .unset, .unset] [(.ref b2), (.ref b2)])) _
    refine XS.iconst X81.here hx rfl (hb hby at_18) ?_
    exact k
  obtain ⟨T110, X110, e110, st110⟩ := getS2 X81 hx hZ hown (host := "") (Or.inl (hw _ (List.mem_of_getElem? (i := 8) rfl))) Via.refl e81 f86 (g := (mkF m 19 #[.val (.int p1), .unset, .unset, .unset, .unset, .unset, .unset] [(.int (2 : Int32)), (.ref b2), (.ref b2)])) rfl (hb hby at_19)
  have k111 : ∀ t, Steps p.tables e below (T110.setTop (mkF m 22 #[.val (.int p1), .unset, .unset, .unset, .unset, .unset, .unset] [(.ref s2), (.int (2 : Int32)), (.ref b2), (.ref b2)])) t → Steps p.tables e below (s₁.setTop (entryFrame m #[(.int p1)] maxLocals)) t := fun t k => k109 t (st110 t k)
  obtain ⟨cl112, Ar112, qa112, Sa112, Na112, Ha112, Ga112⟩ := id V81
  have hin113 : ¬ ((2 : Int32) < 0 ∨ cl112.slots.size ≤ ((2 : Int32)).toNatClampNeg) := inb_of Sa112 ⟨by decide, by decide⟩
  obtain ⟨T114, h114, X114, e114, W114, st114⟩ := stR X110 hx hZ e110 Ar112 (j := (2 : Int32)) hin113 rfl (Sto.ofV Ar112 qa112 O2 (Ins.self f87)) (g := (mkF m 22 #[.val (.int p1), .unset, .unset, .unset, .unset, .unset, .unset] [(.ref s2), (.int (2 : Int32)), (.ref b2), (.ref b2)])) rfl rfl (hb hby at_22)
  have f115 := f82.wr W114
  have f116 := f83.wr W114
  have f117 := f84.wr W114
  have f118 := f85.wr W114
  have f119 := f86.wr W114
  have f120 := f87.wr W114
  have f121 := f88.wr W114
  have f122 := f89.wr W114
  have f123 := f90.wr W114
  have f124 := f91.wr W114
  have f125 := f92.wr W114
  have f126 := f93.wr W114
  have f127 := f94.wr W114
  have f128 := f95.wr W114
  have f129 := f96.wr W114
  have f130 := f97.wr W114
  have f131 := f98.wr W114
  have f132 := f99.wr W114
  have f133 := f100.wr W114
  have f134 := f101.wr W114
  have f135 := f102.wr W114
  have f136 := f103.wr W114
  have f137 := f104.wr W114
  have f138 := f105.wr W114
  have f139 := f106.wr W114
  have f140 := f107.wr W114
  have V114 : Arv Z h114 b2 c2 (.object "com/example/eager_path/eagerpath/LocationPath$Axis") (13 : Int32) [(.ref s0), (.ref s1), (.ref s2), .null, .null, .null, .null, .null, .null, .null, .null, .null, .null] .null := Arv.set Ar112 qa112 Sa112 Na112 Ha112 Ga112 rfl W114 2 rfl (Nat.le_of_ble_eq_true rfl)
  have N114 := Fr.snoc X114 N81 ge2
  have K114 : Keep h0 h114 [] := K81.wr W114 (Or.inr bo2)
  have Z114 : n0 ≤ h114.size := Nat.le_trans Z81 (Keep.of_wr W114).1
  have k141 : ∀ t, Steps p.tables e below (T114.setTop (mkF m 23 #[.val (.int p1), .unset, .unset, .unset, .unset, .unset, .unset] [(.ref b2)])) t → Steps p.tables e below (s₁.setTop (entryFrame m #[(.int p1)] maxLocals)) t := fun t k => k111 t (st114 t k)
  have k142 : ∀ t, Steps p.tables e below (T114.setTop (mkF m 25 #[.val (.int p1), .unset, .unset, .unset, .unset, .unset, .unset] [(.int (3 : Int32)), (.ref b2), (.ref b2)])) t → Steps p.tables e below (s₁.setTop (entryFrame m #[(.int p1)] maxLocals)) t := by
    intro t k
    refine k141 t ?_
    show Steps p.tables e below (T114.setTop (mkF m 23 #[.val (.int p1), .unset, .unset, .unset, .unset, .unset, .unset] [(.ref b2)])) _
    refine XS.dup X114.here hx rfl (hb hby at_23) rfl rfl ?_
    show Steps p.tables e below (T114.setTop (mkF m 24 #[.val (.int p1), .unset, .unset, .unset, .unset, .unset, .unset] [(.ref b2), (.ref b2)])) _
    refine XS.iconst X114.here hx rfl (hb hby at_24) ?_
    exact k
  obtain ⟨T143, X143, e143, st143⟩ := getS2 X114 hx hZ hown (host := "") (Or.inl (hw _ (List.mem_of_getElem? (i := 10) rfl))) Via.refl e114 f121 (g := (mkF m 25 #[.val (.int p1), .unset, .unset, .unset, .unset, .unset, .unset] [(.int (3 : Int32)), (.ref b2), (.ref b2)])) rfl (hb hby at_25)
  have k144 : ∀ t, Steps p.tables e below (T143.setTop (mkF m 28 #[.val (.int p1), .unset, .unset, .unset, .unset, .unset, .unset] [(.ref s3), (.int (3 : Int32)), (.ref b2), (.ref b2)])) t → Steps p.tables e below (s₁.setTop (entryFrame m #[(.int p1)] maxLocals)) t := fun t k => k142 t (st143 t k)
  obtain ⟨cl145, Ar145, qa145, Sa145, Na145, Ha145, Ga145⟩ := id V114
  have hin146 : ¬ ((3 : Int32) < 0 ∨ cl145.slots.size ≤ ((3 : Int32)).toNatClampNeg) := inb_of Sa145 ⟨by decide, by decide⟩
  obtain ⟨T147, h147, X147, e147, W147, st147⟩ := stR X143 hx hZ e143 Ar145 (j := (3 : Int32)) hin146 rfl (Sto.ofV Ar145 qa145 O2 (Ins.self f122)) (g := (mkF m 28 #[.val (.int p1), .unset, .unset, .unset, .unset, .unset, .unset] [(.ref s3), (.int (3 : Int32)), (.ref b2), (.ref b2)])) rfl rfl (hb hby at_28)
  have f148 := f115.wr W147
  have f149 := f116.wr W147
  have f150 := f117.wr W147
  have f151 := f118.wr W147
  have f152 := f119.wr W147
  have f153 := f120.wr W147
  have f154 := f121.wr W147
  have f155 := f122.wr W147
  have f156 := f123.wr W147
  have f157 := f124.wr W147
  have f158 := f125.wr W147
  have f159 := f126.wr W147
  have f160 := f127.wr W147
  have f161 := f128.wr W147
  have f162 := f129.wr W147
  have f163 := f130.wr W147
  have f164 := f131.wr W147
  have f165 := f132.wr W147
  have f166 := f133.wr W147
  have f167 := f134.wr W147
  have f168 := f135.wr W147
  have f169 := f136.wr W147
  have f170 := f137.wr W147
  have f171 := f138.wr W147
  have f172 := f139.wr W147
  have f173 := f140.wr W147
  have V147 : Arv Z h147 b2 c2 (.object "com/example/eager_path/eagerpath/LocationPath$Axis") (13 : Int32) [(.ref s0), (.ref s1), (.ref s2), (.ref s3), .null, .null, .null, .null, .null, .null, .null, .null, .null] .null := Arv.set Ar145 qa145 Sa145 Na145 Ha145 Ga145 rfl W147 3 rfl (Nat.le_of_ble_eq_true rfl)
  have N147 := Fr.snoc X147 N114 ge2
  have K147 : Keep h0 h147 [] := K114.wr W147 (Or.inr bo2)
  have Z147 : n0 ≤ h147.size := Nat.le_trans Z114 (Keep.of_wr W147).1
  have k174 : ∀ t, Steps p.tables e below (T147.setTop (mkF m 29 #[.val (.int p1), .unset, .unset, .unset, .unset, .unset, .unset] [(.ref b2)])) t → Steps p.tables e below (s₁.setTop (entryFrame m #[(.int p1)] maxLocals)) t := fun t k => k144 t (st147 t k)
  have k175 : ∀ t, Steps p.tables e below (T147.setTop (mkF m 31 #[.val (.int p1), .unset, .unset, .unset, .unset, .unset, .unset] [(.int (4 : Int32)), (.ref b2), (.ref b2)])) t → Steps p.tables e below (s₁.setTop (entryFrame m #[(.int p1)] maxLocals)) t := by
    intro t k
    refine k174 t ?_
    show Steps p.tables e below (T147.setTop (mkF m 29 #[.val (.int p1), .unset, .unset, .unset, .unset, .unset, .unset] [(.ref b2)])) _
    refine XS.dup X147.here hx rfl (hb hby at_29) rfl rfl ?_
    show Steps p.tables e below (T147.setTop (mkF m 30 #[.val (.int p1), .unset, .unset, .unset, .unset, .unset, .unset] [(.ref b2), (.ref b2)])) _
    refine XS.iconst X147.here hx rfl (hb hby at_30) ?_
    exact k
  obtain ⟨T176, X176, e176, st176⟩ := getS2 X147 hx hZ hown (host := "") (Or.inl (hw _ (List.mem_of_getElem? (i := 12) rfl))) Via.refl e147 f156 (g := (mkF m 31 #[.val (.int p1), .unset, .unset, .unset, .unset, .unset, .unset] [(.int (4 : Int32)), (.ref b2), (.ref b2)])) rfl (hb hby at_31)
  have k177 : ∀ t, Steps p.tables e below (T176.setTop (mkF m 34 #[.val (.int p1), .unset, .unset, .unset, .unset, .unset, .unset] [(.ref s4), (.int (4 : Int32)), (.ref b2), (.ref b2)])) t → Steps p.tables e below (s₁.setTop (entryFrame m #[(.int p1)] maxLocals)) t := fun t k => k175 t (st176 t k)
  obtain ⟨cl178, Ar178, qa178, Sa178, Na178, Ha178, Ga178⟩ := id V147
  have hin179 : ¬ ((4 : Int32) < 0 ∨ cl178.slots.size ≤ ((4 : Int32)).toNatClampNeg) := inb_of Sa178 ⟨by decide, by decide⟩
  obtain ⟨T180, h180, X180, e180, W180, st180⟩ := stR X176 hx hZ e176 Ar178 (j := (4 : Int32)) hin179 rfl (Sto.ofV Ar178 qa178 O2 (Ins.self f157)) (g := (mkF m 34 #[.val (.int p1), .unset, .unset, .unset, .unset, .unset, .unset] [(.ref s4), (.int (4 : Int32)), (.ref b2), (.ref b2)])) rfl rfl (hb hby at_34)
  have f181 := f148.wr W180
  have f182 := f149.wr W180
  have f183 := f150.wr W180
  have f184 := f151.wr W180
  have f185 := f152.wr W180
  have f186 := f153.wr W180
  have f187 := f154.wr W180
  have f188 := f155.wr W180
  have f189 := f156.wr W180
  have f190 := f157.wr W180
  have f191 := f158.wr W180
  have f192 := f159.wr W180
  have f193 := f160.wr W180
  have f194 := f161.wr W180
  have f195 := f162.wr W180
  have f196 := f163.wr W180
  have f197 := f164.wr W180
  have f198 := f165.wr W180
  have f199 := f166.wr W180
  have f200 := f167.wr W180
  have f201 := f168.wr W180
  have f202 := f169.wr W180
  have f203 := f170.wr W180
  have f204 := f171.wr W180
  have f205 := f172.wr W180
  have f206 := f173.wr W180
  have V180 : Arv Z h180 b2 c2 (.object "com/example/eager_path/eagerpath/LocationPath$Axis") (13 : Int32) [(.ref s0), (.ref s1), (.ref s2), (.ref s3), (.ref s4), .null, .null, .null, .null, .null, .null, .null, .null] .null := Arv.set Ar178 qa178 Sa178 Na178 Ha178 Ga178 rfl W180 4 rfl (Nat.le_of_ble_eq_true rfl)
  have N180 := Fr.snoc X180 N147 ge2
  have K180 : Keep h0 h180 [] := K147.wr W180 (Or.inr bo2)
  have Z180 : n0 ≤ h180.size := Nat.le_trans Z147 (Keep.of_wr W180).1
  have k207 : ∀ t, Steps p.tables e below (T180.setTop (mkF m 35 #[.val (.int p1), .unset, .unset, .unset, .unset, .unset, .unset] [(.ref b2)])) t → Steps p.tables e below (s₁.setTop (entryFrame m #[(.int p1)] maxLocals)) t := fun t k => k177 t (st180 t k)
  have k208 : ∀ t, Steps p.tables e below (T180.setTop (mkF m 37 #[.val (.int p1), .unset, .unset, .unset, .unset, .unset, .unset] [(.int (5 : Int32)), (.ref b2), (.ref b2)])) t → Steps p.tables e below (s₁.setTop (entryFrame m #[(.int p1)] maxLocals)) t := by
    intro t k
    refine k207 t ?_
    show Steps p.tables e below (T180.setTop (mkF m 35 #[.val (.int p1), .unset, .unset, .unset, .unset, .unset, .unset] [(.ref b2)])) _
    refine XS.dup X180.here hx rfl (hb hby at_35) rfl rfl ?_
    show Steps p.tables e below (T180.setTop (mkF m 36 #[.val (.int p1), .unset, .unset, .unset, .unset, .unset, .unset] [(.ref b2), (.ref b2)])) _
    refine XS.iconst X180.here hx rfl (hb hby at_36) ?_
    exact k
  obtain ⟨T209, X209, e209, st209⟩ := getS2 X180 hx hZ hown (host := "") (Or.inl (hw _ (List.mem_of_getElem? (i := 14) rfl))) Via.refl e180 f191 (g := (mkF m 37 #[.val (.int p1), .unset, .unset, .unset, .unset, .unset, .unset] [(.int (5 : Int32)), (.ref b2), (.ref b2)])) rfl (hb hby at_37)
  have k210 : ∀ t, Steps p.tables e below (T209.setTop (mkF m 40 #[.val (.int p1), .unset, .unset, .unset, .unset, .unset, .unset] [(.ref s5), (.int (5 : Int32)), (.ref b2), (.ref b2)])) t → Steps p.tables e below (s₁.setTop (entryFrame m #[(.int p1)] maxLocals)) t := fun t k => k208 t (st209 t k)
  obtain ⟨cl211, Ar211, qa211, Sa211, Na211, Ha211, Ga211⟩ := id V180
  have hin212 : ¬ ((5 : Int32) < 0 ∨ cl211.slots.size ≤ ((5 : Int32)).toNatClampNeg) := inb_of Sa211 ⟨by decide, by decide⟩
  obtain ⟨T213, h213, X213, e213, W213, st213⟩ := stR X209 hx hZ e209 Ar211 (j := (5 : Int32)) hin212 rfl (Sto.ofV Ar211 qa211 O2 (Ins.self f192)) (g := (mkF m 40 #[.val (.int p1), .unset, .unset, .unset, .unset, .unset, .unset] [(.ref s5), (.int (5 : Int32)), (.ref b2), (.ref b2)])) rfl rfl (hb hby at_40)
  have f214 := f181.wr W213
  have f215 := f182.wr W213
  have f216 := f183.wr W213
  have f217 := f184.wr W213
  have f218 := f185.wr W213
  have f219 := f186.wr W213
  have f220 := f187.wr W213
  have f221 := f188.wr W213
  have f222 := f189.wr W213
  have f223 := f190.wr W213
  have f224 := f191.wr W213
  have f225 := f192.wr W213
  have f226 := f193.wr W213
  have f227 := f194.wr W213
  have f228 := f195.wr W213
  have f229 := f196.wr W213
  have f230 := f197.wr W213
  have f231 := f198.wr W213
  have f232 := f199.wr W213
  have f233 := f200.wr W213
  have f234 := f201.wr W213
  have f235 := f202.wr W213
  have f236 := f203.wr W213
  have f237 := f204.wr W213
  have f238 := f205.wr W213
  have f239 := f206.wr W213
  have V213 : Arv Z h213 b2 c2 (.object "com/example/eager_path/eagerpath/LocationPath$Axis") (13 : Int32) [(.ref s0), (.ref s1), (.ref s2), (.ref s3), (.ref s4), (.ref s5), .null, .null, .null, .null, .null, .null, .null] .null := Arv.set Ar211 qa211 Sa211 Na211 Ha211 Ga211 rfl W213 5 rfl (Nat.le_of_ble_eq_true rfl)
  have N213 := Fr.snoc X213 N180 ge2
  have K213 : Keep h0 h213 [] := K180.wr W213 (Or.inr bo2)
  have Z213 : n0 ≤ h213.size := Nat.le_trans Z180 (Keep.of_wr W213).1
  have k240 : ∀ t, Steps p.tables e below (T213.setTop (mkF m 41 #[.val (.int p1), .unset, .unset, .unset, .unset, .unset, .unset] [(.ref b2)])) t → Steps p.tables e below (s₁.setTop (entryFrame m #[(.int p1)] maxLocals)) t := fun t k => k210 t (st213 t k)
  have k241 : ∀ t, Steps p.tables e below (T213.setTop (mkF m 44 #[.val (.int p1), .unset, .unset, .unset, .unset, .unset, .unset] [(.int (6 : Int32)), (.ref b2), (.ref b2)])) t → Steps p.tables e below (s₁.setTop (entryFrame m #[(.int p1)] maxLocals)) t := by
    intro t k
    refine k240 t ?_
    show Steps p.tables e below (T213.setTop (mkF m 41 #[.val (.int p1), .unset, .unset, .unset, .unset, .unset, .unset] [(.ref b2)])) _
    refine XS.dup X213.here hx rfl (hb hby at_41) rfl rfl ?_
    show Steps p.tables e below (T213.setTop (mkF m 42 #[.val (.int p1), .unset, .unset, .unset, .unset, .unset, .unset] [(.ref b2), (.ref b2)])) _
    refine XS.bipush X213.here hx rfl (hb hby at_42) ?_
    exact k
  obtain ⟨T242, X242, e242, st242⟩ := getS2 X213 hx hZ hown (host := "") (Or.inl (hw _ (List.mem_of_getElem? (i := 16) rfl))) Via.refl e213 f226 (g := (mkF m 44 #[.val (.int p1), .unset, .unset, .unset, .unset, .unset, .unset] [(.int (6 : Int32)), (.ref b2), (.ref b2)])) rfl (hb hby at_44)
  have k243 : ∀ t, Steps p.tables e below (T242.setTop (mkF m 47 #[.val (.int p1), .unset, .unset, .unset, .unset, .unset, .unset] [(.ref s6), (.int (6 : Int32)), (.ref b2), (.ref b2)])) t → Steps p.tables e below (s₁.setTop (entryFrame m #[(.int p1)] maxLocals)) t := fun t k => k241 t (st242 t k)
  obtain ⟨cl244, Ar244, qa244, Sa244, Na244, Ha244, Ga244⟩ := id V213
  have hin245 : ¬ ((6 : Int32) < 0 ∨ cl244.slots.size ≤ ((6 : Int32)).toNatClampNeg) := inb_of Sa244 ⟨by decide, by decide⟩
  obtain ⟨T246, h246, X246, e246, W246, st246⟩ := stR X242 hx hZ e242 Ar244 (j := (6 : Int32)) hin245 rfl (Sto.ofV Ar244 qa244 O2 (Ins.self f227)) (g := (mkF m 47 #[.val (.int p1), .unset, .unset, .unset, .unset, .unset, .unset] [(.ref s6), (.int (6 : Int32)), (.ref b2), (.ref b2)])) rfl rfl (hb hby at_47)
  have f247 := f214.wr W246
  have f248 := f215.wr W246
  have f249 := f216.wr W246
  have f250 := f217.wr W246
  have f251 := f218.wr W246
  have f252 := f219.wr W246
  have f253 := f220.wr W246
  have f254 := f221.wr W246
  have f255 := f222.wr W246
  have f256 := f223.wr W246
  have f257 := f224.wr W246
  have f258 := f225.wr W246
  have f259 := f226.wr W246
  have f260 := f227.wr W246
  have f261 := f228.wr W246
  have f262 := f229.wr W246
  have f263 := f230.wr W246
  have f264 := f231.wr W246
  have f265 := f232.wr W246
  have f266 := f233.wr W246
  have f267 := f234.wr W246
  have f268 := f235.wr W246
  have f269 := f236.wr W246
  have f270 := f237.wr W246
  have f271 := f238.wr W246
  have f272 := f239.wr W246
  have V246 : Arv Z h246 b2 c2 (.object "com/example/eager_path/eagerpath/LocationPath$Axis") (13 : Int32) [(.ref s0), (.ref s1), (.ref s2), (.ref s3), (.ref s4), (.ref s5), (.ref s6), .null, .null, .null, .null, .null, .null] .null := Arv.set Ar244 qa244 Sa244 Na244 Ha244 Ga244 rfl W246 6 rfl (Nat.le_of_ble_eq_true rfl)
  have N246 := Fr.snoc X246 N213 ge2
  have K246 : Keep h0 h246 [] := K213.wr W246 (Or.inr bo2)
  have Z246 : n0 ≤ h246.size := Nat.le_trans Z213 (Keep.of_wr W246).1
  have k273 : ∀ t, Steps p.tables e below (T246.setTop (mkF m 48 #[.val (.int p1), .unset, .unset, .unset, .unset, .unset, .unset] [(.ref b2)])) t → Steps p.tables e below (s₁.setTop (entryFrame m #[(.int p1)] maxLocals)) t := fun t k => k243 t (st246 t k)
  have k274 : ∀ t, Steps p.tables e below (T246.setTop (mkF m 51 #[.val (.int p1), .unset, .unset, .unset, .unset, .unset, .unset] [(.int (7 : Int32)), (.ref b2), (.ref b2)])) t → Steps p.tables e below (s₁.setTop (entryFrame m #[(.int p1)] maxLocals)) t := by
    intro t k
    refine k273 t ?_
    show Steps p.tables e below (T246.setTop (mkF m 48 #[.val (.int p1), .unset, .unset, .unset, .unset, .unset, .unset] [(.ref b2)])) _
    refine XS.dup X246.here hx rfl (hb hby at_48) rfl rfl ?_
    show Steps p.tables e below (T246.setTop (mkF m 49 #[.val (.int p1), .unset, .unset, .unset, .unset, .unset, .unset] [(.ref b2), (.ref b2)])) _
    refine XS.bipush X246.here hx rfl (hb hby at_49) ?_
    exact k
  obtain ⟨T275, X275, e275, st275⟩ := getS2 X246 hx hZ hown (host := "") (Or.inl (hw _ (List.mem_of_getElem? (i := 18) rfl))) Via.refl e246 f261 (g := (mkF m 51 #[.val (.int p1), .unset, .unset, .unset, .unset, .unset, .unset] [(.int (7 : Int32)), (.ref b2), (.ref b2)])) rfl (hb hby at_51)
  have k276 : ∀ t, Steps p.tables e below (T275.setTop (mkF m 54 #[.val (.int p1), .unset, .unset, .unset, .unset, .unset, .unset] [(.ref s7), (.int (7 : Int32)), (.ref b2), (.ref b2)])) t → Steps p.tables e below (s₁.setTop (entryFrame m #[(.int p1)] maxLocals)) t := fun t k => k274 t (st275 t k)
  obtain ⟨cl277, Ar277, qa277, Sa277, Na277, Ha277, Ga277⟩ := id V246
  have hin278 : ¬ ((7 : Int32) < 0 ∨ cl277.slots.size ≤ ((7 : Int32)).toNatClampNeg) := inb_of Sa277 ⟨by decide, by decide⟩
  obtain ⟨T279, h279, X279, e279, W279, st279⟩ := stR X275 hx hZ e275 Ar277 (j := (7 : Int32)) hin278 rfl (Sto.ofV Ar277 qa277 O2 (Ins.self f262)) (g := (mkF m 54 #[.val (.int p1), .unset, .unset, .unset, .unset, .unset, .unset] [(.ref s7), (.int (7 : Int32)), (.ref b2), (.ref b2)])) rfl rfl (hb hby at_54)
  have f280 := f247.wr W279
  have f281 := f248.wr W279
  have f282 := f249.wr W279
  have f283 := f250.wr W279
  have f284 := f251.wr W279
  have f285 := f252.wr W279
  have f286 := f253.wr W279
  have f287 := f254.wr W279
  have f288 := f255.wr W279
  have f289 := f256.wr W279
  have f290 := f257.wr W279
  have f291 := f258.wr W279
  have f292 := f259.wr W279
  have f293 := f260.wr W279
  have f294 := f261.wr W279
  have f295 := f262.wr W279
  have f296 := f263.wr W279
  have f297 := f264.wr W279
  have f298 := f265.wr W279
  have f299 := f266.wr W279
  have f300 := f267.wr W279
  have f301 := f268.wr W279
  have f302 := f269.wr W279
  have f303 := f270.wr W279
  have f304 := f271.wr W279
  have f305 := f272.wr W279
  have V279 : Arv Z h279 b2 c2 (.object "com/example/eager_path/eagerpath/LocationPath$Axis") (13 : Int32) [(.ref s0), (.ref s1), (.ref s2), (.ref s3), (.ref s4), (.ref s5), (.ref s6), (.ref s7), .null, .null, .null, .null, .null] .null := Arv.set Ar277 qa277 Sa277 Na277 Ha277 Ga277 rfl W279 7 rfl (Nat.le_of_ble_eq_true rfl)
  have N279 := Fr.snoc X279 N246 ge2
  have K279 : Keep h0 h279 [] := K246.wr W279 (Or.inr bo2)
  have Z279 : n0 ≤ h279.size := Nat.le_trans Z246 (Keep.of_wr W279).1
  have k306 : ∀ t, Steps p.tables e below (T279.setTop (mkF m 55 #[.val (.int p1), .unset, .unset, .unset, .unset, .unset, .unset] [(.ref b2)])) t → Steps p.tables e below (s₁.setTop (entryFrame m #[(.int p1)] maxLocals)) t := fun t k => k276 t (st279 t k)
  have k307 : ∀ t, Steps p.tables e below (T279.setTop (mkF m 58 #[.val (.int p1), .unset, .unset, .unset, .unset, .unset, .unset] [(.int (8 : Int32)), (.ref b2), (.ref b2)])) t → Steps p.tables e below (s₁.setTop (entryFrame m #[(.int p1)] maxLocals)) t := by
    intro t k
    refine k306 t ?_
    show Steps p.tables e below (T279.setTop (mkF m 55 #[.val (.int p1), .unset, .unset, .unset, .unset, .unset, .unset] [(.ref b2)])) _
    refine XS.dup X279.here hx rfl (hb hby at_55) rfl rfl ?_
    show Steps p.tables e below (T279.setTop (mkF m 56 #[.val (.int p1), .unset, .unset, .unset, .unset, .unset, .unset] [(.ref b2), (.ref b2)])) _
    refine XS.bipush X279.here hx rfl (hb hby at_56) ?_
    exact k
  obtain ⟨T308, X308, e308, st308⟩ := getS2 X279 hx hZ hown (host := "") (Or.inl (hw _ (List.mem_of_getElem? (i := 20) rfl))) Via.refl e279 f296 (g := (mkF m 58 #[.val (.int p1), .unset, .unset, .unset, .unset, .unset, .unset] [(.int (8 : Int32)), (.ref b2), (.ref b2)])) rfl (hb hby at_58)
  have k309 : ∀ t, Steps p.tables e below (T308.setTop (mkF m 61 #[.val (.int p1), .unset, .unset, .unset, .unset, .unset, .unset] [(.ref s8), (.int (8 : Int32)), (.ref b2), (.ref b2)])) t → Steps p.tables e below (s₁.setTop (entryFrame m #[(.int p1)] maxLocals)) t := fun t k => k307 t (st308 t k)
  obtain ⟨cl310, Ar310, qa310, Sa310, Na310, Ha310, Ga310⟩ := id V279
  have hin311 : ¬ ((8 : Int32) < 0 ∨ cl310.slots.size ≤ ((8 : Int32)).toNatClampNeg) := inb_of Sa310 ⟨by decide, by decide⟩
  obtain ⟨T312, h312, X312, e312, W312, st312⟩ := stR X308 hx hZ e308 Ar310 (j := (8 : Int32)) hin311 rfl (Sto.ofV Ar310 qa310 O2 (Ins.self f297)) (g := (mkF m 61 #[.val (.int p1), .unset, .unset, .unset, .unset, .unset, .unset] [(.ref s8), (.int (8 : Int32)), (.ref b2), (.ref b2)])) rfl rfl (hb hby at_61)
  have f313 := f280.wr W312
  have f314 := f281.wr W312
  have f315 := f282.wr W312
  have f316 := f283.wr W312
  have f317 := f284.wr W312
  have f318 := f285.wr W312
  have f319 := f286.wr W312
  have f320 := f287.wr W312
  have f321 := f288.wr W312
  have f322 := f289.wr W312
  have f323 := f290.wr W312
  have f324 := f291.wr W312
  have f325 := f292.wr W312
  have f326 := f293.wr W312
  have f327 := f294.wr W312
  have f328 := f295.wr W312
  have f329 := f296.wr W312
  have f330 := f297.wr W312
  have f331 := f298.wr W312
  have f332 := f299.wr W312
  have f333 := f300.wr W312
  have f334 := f301.wr W312
  have f335 := f302.wr W312
  have f336 := f303.wr W312
  have f337 := f304.wr W312
  have f338 := f305.wr W312
  have V312 : Arv Z h312 b2 c2 (.object "com/example/eager_path/eagerpath/LocationPath$Axis") (13 : Int32) [(.ref s0), (.ref s1), (.ref s2), (.ref s3), (.ref s4), (.ref s5), (.ref s6), (.ref s7), (.ref s8), .null, .null, .null, .null] .null := Arv.set Ar310 qa310 Sa310 Na310 Ha310 Ga310 rfl W312 8 rfl (Nat.le_of_ble_eq_true rfl)
  have N312 := Fr.snoc X312 N279 ge2
  have K312 : Keep h0 h312 [] := K279.wr W312 (Or.inr bo2)
  have Z312 : n0 ≤ h312.size := Nat.le_trans Z279 (Keep.of_wr W312).1
  have k339 : ∀ t, Steps p.tables e below (T312.setTop (mkF m 62 #[.val (.int p1), .unset, .unset, .unset, .unset, .unset, .unset] [(.ref b2)])) t → Steps p.tables e below (s₁.setTop (entryFrame m #[(.int p1)] maxLocals)) t := fun t k => k309 t (st312 t k)
  have k340 : ∀ t, Steps p.tables e below (T312.setTop (mkF m 65 #[.val (.int p1), .unset, .unset, .unset, .unset, .unset, .unset] [(.int (9 : Int32)), (.ref b2), (.ref b2)])) t → Steps p.tables e below (s₁.setTop (entryFrame m #[(.int p1)] maxLocals)) t := by
    intro t k
    refine k339 t ?_
    show Steps p.tables e below (T312.setTop (mkF m 62 #[.val (.int p1), .unset, .unset, .unset, .unset, .unset, .unset] [(.ref b2)])) _
    refine XS.dup X312.here hx rfl (hb hby at_62) rfl rfl ?_
    show Steps p.tables e below (T312.setTop (mkF m 63 #[.val (.int p1), .unset, .unset, .unset, .unset, .unset, .unset] [(.ref b2), (.ref b2)])) _
    refine XS.bipush X312.here hx rfl (hb hby at_63) ?_
    exact k
  obtain ⟨T341, X341, e341, st341⟩ := getS2 X312 hx hZ hown (host := "") (Or.inl (hw _ (List.mem_of_getElem? (i := 22) rfl))) Via.refl e312 f331 (g := (mkF m 65 #[.val (.int p1), .unset, .unset, .unset, .unset, .unset, .unset] [(.int (9 : Int32)), (.ref b2), (.ref b2)])) rfl (hb hby at_65)
  have k342 : ∀ t, Steps p.tables e below (T341.setTop (mkF m 68 #[.val (.int p1), .unset, .unset, .unset, .unset, .unset, .unset] [(.ref s9), (.int (9 : Int32)), (.ref b2), (.ref b2)])) t → Steps p.tables e below (s₁.setTop (entryFrame m #[(.int p1)] maxLocals)) t := fun t k => k340 t (st341 t k)
  obtain ⟨cl343, Ar343, qa343, Sa343, Na343, Ha343, Ga343⟩ := id V312
  have hin344 : ¬ ((9 : Int32) < 0 ∨ cl343.slots.size ≤ ((9 : Int32)).toNatClampNeg) := inb_of Sa343 ⟨by decide, by decide⟩
  obtain ⟨T345, h345, X345, e345, W345, st345⟩ := stR X341 hx hZ e341 Ar343 (j := (9 : Int32)) hin344 rfl (Sto.ofV Ar343 qa343 O2 (Ins.self f332)) (g := (mkF m 68 #[.val (.int p1), .unset, .unset, .unset, .unset, .unset, .unset] [(.ref s9), (.int (9 : Int32)), (.ref b2), (.ref b2)])) rfl rfl (hb hby at_68)
  have f346 := f313.wr W345
  have f347 := f314.wr W345
  have f348 := f315.wr W345
  have f349 := f316.wr W345
  have f350 := f317.wr W345
  have f351 := f318.wr W345
  have f352 := f319.wr W345
  have f353 := f320.wr W345
  have f354 := f321.wr W345
  have f355 := f322.wr W345
  have f356 := f323.wr W345
  have f357 := f324.wr W345
  have f358 := f325.wr W345
  have f359 := f326.wr W345
  have f360 := f327.wr W345
  have f361 := f328.wr W345
  have f362 := f329.wr W345
  have f363 := f330.wr W345
  have f364 := f331.wr W345
  have f365 := f332.wr W345
  have f366 := f333.wr W345
  have f367 := f334.wr W345
  have f368 := f335.wr W345
  have f369 := f336.wr W345
  have f370 := f337.wr W345
  have f371 := f338.wr W345
  have V345 : Arv Z h345 b2 c2 (.object "com/example/eager_path/eagerpath/LocationPath$Axis") (13 : Int32) [(.ref s0), (.ref s1), (.ref s2), (.ref s3), (.ref s4), (.ref s5), (.ref s6), (.ref s7), (.ref s8), (.ref s9), .null, .null, .null] .null := Arv.set Ar343 qa343 Sa343 Na343 Ha343 Ga343 rfl W345 9 rfl (Nat.le_of_ble_eq_true rfl)
  have N345 := Fr.snoc X345 N312 ge2
  have K345 : Keep h0 h345 [] := K312.wr W345 (Or.inr bo2)
  have Z345 : n0 ≤ h345.size := Nat.le_trans Z312 (Keep.of_wr W345).1
  have k372 : ∀ t, Steps p.tables e below (T345.setTop (mkF m 69 #[.val (.int p1), .unset, .unset, .unset, .unset, .unset, .unset] [(.ref b2)])) t → Steps p.tables e below (s₁.setTop (entryFrame m #[(.int p1)] maxLocals)) t := fun t k => k342 t (st345 t k)
  have k373 : ∀ t, Steps p.tables e below (T345.setTop (mkF m 72 #[.val (.int p1), .unset, .unset, .unset, .unset, .unset, .unset] [(.int (10 : Int32)), (.ref b2), (.ref b2)])) t → Steps p.tables e below (s₁.setTop (entryFrame m #[(.int p1)] maxLocals)) t := by
    intro t k
    refine k372 t ?_
    show Steps p.tables e below (T345.setTop (mkF m 69 #[.val (.int p1), .unset, .unset, .unset, .unset, .unset, .unset] [(.ref b2)])) _
    refine XS.dup X345.here hx rfl (hb hby at_69) rfl rfl ?_
    show Steps p.tables e below (T345.setTop (mkF m 70 #[.val (.int p1), .unset, .unset, .unset, .unset, .unset, .unset] [(.ref b2), (.ref b2)])) _
    refine XS.bipush X345.here hx rfl (hb hby at_70) ?_
    exact k
  obtain ⟨T374, X374, e374, st374⟩ := getS2 X345 hx hZ hown (host := "") (Or.inl (hw _ (List.mem_of_getElem? (i := 24) rfl))) Via.refl e345 f366 (g := (mkF m 72 #[.val (.int p1), .unset, .unset, .unset, .unset, .unset, .unset] [(.int (10 : Int32)), (.ref b2), (.ref b2)])) rfl (hb hby at_72)
  have k375 : ∀ t, Steps p.tables e below (T374.setTop (mkF m 75 #[.val (.int p1), .unset, .unset, .unset, .unset, .unset, .unset] [(.ref s10), (.int (10 : Int32)), (.ref b2), (.ref b2)])) t → Steps p.tables e below (s₁.setTop (entryFrame m #[(.int p1)] maxLocals)) t := fun t k => k373 t (st374 t k)
  obtain ⟨cl376, Ar376, qa376, Sa376, Na376, Ha376, Ga376⟩ := id V345
  have hin377 : ¬ ((10 : Int32) < 0 ∨ cl376.slots.size ≤ ((10 : Int32)).toNatClampNeg) := inb_of Sa376 ⟨by decide, by decide⟩
  obtain ⟨T378, h378, X378, e378, W378, st378⟩ := stR X374 hx hZ e374 Ar376 (j := (10 : Int32)) hin377 rfl (Sto.ofV Ar376 qa376 O2 (Ins.self f367)) (g := (mkF m 75 #[.val (.int p1), .unset, .unset, .unset, .unset, .unset, .unset] [(.ref s10), (.int (10 : Int32)), (.ref b2), (.ref b2)])) rfl rfl (hb hby at_75)
  have f379 := f346.wr W378
  have f380 := f347.wr W378
  have f381 := f348.wr W378
  have f382 := f349.wr W378
  have f383 := f350.wr W378
  have f384 := f351.wr W378
  have f385 := f352.wr W378
  have f386 := f353.wr W378
  have f387 := f354.wr W378
  have f388 := f355.wr W378
  have f389 := f356.wr W378
  have f390 := f357.wr W378
  have f391 := f358.wr W378
  have f392 := f359.wr W378
  have f393 := f360.wr W378
  have f394 := f361.wr W378
  have f395 := f362.wr W378
  have f396 := f363.wr W378
  have f397 := f364.wr W378
  have f398 := f365.wr W378
  have f399 := f366.wr W378
  have f400 := f367.wr W378
  have f401 := f368.wr W378
  have f402 := f369.wr W378
  have f403 := f370.wr W378
  have f404 := f371.wr W378
  have V378 : Arv Z h378 b2 c2 (.object "com/example/eager_path/eagerpath/LocationPath$Axis") (13 : Int32) [(.ref s0), (.ref s1), (.ref s2), (.ref s3), (.ref s4), (.ref s5), (.ref s6), (.ref s7), (.ref s8), (.ref s9), (.ref s10), .null, .null] .null := Arv.set Ar376 qa376 Sa376 Na376 Ha376 Ga376 rfl W378 10 rfl (Nat.le_of_ble_eq_true rfl)
  have N378 := Fr.snoc X378 N345 ge2
  have K378 : Keep h0 h378 [] := K345.wr W378 (Or.inr bo2)
  have Z378 : n0 ≤ h378.size := Nat.le_trans Z345 (Keep.of_wr W378).1
  have k405 : ∀ t, Steps p.tables e below (T378.setTop (mkF m 76 #[.val (.int p1), .unset, .unset, .unset, .unset, .unset, .unset] [(.ref b2)])) t → Steps p.tables e below (s₁.setTop (entryFrame m #[(.int p1)] maxLocals)) t := fun t k => k375 t (st378 t k)
  have k406 : ∀ t, Steps p.tables e below (T378.setTop (mkF m 79 #[.val (.int p1), .unset, .unset, .unset, .unset, .unset, .unset] [(.int (11 : Int32)), (.ref b2), (.ref b2)])) t → Steps p.tables e below (s₁.setTop (entryFrame m #[(.int p1)] maxLocals)) t := by
    intro t k
    refine k405 t ?_
    show Steps p.tables e below (T378.setTop (mkF m 76 #[.val (.int p1), .unset, .unset, .unset, .unset, .unset, .unset] [(.ref b2)])) _
    refine XS.dup X378.here hx rfl (hb hby at_76) rfl rfl ?_
    show Steps p.tables e below (T378.setTop (mkF m 77 #[.val (.int p1), .unset, .unset, .unset, .unset, .unset, .unset] [(.ref b2), (.ref b2)])) _
    refine XS.bipush X378.here hx rfl (hb hby at_77) ?_
    exact k
  obtain ⟨T407, X407, e407, st407⟩ := getS2 X378 hx hZ hown (host := "") (Or.inl (hw _ (List.mem_of_getElem? (i := 26) rfl))) Via.refl e378 f401 (g := (mkF m 79 #[.val (.int p1), .unset, .unset, .unset, .unset, .unset, .unset] [(.int (11 : Int32)), (.ref b2), (.ref b2)])) rfl (hb hby at_79)
  have k408 : ∀ t, Steps p.tables e below (T407.setTop (mkF m 82 #[.val (.int p1), .unset, .unset, .unset, .unset, .unset, .unset] [(.ref s11), (.int (11 : Int32)), (.ref b2), (.ref b2)])) t → Steps p.tables e below (s₁.setTop (entryFrame m #[(.int p1)] maxLocals)) t := fun t k => k406 t (st407 t k)
  obtain ⟨cl409, Ar409, qa409, Sa409, Na409, Ha409, Ga409⟩ := id V378
  have hin410 : ¬ ((11 : Int32) < 0 ∨ cl409.slots.size ≤ ((11 : Int32)).toNatClampNeg) := inb_of Sa409 ⟨by decide, by decide⟩
  obtain ⟨T411, h411, X411, e411, W411, st411⟩ := stR X407 hx hZ e407 Ar409 (j := (11 : Int32)) hin410 rfl (Sto.ofV Ar409 qa409 O2 (Ins.self f402)) (g := (mkF m 82 #[.val (.int p1), .unset, .unset, .unset, .unset, .unset, .unset] [(.ref s11), (.int (11 : Int32)), (.ref b2), (.ref b2)])) rfl rfl (hb hby at_82)
  have f412 := f379.wr W411
  have f413 := f380.wr W411
  have f414 := f381.wr W411
  have f415 := f382.wr W411
  have f416 := f383.wr W411
  have f417 := f384.wr W411
  have f418 := f385.wr W411
  have f419 := f386.wr W411
  have f420 := f387.wr W411
  have f421 := f388.wr W411
  have f422 := f389.wr W411
  have f423 := f390.wr W411
  have f424 := f391.wr W411
  have f425 := f392.wr W411
  have f426 := f393.wr W411
  have f427 := f394.wr W411
  have f428 := f395.wr W411
  have f429 := f396.wr W411
  have f430 := f397.wr W411
  have f431 := f398.wr W411
  have f432 := f399.wr W411
  have f433 := f400.wr W411
  have f434 := f401.wr W411
  have f435 := f402.wr W411
  have f436 := f403.wr W411
  have f437 := f404.wr W411
  have V411 : Arv Z h411 b2 c2 (.object "com/example/eager_path/eagerpath/LocationPath$Axis") (13 : Int32) [(.ref s0), (.ref s1), (.ref s2), (.ref s3), (.ref s4), (.ref s5), (.ref s6), (.ref s7), (.ref s8), (.ref s9), (.ref s10), (.ref s11), .null] .null := Arv.set Ar409 qa409 Sa409 Na409 Ha409 Ga409 rfl W411 11 rfl (Nat.le_of_ble_eq_true rfl)
  have N411 := Fr.snoc X411 N378 ge2
  have K411 : Keep h0 h411 [] := K378.wr W411 (Or.inr bo2)
  have Z411 : n0 ≤ h411.size := Nat.le_trans Z378 (Keep.of_wr W411).1
  have k438 : ∀ t, Steps p.tables e below (T411.setTop (mkF m 83 #[.val (.int p1), .unset, .unset, .unset, .unset, .unset, .unset] [(.ref b2)])) t → Steps p.tables e below (s₁.setTop (entryFrame m #[(.int p1)] maxLocals)) t := fun t k => k408 t (st411 t k)
  have k439 : ∀ t, Steps p.tables e below (T411.setTop (mkF m 86 #[.val (.int p1), .unset, .unset, .unset, .unset, .unset, .unset] [(.int (12 : Int32)), (.ref b2), (.ref b2)])) t → Steps p.tables e below (s₁.setTop (entryFrame m #[(.int p1)] maxLocals)) t := by
    intro t k
    refine k438 t ?_
    show Steps p.tables e below (T411.setTop (mkF m 83 #[.val (.int p1), .unset, .unset, .unset, .unset, .unset, .unset] [(.ref b2)])) _
    refine XS.dup X411.here hx rfl (hb hby at_83) rfl rfl ?_
    show Steps p.tables e below (T411.setTop (mkF m 84 #[.val (.int p1), .unset, .unset, .unset, .unset, .unset, .unset] [(.ref b2), (.ref b2)])) _
    refine XS.bipush X411.here hx rfl (hb hby at_84) ?_
    exact k
  obtain ⟨T440, X440, e440, st440⟩ := getS2 X411 hx hZ hown (host := "") (Or.inl (hw _ (List.mem_of_getElem? (i := 28) rfl))) Via.refl e411 f436 (g := (mkF m 86 #[.val (.int p1), .unset, .unset, .unset, .unset, .unset, .unset] [(.int (12 : Int32)), (.ref b2), (.ref b2)])) rfl (hb hby at_86)
  have k441 : ∀ t, Steps p.tables e below (T440.setTop (mkF m 89 #[.val (.int p1), .unset, .unset, .unset, .unset, .unset, .unset] [(.ref s12), (.int (12 : Int32)), (.ref b2), (.ref b2)])) t → Steps p.tables e below (s₁.setTop (entryFrame m #[(.int p1)] maxLocals)) t := fun t k => k439 t (st440 t k)
  obtain ⟨cl442, Ar442, qa442, Sa442, Na442, Ha442, Ga442⟩ := id V411
  have hin443 : ¬ ((12 : Int32) < 0 ∨ cl442.slots.size ≤ ((12 : Int32)).toNatClampNeg) := inb_of Sa442 ⟨by decide, by decide⟩
  obtain ⟨T444, h444, X444, e444, W444, st444⟩ := stR X440 hx hZ e440 Ar442 (j := (12 : Int32)) hin443 rfl (Sto.ofV Ar442 qa442 O2 (Ins.self f437)) (g := (mkF m 89 #[.val (.int p1), .unset, .unset, .unset, .unset, .unset, .unset] [(.ref s12), (.int (12 : Int32)), (.ref b2), (.ref b2)])) rfl rfl (hb hby at_89)
  have f445 := f412.wr W444
  have f446 := f413.wr W444
  have f447 := f414.wr W444
  have f448 := f415.wr W444
  have f449 := f416.wr W444
  have f450 := f417.wr W444
  have f451 := f418.wr W444
  have f452 := f419.wr W444
  have f453 := f420.wr W444
  have f454 := f421.wr W444
  have f455 := f422.wr W444
  have f456 := f423.wr W444
  have f457 := f424.wr W444
  have f458 := f425.wr W444
  have f459 := f426.wr W444
  have f460 := f427.wr W444
  have f461 := f428.wr W444
  have f462 := f429.wr W444
  have f463 := f430.wr W444
  have f464 := f431.wr W444
  have f465 := f432.wr W444
  have f466 := f433.wr W444
  have f467 := f434.wr W444
  have f468 := f435.wr W444
  have f469 := f436.wr W444
  have f470 := f437.wr W444
  have V444 : Arv Z h444 b2 c2 (.object "com/example/eager_path/eagerpath/LocationPath$Axis") (13 : Int32) [(.ref s0), (.ref s1), (.ref s2), (.ref s3), (.ref s4), (.ref s5), (.ref s6), (.ref s7), (.ref s8), (.ref s9), (.ref s10), (.ref s11), (.ref s12)] .null := Arv.set Ar442 qa442 Sa442 Na442 Ha442 Ga442 rfl W444 12 rfl (Nat.le_of_ble_eq_true rfl)
  have N444 := Fr.snoc X444 N411 ge2
  have K444 : Keep h0 h444 [] := K411.wr W444 (Or.inr bo2)
  have Z444 : n0 ≤ h444.size := Nat.le_trans Z411 (Keep.of_wr W444).1
  have k471 : ∀ t, Steps p.tables e below (T444.setTop (mkF m 90 #[.val (.int p1), .unset, .unset, .unset, .unset, .unset, .unset] [(.ref b2)])) t → Steps p.tables e below (s₁.setTop (entryFrame m #[(.int p1)] maxLocals)) t := fun t k => k441 t (st444 t k)
  have k472 : ∀ t, Steps p.tables e below (T444.setTop (mkF m 99 #[.val (.int p1), .val (.ref b2), .val (.int (own_ix p1)), .unset, .unset, .unset, .unset] [])) t → Steps p.tables e below (s₁.setTop (entryFrame m #[(.int p1)] maxLocals)) t := by
    intro t k
    refine k471 t ?_
    show Steps p.tables e below (T444.setTop (mkF m 90 #[.val (.int p1), .unset, .unset, .unset, .unset, .unset, .unset] [(.ref b2)])) _
    refine XS.astoreN X444.here hx rfl (hb hby at_90) rfl rfl (l' := #[.val (.int p1), .val (.ref b2), .unset, .unset, .unset, .unset, .unset]) rfl ?_
    show Steps p.tables e below (T444.setTop (mkF m 91 #[.val (.int p1), .val (.ref b2), .unset, .unset, .unset, .unset, .unset] [])) _
    refine XS.iloadN X444.here hx rfl (hb hby at_91) rfl ?_
    show Steps p.tables e below (T444.setTop (mkF m 92 #[.val (.int p1), .val (.ref b2), .unset, .unset, .unset, .unset, .unset] [(.int p1)])) _
    refine X444.ldcInt hx hown (mvT hZ (hw _ (List.mem_of_getElem? (i := 30) rfl))) (g := (mkF m 92 #[.val (.int p1), .val (.ref b2), .unset, .unset, .unset, .unset, .unset] [(.int p1)])) rfl (hb hby at_92) _ ?_
    show Steps p.tables e below (T444.setTop (mkF m 94 #[.val (.int p1), .val (.ref b2), .unset, .unset, .unset, .unset, .unset] [(.int (2147483647 : Int32)), (.int p1)])) _
    refine XS.iand X444.here hx rfl (hb hby at_94) rfl ?_
    show Steps p.tables e below (T444.setTop (mkF m 95 #[.val (.int p1), .val (.ref b2), .unset, .unset, .unset, .unset, .unset] [(.int (p1 &&& (2147483647 : Int32)))])) _
    refine XS.bipush X444.here hx rfl (hb hby at_95) ?_
    show Steps p.tables e below (T444.setTop (mkF m 97 #[.val (.int p1), .val (.ref b2), .unset, .unset, .unset, .unset, .unset] [(.int (13 : Int32)), (.int (p1 &&& (2147483647 : Int32)))])) _
    refine iremM X444 hx rfl (hb hby at_97) rfl (by decide) ?_
    show Steps p.tables e below (T444.setTop (mkF m 98 #[.val (.int p1), .val (.ref b2), .unset, .unset, .unset, .unset, .unset] [(.int ((p1 &&& (2147483647 : Int32)) % (13 : Int32)))])) _
    refine XS.istoreN X444.here hx rfl (hb hby at_98) rfl (l' := #[.val (.int p1), .val (.ref b2), .val (.int ((p1 &&& (2147483647 : Int32)) % (13 : Int32))), .unset, .unset, .unset, .unset]) rfl ?_
    exact k
  rcases own_ixc p1 with he | he | he | he | he | he | he | he | he | he | he | he | he
  · have k473 : ∀ t, Steps p.tables e below (T444.setTop (mkF m 99 #[.val (.int p1), .val (.ref b2), .val (.int (0 : Int32)), .unset, .unset, .unset, .unset] [])) t → Steps p.tables e below (s₁.setTop (entryFrame m #[(.int p1)] maxLocals)) t := by have z := k472; rw [he] at z; exact z
    obtain ⟨cl474, Ar474, qa474, Sa474, Na474, Ha474, Ga474⟩ := id V444
    have hin475 : ¬ ((0 : Int32) < 0 ∨ cl474.slots.size ≤ ((0 : Int32)).toNatClampNeg) := inb_of Sa474 ⟨by decide, by decide⟩
    have hat476 : cl474.slots[((0 : Int32)).toNatClampNeg]? = some (.ref s0) := Ha474 0 (Nat.lt_of_not_le fun q => hin475 (Or.inr q))
    have k477 : ∀ t, Steps p.tables e below (T444.setTop (mkF m 104 #[.val (.int p1), .val (.ref b2), .val (.int (0 : Int32)), .val (.ref s0), .unset, .unset, .unset] [(.ref s0)])) t → Steps p.tables e below (s₁.setTop (entryFrame m #[(.int p1)] maxLocals)) t := by
      intro t k
      refine k473 t ?_
      show Steps p.tables e below (T444.setTop (mkF m 99 #[.val (.int p1), .val (.ref b2), .val (.int (0 : Int32)), .unset, .unset, .unset, .unset] [])) _
      refine XS.aloadN X444.here hx rfl (hb hby at_99) rfl rfl ?_
      show Steps p.tables e below (T444.setTop (mkF m 100 #[.val (.int p1), .val (.ref b2), .val (.int (0 : Int32)), .unset, .unset, .unset, .unset] [(.ref b2)])) _
      refine XS.iloadN X444.here hx rfl (hb hby at_100) rfl ?_
      show Steps p.tables e below (T444.setTop (mkF m 101 #[.val (.int p1), .val (.ref b2), .val (.int (0 : Int32)), .unset, .unset, .unset, .unset] [(.int (0 : Int32)), (.ref b2)])) _
      refine X444.aaload hx (j := (0 : Int32)) (v := (.ref s0)) (by rw [e444]; exact Ar474.1) (State.isArrayOf_alike hZ.alike Ar474.2.1) rfl Ar474.2.2 hin475 hat476 (g := (mkF m 101 #[.val (.int p1), .val (.ref b2), .val (.int (0 : Int32)), .unset, .unset, .unset, .unset] [(.int (0 : Int32)), (.ref b2)])) rfl rfl (hb hby at_101) _ ?_
      show Steps p.tables e below (T444.setTop (mkF m 102 #[.val (.int p1), .val (.ref b2), .val (.int (0 : Int32)), .unset, .unset, .unset, .unset] [(.ref s0)])) _
      refine XS.astoreN X444.here hx rfl (hb hby at_102) rfl rfl (l' := #[.val (.int p1), .val (.ref b2), .val (.int (0 : Int32)), .val (.ref s0), .unset, .unset, .unset]) rfl ?_
      show Steps p.tables e below (T444.setTop (mkF m 103 #[.val (.int p1), .val (.ref b2), .val (.int (0 : Int32)), .val (.ref s0), .unset, .unset, .unset] [])) _
      refine XS.aloadN X444.here hx rfl (hb hby at_103) rfl rfl ?_
      exact k
    obtain ⟨T478, X478, e478, st478⟩ := getS2 X444 hx hZ hown (host := "") (Or.inl (hw _ (List.mem_of_getElem? (i := 2) rfl))) Via.refl e444 f445 (g := (mkF m 104 #[.val (.int p1), .val (.ref b2), .val (.int (0 : Int32)), .val (.ref s0), .unset, .unset, .unset] [(.ref s0)])) rfl (hb hby at_104)
    have k479 : ∀ t, Steps p.tables e below (T478.setTop (mkF m 107 #[.val (.int p1), .val (.ref b2), .val (.int (0 : Int32)), .val (.ref s0), .unset, .unset, .unset] [(.ref s0), (.ref s0)])) t → Steps p.tables e below (s₁.setTop (entryFrame m #[(.int p1)] maxLocals)) t := fun t k => k477 t (st478 t k)
    have k480 : ∀ t, Steps p.tables e below (T478.setTop (mkF m 165 #[.val (.int p1), .val (.ref b2), .val (.int (0 : Int32)), .val (.ref s0), .val (.int (1 : Int32)), .val (.int (0 : Int32)), .unset] [(.ref s0)])) t → Steps p.tables e below (s₁.setTop (entryFrame m #[(.int p1)] maxLocals)) t := by
      intro t k
      refine k479 t ?_
      show Steps p.tables e below (T478.setTop (mkF m 107 #[.val (.int p1), .val (.ref b2), .val (.int (0 : Int32)), .val (.ref s0), .unset, .unset, .unset] [(.ref s0), (.ref s0)])) _
      refine Jvm.RoadKit.acmp (g := (mkF m 107 #[.val (.int p1), .val (.ref b2), .val (.int (0 : Int32)), .val (.ref s0), .unset, .unset, .unset] [(.ref s0), (.ref s0)])) X478 hx rfl rfl rfl (pc0 := 107) (pc' := 145) (same := true) rfl (hb hby at_107) rfl (decide_eq_true rfl) (by decide) (by decide) ?_
      show Steps p.tables e below (T478.setTop (mkF m 145 #[.val (.int p1), .val (.ref b2), .val (.int (0 : Int32)), .val (.ref s0), .unset, .unset, .unset] [])) _
      refine XS.iconst X478.here hx rfl (hb hby at_145) ?_
      show Steps p.tables e below (T478.setTop (mkF m 146 #[.val (.int p1), .val (.ref b2), .val (.int (0 : Int32)), .val (.ref s0), .unset, .unset, .unset] [(.int (1 : Int32))])) _
      refine XS.goto X478.here hx rfl (pc0 := 146) (pc' := 150) rfl (hb hby at_146) (by decide) (by decide) ?_
      show Steps p.tables e below (T478.setTop (mkF m 150 #[.val (.int p1), .val (.ref b2), .val (.int (0 : Int32)), .val (.ref s0), .unset, .unset, .unset] [(.int (1 : Int32))])) _
      refine XS.istore X478.here hx rfl (hb hby at_150) rfl (l' := #[.val (.int p1), .val (.ref b2), .val (.int (0 : Int32)), .val (.ref s0), .val (.int (1 : Int32)), .unset, .unset]) rfl ?_
      show Steps p.tables e below (T478.setTop (mkF m 152 #[.val (.int p1), .val (.ref b2), .val (.int (0 : Int32)), .val (.ref s0), .val (.int (1 : Int32)), .unset, .unset] [])) _
      refine XS.iload X478.here hx rfl (hb hby at_152) rfl ?_
      show Steps p.tables e below (T478.setTop (mkF m 154 #[.val (.int p1), .val (.ref b2), .val (.int (0 : Int32)), .val (.ref s0), .val (.int (1 : Int32)), .unset, .unset] [(.int (1 : Int32))])) _
      refine XS.ifYes X478.here hx rfl (pc0 := 154) (pc' := 161) rfl (hb hby at_154) rfl ((if0 _ _).trans (feq (by decide : ¬ ((1 : Int32) = (0 : Int32)))).2) (by decide) (by decide) ?_
      show Steps p.tables e below (T478.setTop (mkF m 161 #[.val (.int p1), .val (.ref b2), .val (.int (0 : Int32)), .val (.ref s0), .val (.int (1 : Int32)), .unset, .unset] [])) _
      refine XS.iconst X478.here hx rfl (hb hby at_161) ?_
      show Steps p.tables e below (T478.setTop (mkF m 162 #[.val (.int p1), .val (.ref b2), .val (.int (0 : Int32)), .val (.ref s0), .val (.int (1 : Int32)), .unset, .unset] [(.int (0 : Int32))])) _
      refine XS.istore X478.here hx rfl (hb hby at_162) rfl (l' := #[.val (.int p1), .val (.ref b2), .val (.int (0 : Int32)), .val (.ref s0), .val (.int (1 : Int32)), .val (.int (0 : Int32)), .unset]) rfl ?_
      show Steps p.tables e below (T478.setTop (mkF m 164 #[.val (.int p1), .val (.ref b2), .val (.int (0 : Int32)), .val (.ref s0), .val (.int (1 : Int32)), .val (.int (0 : Int32)), .unset] [])) _
      refine XS.aloadN X478.here hx rfl (hb hby at_164) rfl rfl ?_
      exact k
    obtain ⟨cq481, kq481, q481a, q481b, q481c⟩ := isOf hZ e478 f446
    obtain ⟨_, _, ⟨T481, L481, k481c, n481⟩, -, X481, ⟨Lc481, hQ481, l481, y481, z481⟩, st481⟩ := X478.virtualBack hx (y := (⟨"com/example/eager_path/eagerpath/LocationPath$Axis", "leavesSubtree", "()Z"⟩ : MethodName)) (z := (⟨"com/example/eager_path/eagerpath/LocationPath$Axis", "leavesSubtree", "()Z"⟩ : MethodName)) hown (mvT hZ (hw _ (List.mem_of_getElem? (i := 31) rfl))) (mvT hZ (hw _ (List.mem_of_getElem? (i := 32) rfl))) (notFace_of_selects (args := #[]) (mvT hZ (hw _ (List.mem_of_getElem? (i := 34) rfl)))) (mvT hZ (hw _ (List.mem_of_getElem? (i := 34) rfl))) (mvT hZ (hw _ (List.mem_of_getElem? (i := 33) rfl))) (by decide) (backOf (W := 0) (own_rmls l Z a0 hw [] s0 s2 s4 s5 s8 s9 s10 s11 h444 n0 Z444 f449 f453 f455 f461 f463 f465 f467) hZ (hw _ (List.mem_of_getElem? (i := 35) rfl)) (hw _ (List.mem_of_getElem? (i := 3) rfl)) (by decide) (by decide)) q481a q481c (g := (mkF m 165 #[.val (.int p1), .val (.ref b2), .val (.int (0 : Int32)), .val (.ref s0), .val (.int (1 : Int32)), .val (.int (0 : Int32)), .unset] [(.ref s0)])) rfl (by rw [hml]; rfl) (Steps.refl _) (argsL := []) (rest := []) (lenOf own_pd0 rfl) rfl (by show 2 * 0 + _ ≤ _; exact Nat.le_of_eq rfl) (hb hby at_165) (fun _ _ => ⟨rfl, e478, (by decide : 1 + 0 ≤ _), (by decide : 13 + 0 ≤ _)⟩)
    dsimp only [Pt.U, Pt.locs, Pt.cells, Pt.slots] at X481 l481 y481 z481 st481 hQ481
    subst l481 y481 z481
    have hv481 : (own_vls s0 s2 s4 s5 s8 s9 s10 s11) = (0 : Int32) := ((if_neg (own_ne oO0 oO2 (by decide))).trans ((if_neg (own_ne oO0 oO4 (by decide))).trans ((if_neg (own_ne oO0 oO5 (by decide))).trans ((if_neg (own_ne oO0 oO8 (by decide))).trans ((if_neg (own_ne oO0 oO9 (by decide))).trans ((if_neg (own_ne oO0 oO10 (by decide))).trans (if_neg (own_ne oO0 oO11 (by decide)))))))))
    obtain ⟨hr481, N481q, e481⟩ := hQ481
    rw [hv481] at hr481
    subst hr481
    have N481 := Fr.app N444 N481q
    have k482 : ∀ t, Steps p.tables e below (T481.setTop (mkF m 168 #[.val (.int p1), .val (.ref b2), .val (.int (0 : Int32)), .val (.ref s0), .val (.int (1 : Int32)), .val (.int (0 : Int32)), .unset] [(.int (0 : Int32))])) t → Steps p.tables e below (s₁.setTop (entryFrame m #[(.int p1)] maxLocals)) t := fun t k => k480 t (st481.trans k)
    have k483 : ∀ t, Steps p.tables e below (T481.setTop (mkF m 180 #[.val (.int p1), .val (.ref b2), .val (.int (0 : Int32)), .val (.ref s0), .val (.int (1 : Int32)), .val (.int (0 : Int32)), .val (.int (0 : Int32))] [(.ref s0)])) t → Steps p.tables e below (s₁.setTop (entryFrame m #[(.int p1)] maxLocals)) t := by
      intro t k
      refine k482 t ?_
      show Steps p.tables e below (T481.setTop (mkF m 168 #[.val (.int p1), .val (.ref b2), .val (.int (0 : Int32)), .val (.ref s0), .val (.int (1 : Int32)), .val (.int (0 : Int32)), .unset] [(.int (0 : Int32))])) _
      refine XS.istore X481.here hx rfl (hb hby at_168) rfl (l' := #[.val (.int p1), .val (.ref b2), .val (.int (0 : Int32)), .val (.ref s0), .val (.int (1 : Int32)), .val (.int (0 : Int32)), .val (.int (0 : Int32))]) rfl ?_
      show Steps p.tables e below (T481.setTop (mkF m 170 #[.val (.int p1), .val (.ref b2), .val (.int (0 : Int32)), .val (.ref s0), .val (.int (1 : Int32)), .val (.int (0 : Int32)), .val (.int (0 : Int32))] [])) _
      refine XS.iload X481.here hx rfl (hb hby at_170) rfl ?_
      show Steps p.tables e below (T481.setTop (mkF m 172 #[.val (.int p1), .val (.ref b2), .val (.int (0 : Int32)), .val (.ref s0), .val (.int (1 : Int32)), .val (.int (0 : Int32)), .val (.int (0 : Int32))] [(.int (0 : Int32))])) _
      refine XS.iload X481.here hx rfl (hb hby at_172) rfl ?_
      show Steps p.tables e below (T481.setTop (mkF m 174 #[.val (.int p1), .val (.ref b2), .val (.int (0 : Int32)), .val (.ref s0), .val (.int (1 : Int32)), .val (.int (0 : Int32)), .val (.int (0 : Int32))] [(.int (0 : Int32)), (.int (0 : Int32))])) _
      refine XS.icmpYes X481.here hx rfl (pc0 := 174) (pc' := 179) rfl (hb hby at_174) rfl (teq (rfl : (0 : Int32) = (0 : Int32))).1 (by decide) (by decide) ?_
      show Steps p.tables e below (T481.setTop (mkF m 179 #[.val (.int p1), .val (.ref b2), .val (.int (0 : Int32)), .val (.ref s0), .val (.int (1 : Int32)), .val (.int (0 : Int32)), .val (.int (0 : Int32))] [])) _
      refine XS.aloadN X481.here hx rfl (hb hby at_179) rfl rfl ?_
      exact k
    obtain ⟨cq484, kq484, q484a, q484b, q484c⟩ := isOf hZ e481 f446
    obtain ⟨_, _, ⟨T484, L484, k484c, n484⟩, -, X484, ⟨Lc484, hQ484, l484, y484, z484⟩, st484⟩ := X481.virtualBack hx (y := (⟨"com/example/eager_path/eagerpath/LocationPath$Axis", "reverse", "()Z"⟩ : MethodName)) (z := (⟨"com/example/eager_path/eagerpath/LocationPath$Axis", "reverse", "()Z"⟩ : MethodName)) hown (mvT hZ (hw _ (List.mem_of_getElem? (i := 43) rfl))) (mvT hZ (hw _ (List.mem_of_getElem? (i := 44) rfl))) (notFace_of_selects (args := #[]) (mvT hZ (hw _ (List.mem_of_getElem? (i := 46) rfl)))) (mvT hZ (hw _ (List.mem_of_getElem? (i := 46) rfl))) (mvT hZ (hw _ (List.mem_of_getElem? (i := 45) rfl))) (by decide) (backOf (W := 0) (own_rmrv l Z a0 hw [] s0 s4 s5 s10 s11 h444 n0 Z444 f453 f455 f465 f467) hZ (hw _ (List.mem_of_getElem? (i := 47) rfl)) (hw _ (List.mem_of_getElem? (i := 3) rfl)) (by decide) (by decide)) q484a q484c (g := (mkF m 180 #[.val (.int p1), .val (.ref b2), .val (.int (0 : Int32)), .val (.ref s0), .val (.int (1 : Int32)), .val (.int (0 : Int32)), .val (.int (0 : Int32))] [(.ref s0)])) rfl (by rw [hml]; rfl) (Steps.refl _) (argsL := []) (rest := []) (lenOf own_pd0 rfl) rfl (by show 2 * 0 + _ ≤ _; exact Nat.le_of_eq rfl) (hb hby at_180) (fun _ _ => ⟨rfl, e481, (by decide : 1 + 0 ≤ _), (by decide : 13 + 0 ≤ _)⟩)
    dsimp only [Pt.U, Pt.locs, Pt.cells, Pt.slots] at X484 l484 y484 z484 st484 hQ484
    subst l484 y484 z484
    have hv484 : (own_vrv s0 s4 s5 s10 s11) = (0 : Int32) := ((if_neg (own_ne oO0 oO4 (by decide))).trans ((if_neg (own_ne oO0 oO5 (by decide))).trans ((if_neg (own_ne oO0 oO10 (by decide))).trans (if_neg (own_ne oO0 oO11 (by decide))))))
    obtain ⟨hr484, N484q, e484⟩ := hQ484
    rw [hv484] at hr484
    subst hr484
    have N484 := Fr.app N481 N484q
    have k485 : ∀ t, Steps p.tables e below (T484.setTop (mkF m 183 #[.val (.int p1), .val (.ref b2), .val (.int (0 : Int32)), .val (.ref s0), .val (.int (1 : Int32)), .val (.int (0 : Int32)), .val (.int (0 : Int32))] [(.int (0 : Int32))])) t → Steps p.tables e below (s₁.setTop (entryFrame m #[(.int p1)] maxLocals)) t := fun t k => k483 t (st484.trans k)
    have k486 : ∀ t, Steps p.tables e below (T484.setTop (mkF m 194 #[.val (.int p1), .val (.ref b2), .val (.int (0 : Int32)), .val (.ref s0), .val (.int (1 : Int32)), .val (.int (0 : Int32)), .val (.int (0 : Int32))] [(.int (1 : Int32))])) t → Steps p.tables e below (s₁.setTop (entryFrame m #[(.int p1)] maxLocals)) t := by
      intro t k
      refine k485 t ?_
      show Steps p.tables e below (T484.setTop (mkF m 183 #[.val (.int p1), .val (.ref b2), .val (.int (0 : Int32)), .val (.ref s0), .val (.int (1 : Int32)), .val (.int (0 : Int32)), .val (.int (0 : Int32))] [(.int (0 : Int32))])) _
      refine XS.ifYes X484.here hx rfl (pc0 := 183) (pc' := 193) rfl (hb hby at_183) rfl ((if0 _ _).trans (teq (rfl : (0 : Int32) = (0 : Int32))).1) (by decide) (by decide) ?_
      show Steps p.tables e below (T484.setTop (mkF m 193 #[.val (.int p1), .val (.ref b2), .val (.int (0 : Int32)), .val (.ref s0), .val (.int (1 : Int32)), .val (.int (0 : Int32)), .val (.int (0 : Int32))] [])) _
      refine XS.iconst X484.here hx rfl (hb hby at_193) ?_
      exact k
    obtain ⟨fs, hr, hrun, hended, hW, hsame⟩ := X484.leave (v := (some (.int (1 : Int32)))) (fun h => by rw [Bd.returns] at h; cases h)
    refine ⟨_, _, k486 _ ?_, hrun, hended, _, _, rfl, ?_, ⟨_, rfl⟩, hW, hsame.mono (by decide) (by decide)⟩
    · exact retN X484 hx (t := .boolean) Bd.returns (by simp) (hb hby at_194) hr
    · exact ⟨rfl, N484⟩
  · have k487 : ∀ t, Steps p.tables e below (T444.setTop (mkF m 99 #[.val (.int p1), .val (.ref b2), .val (.int (1 : Int32)), .unset, .unset, .unset, .unset] [])) t → Steps p.tables e below (s₁.setTop (entryFrame m #[(.int p1)] maxLocals)) t := by have z := k472; rw [he] at z; exact z
    obtain ⟨cl488, Ar488, qa488, Sa488, Na488, Ha488, Ga488⟩ := id V444
    have hin489 : ¬ ((1 : Int32) < 0 ∨ cl488.slots.size ≤ ((1 : Int32)).toNatClampNeg) := inb_of Sa488 ⟨by decide, by decide⟩
    have hat490 : cl488.slots[((1 : Int32)).toNatClampNeg]? = some (.ref s1) := Ha488 1 (Nat.lt_of_not_le fun q => hin489 (Or.inr q))
    have k491 : ∀ t, Steps p.tables e below (T444.setTop (mkF m 104 #[.val (.int p1), .val (.ref b2), .val (.int (1 : Int32)), .val (.ref s1), .unset, .unset, .unset] [(.ref s1)])) t → Steps p.tables e below (s₁.setTop (entryFrame m #[(.int p1)] maxLocals)) t := by
      intro t k
      refine k487 t ?_
      show Steps p.tables e below (T444.setTop (mkF m 99 #[.val (.int p1), .val (.ref b2), .val (.int (1 : Int32)), .unset, .unset, .unset, .unset] [])) _
      refine XS.aloadN X444.here hx rfl (hb hby at_99) rfl rfl ?_
      show Steps p.tables e below (T444.setTop (mkF m 100 #[.val (.int p1), .val (.ref b2), .val (.int (1 : Int32)), .unset, .unset, .unset, .unset] [(.ref b2)])) _
      refine XS.iloadN X444.here hx rfl (hb hby at_100) rfl ?_
      show Steps p.tables e below (T444.setTop (mkF m 101 #[.val (.int p1), .val (.ref b2), .val (.int (1 : Int32)), .unset, .unset, .unset, .unset] [(.int (1 : Int32)), (.ref b2)])) _
      refine X444.aaload hx (j := (1 : Int32)) (v := (.ref s1)) (by rw [e444]; exact Ar488.1) (State.isArrayOf_alike hZ.alike Ar488.2.1) rfl Ar488.2.2 hin489 hat490 (g := (mkF m 101 #[.val (.int p1), .val (.ref b2), .val (.int (1 : Int32)), .unset, .unset, .unset, .unset] [(.int (1 : Int32)), (.ref b2)])) rfl rfl (hb hby at_101) _ ?_
      show Steps p.tables e below (T444.setTop (mkF m 102 #[.val (.int p1), .val (.ref b2), .val (.int (1 : Int32)), .unset, .unset, .unset, .unset] [(.ref s1)])) _
      refine XS.astoreN X444.here hx rfl (hb hby at_102) rfl rfl (l' := #[.val (.int p1), .val (.ref b2), .val (.int (1 : Int32)), .val (.ref s1), .unset, .unset, .unset]) rfl ?_
      show Steps p.tables e below (T444.setTop (mkF m 103 #[.val (.int p1), .val (.ref b2), .val (.int (1 : Int32)), .val (.ref s1), .unset, .unset, .unset] [])) _
      refine XS.aloadN X444.here hx rfl (hb hby at_103) rfl rfl ?_
      exact k
    obtain ⟨T492, X492, e492, st492⟩ := getS2 X444 hx hZ hown (host := "") (Or.inl (hw _ (List.mem_of_getElem? (i := 2) rfl))) Via.refl e444 f445 (g := (mkF m 104 #[.val (.int p1), .val (.ref b2), .val (.int (1 : Int32)), .val (.ref s1), .unset, .unset, .unset] [(.ref s1)])) rfl (hb hby at_104)
    have k493 : ∀ t, Steps p.tables e below (T492.setTop (mkF m 107 #[.val (.int p1), .val (.ref b2), .val (.int (1 : Int32)), .val (.ref s1), .unset, .unset, .unset] [(.ref s0), (.ref s1)])) t → Steps p.tables e below (s₁.setTop (entryFrame m #[(.int p1)] maxLocals)) t := fun t k => k491 t (st492 t k)
    have k494 : ∀ t, Steps p.tables e below (T492.setTop (mkF m 111 #[.val (.int p1), .val (.ref b2), .val (.int (1 : Int32)), .val (.ref s1), .unset, .unset, .unset] [(.ref s1)])) t → Steps p.tables e below (s₁.setTop (entryFrame m #[(.int p1)] maxLocals)) t := by
      intro t k
      refine k493 t ?_
      show Steps p.tables e below (T492.setTop (mkF m 107 #[.val (.int p1), .val (.ref b2), .val (.int (1 : Int32)), .val (.ref s1), .unset, .unset, .unset] [(.ref s0), (.ref s1)])) _
      refine Jvm.RoadKit.acmp (g := (mkF m 107 #[.val (.int p1), .val (.ref b2), .val (.int (1 : Int32)), .val (.ref s1), .unset, .unset, .unset] [(.ref s0), (.ref s1)])) X492 hx rfl rfl rfl (pc0 := 107) (pc' := 110) (same := false) rfl (hb hby at_107) rfl (decide_eq_false fun q => (own_ne oO1 oO0 (by decide)) (Value.ref.inj q)) (by decide) (by decide) ?_
      show Steps p.tables e below (T492.setTop (mkF m 110 #[.val (.int p1), .val (.ref b2), .val (.int (1 : Int32)), .val (.ref s1), .unset, .unset, .unset] [])) _
      refine XS.aloadN X492.here hx rfl (hb hby at_110) rfl rfl ?_
      exact k
    obtain ⟨T495, X495, e495, st495⟩ := getS2 X492 hx hZ hown (host := "") (Or.inl (hw _ (List.mem_of_getElem? (i := 6) rfl))) Via.refl e492 f447 (g := (mkF m 111 #[.val (.int p1), .val (.ref b2), .val (.int (1 : Int32)), .val (.ref s1), .unset, .unset, .unset] [(.ref s1)])) rfl (hb hby at_111)
    have k496 : ∀ t, Steps p.tables e below (T495.setTop (mkF m 114 #[.val (.int p1), .val (.ref b2), .val (.int (1 : Int32)), .val (.ref s1), .unset, .unset, .unset] [(.ref s1), (.ref s1)])) t → Steps p.tables e below (s₁.setTop (entryFrame m #[(.int p1)] maxLocals)) t := fun t k => k494 t (st495 t k)
    have k497 : ∀ t, Steps p.tables e below (T495.setTop (mkF m 165 #[.val (.int p1), .val (.ref b2), .val (.int (1 : Int32)), .val (.ref s1), .val (.int (1 : Int32)), .val (.int (0 : Int32)), .unset] [(.ref s1)])) t → Steps p.tables e below (s₁.setTop (entryFrame m #[(.int p1)] maxLocals)) t := by
      intro t k
      refine k496 t ?_
      show Steps p.tables e below (T495.setTop (mkF m 114 #[.val (.int p1), .val (.ref b2), .val (.int (1 : Int32)), .val (.ref s1), .unset, .unset, .unset] [(.ref s1), (.ref s1)])) _
      refine Jvm.RoadKit.acmp (g := (mkF m 114 #[.val (.int p1), .val (.ref b2), .val (.int (1 : Int32)), .val (.ref s1), .unset, .unset, .unset] [(.ref s1), (.ref s1)])) X495 hx rfl rfl rfl (pc0 := 114) (pc' := 145) (same := true) rfl (hb hby at_114) rfl (decide_eq_true rfl) (by decide) (by decide) ?_
      show Steps p.tables e below (T495.setTop (mkF m 145 #[.val (.int p1), .val (.ref b2), .val (.int (1 : Int32)), .val (.ref s1), .unset, .unset, .unset] [])) _
      refine XS.iconst X495.here hx rfl (hb hby at_145) ?_
      show Steps p.tables e below (T495.setTop (mkF m 146 #[.val (.int p1), .val (.ref b2), .val (.int (1 : Int32)), .val (.ref s1), .unset, .unset, .unset] [(.int (1 : Int32))])) _
      refine XS.goto X495.here hx rfl (pc0 := 146) (pc' := 150) rfl (hb hby at_146) (by decide) (by decide) ?_
      show Steps p.tables e below (T495.setTop (mkF m 150 #[.val (.int p1), .val (.ref b2), .val (.int (1 : Int32)), .val (.ref s1), .unset, .unset, .unset] [(.int (1 : Int32))])) _
      refine XS.istore X495.here hx rfl (hb hby at_150) rfl (l' := #[.val (.int p1), .val (.ref b2), .val (.int (1 : Int32)), .val (.ref s1), .val (.int (1 : Int32)), .unset, .unset]) rfl ?_
      show Steps p.tables e below (T495.setTop (mkF m 152 #[.val (.int p1), .val (.ref b2), .val (.int (1 : Int32)), .val (.ref s1), .val (.int (1 : Int32)), .unset, .unset] [])) _
      refine XS.iload X495.here hx rfl (hb hby at_152) rfl ?_
      show Steps p.tables e below (T495.setTop (mkF m 154 #[.val (.int p1), .val (.ref b2), .val (.int (1 : Int32)), .val (.ref s1), .val (.int (1 : Int32)), .unset, .unset] [(.int (1 : Int32))])) _
      refine XS.ifYes X495.here hx rfl (pc0 := 154) (pc' := 161) rfl (hb hby at_154) rfl ((if0 _ _).trans (feq (by decide : ¬ ((1 : Int32) = (0 : Int32)))).2) (by decide) (by decide) ?_
      show Steps p.tables e below (T495.setTop (mkF m 161 #[.val (.int p1), .val (.ref b2), .val (.int (1 : Int32)), .val (.ref s1), .val (.int (1 : Int32)), .unset, .unset] [])) _
      refine XS.iconst X495.here hx rfl (hb hby at_161) ?_
      show Steps p.tables e below (T495.setTop (mkF m 162 #[.val (.int p1), .val (.ref b2), .val (.int (1 : Int32)), .val (.ref s1), .val (.int (1 : Int32)), .unset, .unset] [(.int (0 : Int32))])) _
      refine XS.istore X495.here hx rfl (hb hby at_162) rfl (l' := #[.val (.int p1), .val (.ref b2), .val (.int (1 : Int32)), .val (.ref s1), .val (.int (1 : Int32)), .val (.int (0 : Int32)), .unset]) rfl ?_
      show Steps p.tables e below (T495.setTop (mkF m 164 #[.val (.int p1), .val (.ref b2), .val (.int (1 : Int32)), .val (.ref s1), .val (.int (1 : Int32)), .val (.int (0 : Int32)), .unset] [])) _
      refine XS.aloadN X495.here hx rfl (hb hby at_164) rfl rfl ?_
      exact k
    obtain ⟨cq498, kq498, q498a, q498b, q498c⟩ := isOf hZ e495 f448
    obtain ⟨_, _, ⟨T498, L498, k498c, n498⟩, -, X498, ⟨Lc498, hQ498, l498, y498, z498⟩, st498⟩ := X495.virtualBack hx (y := (⟨"com/example/eager_path/eagerpath/LocationPath$Axis", "leavesSubtree", "()Z"⟩ : MethodName)) (z := (⟨"com/example/eager_path/eagerpath/LocationPath$Axis", "leavesSubtree", "()Z"⟩ : MethodName)) hown (mvT hZ (hw _ (List.mem_of_getElem? (i := 31) rfl))) (mvT hZ (hw _ (List.mem_of_getElem? (i := 32) rfl))) (notFace_of_selects (args := #[]) (mvT hZ (hw _ (List.mem_of_getElem? (i := 34) rfl)))) (mvT hZ (hw _ (List.mem_of_getElem? (i := 34) rfl))) (mvT hZ (hw _ (List.mem_of_getElem? (i := 33) rfl))) (by decide) (backOf (W := 0) (own_rmls l Z a0 hw [] s1 s2 s4 s5 s8 s9 s10 s11 h444 n0 Z444 f449 f453 f455 f461 f463 f465 f467) hZ (hw _ (List.mem_of_getElem? (i := 35) rfl)) (hw _ (List.mem_of_getElem? (i := 3) rfl)) (by decide) (by decide)) q498a q498c (g := (mkF m 165 #[.val (.int p1), .val (.ref b2), .val (.int (1 : Int32)), .val (.ref s1), .val (.int (1 : Int32)), .val (.int (0 : Int32)), .unset] [(.ref s1)])) rfl (by rw [hml]; rfl) (Steps.refl _) (argsL := []) (rest := []) (lenOf own_pd0 rfl) rfl (by show 2 * 0 + _ ≤ _; exact Nat.le_of_eq rfl) (hb hby at_165) (fun _ _ => ⟨rfl, e495, (by decide : 1 + 0 ≤ _), (by decide : 13 + 0 ≤ _)⟩)
    dsimp only [Pt.U, Pt.locs, Pt.cells, Pt.slots] at X498 l498 y498 z498 st498 hQ498
    subst l498 y498 z498
    have hv498 : (own_vls s1 s2 s4 s5 s8 s9 s10 s11) = (0 : Int32) := ((if_neg (own_ne oO1 oO2 (by decide))).trans ((if_neg (own_ne oO1 oO4 (by decide))).trans ((if_neg (own_ne oO1 oO5 (by decide))).trans ((if_neg (own_ne oO1 oO8 (by decide))).trans ((if_neg (own_ne oO1 oO9 (by decide))).trans ((if_neg (own_ne oO1 oO10 (by decide))).trans (if_neg (own_ne oO1 oO11 (by decide)))))))))
    obtain ⟨hr498, N498q, e498⟩ := hQ498
    rw [hv498] at hr498
    subst hr498
    have N498 := Fr.app N444 N498q
    have k499 : ∀ t, Steps p.tables e below (T498.setTop (mkF m 168 #[.val (.int p1), .val (.ref b2), .val (.int (1 : Int32)), .val (.ref s1), .val (.int (1 : Int32)), .val (.int (0 : Int32)), .unset] [(.int (0 : Int32))])) t → Steps p.tables e below (s₁.setTop (entryFrame m #[(.int p1)] maxLocals)) t := fun t k => k497 t (st498.trans k)
    have k500 : ∀ t, Steps p.tables e below (T498.setTop (mkF m 180 #[.val (.int p1), .val (.ref b2), .val (.int (1 : Int32)), .val (.ref s1), .val (.int (1 : Int32)), .val (.int (0 : Int32)), .val (.int (0 : Int32))] [(.ref s1)])) t → Steps p.tables e below (s₁.setTop (entryFrame m #[(.int p1)] maxLocals)) t := by
      intro t k
      refine k499 t ?_
      show Steps p.tables e below (T498.setTop (mkF m 168 #[.val (.int p1), .val (.ref b2), .val (.int (1 : Int32)), .val (.ref s1), .val (.int (1 : Int32)), .val (.int (0 : Int32)), .unset] [(.int (0 : Int32))])) _
      refine XS.istore X498.here hx rfl (hb hby at_168) rfl (l' := #[.val (.int p1), .val (.ref b2), .val (.int (1 : Int32)), .val (.ref s1), .val (.int (1 : Int32)), .val (.int (0 : Int32)), .val (.int (0 : Int32))]) rfl ?_
      show Steps p.tables e below (T498.setTop (mkF m 170 #[.val (.int p1), .val (.ref b2), .val (.int (1 : Int32)), .val (.ref s1), .val (.int (1 : Int32)), .val (.int (0 : Int32)), .val (.int (0 : Int32))] [])) _
      refine XS.iload X498.here hx rfl (hb hby at_170) rfl ?_
      show Steps p.tables e below (T498.setTop (mkF m 172 #[.val (.int p1), .val (.ref b2), .val (.int (1 : Int32)), .val (.ref s1), .val (.int (1 : Int32)), .val (.int (0 : Int32)), .val (.int (0 : Int32))] [(.int (0 : Int32))])) _
      refine XS.iload X498.here hx rfl (hb hby at_172) rfl ?_
      show Steps p.tables e below (T498.setTop (mkF m 174 #[.val (.int p1), .val (.ref b2), .val (.int (1 : Int32)), .val (.ref s1), .val (.int (1 : Int32)), .val (.int (0 : Int32)), .val (.int (0 : Int32))] [(.int (0 : Int32)), (.int (0 : Int32))])) _
      refine XS.icmpYes X498.here hx rfl (pc0 := 174) (pc' := 179) rfl (hb hby at_174) rfl (teq (rfl : (0 : Int32) = (0 : Int32))).1 (by decide) (by decide) ?_
      show Steps p.tables e below (T498.setTop (mkF m 179 #[.val (.int p1), .val (.ref b2), .val (.int (1 : Int32)), .val (.ref s1), .val (.int (1 : Int32)), .val (.int (0 : Int32)), .val (.int (0 : Int32))] [])) _
      refine XS.aloadN X498.here hx rfl (hb hby at_179) rfl rfl ?_
      exact k
    obtain ⟨cq501, kq501, q501a, q501b, q501c⟩ := isOf hZ e498 f448
    obtain ⟨_, _, ⟨T501, L501, k501c, n501⟩, -, X501, ⟨Lc501, hQ501, l501, y501, z501⟩, st501⟩ := X498.virtualBack hx (y := (⟨"com/example/eager_path/eagerpath/LocationPath$Axis", "reverse", "()Z"⟩ : MethodName)) (z := (⟨"com/example/eager_path/eagerpath/LocationPath$Axis", "reverse", "()Z"⟩ : MethodName)) hown (mvT hZ (hw _ (List.mem_of_getElem? (i := 43) rfl))) (mvT hZ (hw _ (List.mem_of_getElem? (i := 44) rfl))) (notFace_of_selects (args := #[]) (mvT hZ (hw _ (List.mem_of_getElem? (i := 46) rfl)))) (mvT hZ (hw _ (List.mem_of_getElem? (i := 46) rfl))) (mvT hZ (hw _ (List.mem_of_getElem? (i := 45) rfl))) (by decide) (backOf (W := 0) (own_rmrv l Z a0 hw [] s1 s4 s5 s10 s11 h444 n0 Z444 f453 f455 f465 f467) hZ (hw _ (List.mem_of_getElem? (i := 47) rfl)) (hw _ (List.mem_of_getElem? (i := 3) rfl)) (by decide) (by decide)) q501a q501c (g := (mkF m 180 #[.val (.int p1), .val (.ref b2), .val (.int (1 : Int32)), .val (.ref s1), .val (.int (1 : Int32)), .val (.int (0 : Int32)), .val (.int (0 : Int32))] [(.ref s1)])) rfl (by rw [hml]; rfl) (Steps.refl _) (argsL := []) (rest := []) (lenOf own_pd0 rfl) rfl (by show 2 * 0 + _ ≤ _; exact Nat.le_of_eq rfl) (hb hby at_180) (fun _ _ => ⟨rfl, e498, (by decide : 1 + 0 ≤ _), (by decide : 13 + 0 ≤ _)⟩)
    dsimp only [Pt.U, Pt.locs, Pt.cells, Pt.slots] at X501 l501 y501 z501 st501 hQ501
    subst l501 y501 z501
    have hv501 : (own_vrv s1 s4 s5 s10 s11) = (0 : Int32) := ((if_neg (own_ne oO1 oO4 (by decide))).trans ((if_neg (own_ne oO1 oO5 (by decide))).trans ((if_neg (own_ne oO1 oO10 (by decide))).trans (if_neg (own_ne oO1 oO11 (by decide))))))
    obtain ⟨hr501, N501q, e501⟩ := hQ501
    rw [hv501] at hr501
    subst hr501
    have N501 := Fr.app N498 N501q
    have k502 : ∀ t, Steps p.tables e below (T501.setTop (mkF m 183 #[.val (.int p1), .val (.ref b2), .val (.int (1 : Int32)), .val (.ref s1), .val (.int (1 : Int32)), .val (.int (0 : Int32)), .val (.int (0 : Int32))] [(.int (0 : Int32))])) t → Steps p.tables e below (s₁.setTop (entryFrame m #[(.int p1)] maxLocals)) t := fun t k => k500 t (st501.trans k)
    have k503 : ∀ t, Steps p.tables e below (T501.setTop (mkF m 194 #[.val (.int p1), .val (.ref b2), .val (.int (1 : Int32)), .val (.ref s1), .val (.int (1 : Int32)), .val (.int (0 : Int32)), .val (.int (0 : Int32))] [(.int (1 : Int32))])) t → Steps p.tables e below (s₁.setTop (entryFrame m #[(.int p1)] maxLocals)) t := by
      intro t k
      refine k502 t ?_
      show Steps p.tables e below (T501.setTop (mkF m 183 #[.val (.int p1), .val (.ref b2), .val (.int (1 : Int32)), .val (.ref s1), .val (.int (1 : Int32)), .val (.int (0 : Int32)), .val (.int (0 : Int32))] [(.int (0 : Int32))])) _
      refine XS.ifYes X501.here hx rfl (pc0 := 183) (pc' := 193) rfl (hb hby at_183) rfl ((if0 _ _).trans (teq (rfl : (0 : Int32) = (0 : Int32))).1) (by decide) (by decide) ?_
      show Steps p.tables e below (T501.setTop (mkF m 193 #[.val (.int p1), .val (.ref b2), .val (.int (1 : Int32)), .val (.ref s1), .val (.int (1 : Int32)), .val (.int (0 : Int32)), .val (.int (0 : Int32))] [])) _
      refine XS.iconst X501.here hx rfl (hb hby at_193) ?_
      exact k
    obtain ⟨fs, hr, hrun, hended, hW, hsame⟩ := X501.leave (v := (some (.int (1 : Int32)))) (fun h => by rw [Bd.returns] at h; cases h)
    refine ⟨_, _, k503 _ ?_, hrun, hended, _, _, rfl, ?_, ⟨_, rfl⟩, hW, hsame.mono (by decide) (by decide)⟩
    · exact retN X501 hx (t := .boolean) Bd.returns (by simp) (hb hby at_194) hr
    · exact ⟨rfl, N501⟩
  · have k504 : ∀ t, Steps p.tables e below (T444.setTop (mkF m 99 #[.val (.int p1), .val (.ref b2), .val (.int (2 : Int32)), .unset, .unset, .unset, .unset] [])) t → Steps p.tables e below (s₁.setTop (entryFrame m #[(.int p1)] maxLocals)) t := by have z := k472; rw [he] at z; exact z
    obtain ⟨cl505, Ar505, qa505, Sa505, Na505, Ha505, Ga505⟩ := id V444
    have hin506 : ¬ ((2 : Int32) < 0 ∨ cl505.slots.size ≤ ((2 : Int32)).toNatClampNeg) := inb_of Sa505 ⟨by decide, by decide⟩
    have hat507 : cl505.slots[((2 : Int32)).toNatClampNeg]? = some (.ref s2) := Ha505 2 (Nat.lt_of_not_le fun q => hin506 (Or.inr q))
    have k508 : ∀ t, Steps p.tables e below (T444.setTop (mkF m 104 #[.val (.int p1), .val (.ref b2), .val (.int (2 : Int32)), .val (.ref s2), .unset, .unset, .unset] [(.ref s2)])) t → Steps p.tables e below (s₁.setTop (entryFrame m #[(.int p1)] maxLocals)) t := by
      intro t k
      refine k504 t ?_
      show Steps p.tables e below (T444.setTop (mkF m 99 #[.val (.int p1), .val (.ref b2), .val (.int (2 : Int32)), .unset, .unset, .unset, .unset] [])) _
      refine XS.aloadN X444.here hx rfl (hb hby at_99) rfl rfl ?_
      show Steps p.tables e below (T444.setTop (mkF m 100 #[.val (.int p1), .val (.ref b2), .val (.int (2 : Int32)), .unset, .unset, .unset, .unset] [(.ref b2)])) _
      refine XS.iloadN X444.here hx rfl (hb hby at_100) rfl ?_
      show Steps p.tables e below (T444.setTop (mkF m 101 #[.val (.int p1), .val (.ref b2), .val (.int (2 : Int32)), .unset, .unset, .unset, .unset] [(.int (2 : Int32)), (.ref b2)])) _
      refine X444.aaload hx (j := (2 : Int32)) (v := (.ref s2)) (by rw [e444]; exact Ar505.1) (State.isArrayOf_alike hZ.alike Ar505.2.1) rfl Ar505.2.2 hin506 hat507 (g := (mkF m 101 #[.val (.int p1), .val (.ref b2), .val (.int (2 : Int32)), .unset, .unset, .unset, .unset] [(.int (2 : Int32)), (.ref b2)])) rfl rfl (hb hby at_101) _ ?_
      show Steps p.tables e below (T444.setTop (mkF m 102 #[.val (.int p1), .val (.ref b2), .val (.int (2 : Int32)), .unset, .unset, .unset, .unset] [(.ref s2)])) _
      refine XS.astoreN X444.here hx rfl (hb hby at_102) rfl rfl (l' := #[.val (.int p1), .val (.ref b2), .val (.int (2 : Int32)), .val (.ref s2), .unset, .unset, .unset]) rfl ?_
      show Steps p.tables e below (T444.setTop (mkF m 103 #[.val (.int p1), .val (.ref b2), .val (.int (2 : Int32)), .val (.ref s2), .unset, .unset, .unset] [])) _
      refine XS.aloadN X444.here hx rfl (hb hby at_103) rfl rfl ?_
      exact k
    obtain ⟨T509, X509, e509, st509⟩ := getS2 X444 hx hZ hown (host := "") (Or.inl (hw _ (List.mem_of_getElem? (i := 2) rfl))) Via.refl e444 f445 (g := (mkF m 104 #[.val (.int p1), .val (.ref b2), .val (.int (2 : Int32)), .val (.ref s2), .unset, .unset, .unset] [(.ref s2)])) rfl (hb hby at_104)
    have k510 : ∀ t, Steps p.tables e below (T509.setTop (mkF m 107 #[.val (.int p1), .val (.ref b2), .val (.int (2 : Int32)), .val (.ref s2), .unset, .unset, .unset] [(.ref s0), (.ref s2)])) t → Steps p.tables e below (s₁.setTop (entryFrame m #[(.int p1)] maxLocals)) t := fun t k => k508 t (st509 t k)
    have k511 : ∀ t, Steps p.tables e below (T509.setTop (mkF m 111 #[.val (.int p1), .val (.ref b2), .val (.int (2 : Int32)), .val (.ref s2), .unset, .unset, .unset] [(.ref s2)])) t → Steps p.tables e below (s₁.setTop (entryFrame m #[(.int p1)] maxLocals)) t := by
      intro t k
      refine k510 t ?_
      show Steps p.tables e below (T509.setTop (mkF m 107 #[.val (.int p1), .val (.ref b2), .val (.int (2 : Int32)), .val (.ref s2), .unset, .unset, .unset] [(.ref s0), (.ref s2)])) _
      refine Jvm.RoadKit.acmp (g := (mkF m 107 #[.val (.int p1), .val (.ref b2), .val (.int (2 : Int32)), .val (.ref s2), .unset, .unset, .unset] [(.ref s0), (.ref s2)])) X509 hx rfl rfl rfl (pc0 := 107) (pc' := 110) (same := false) rfl (hb hby at_107) rfl (decide_eq_false fun q => (own_ne oO2 oO0 (by decide)) (Value.ref.inj q)) (by decide) (by decide) ?_
      show Steps p.tables e below (T509.setTop (mkF m 110 #[.val (.int p1), .val (.ref b2), .val (.int (2 : Int32)), .val (.ref s2), .unset, .unset, .unset] [])) _
      refine XS.aloadN X509.here hx rfl (hb hby at_110) rfl rfl ?_
      exact k
    obtain ⟨T512, X512, e512, st512⟩ := getS2 X509 hx hZ hown (host := "") (Or.inl (hw _ (List.mem_of_getElem? (i := 6) rfl))) Via.refl e509 f447 (g := (mkF m 111 #[.val (.int p1), .val (.ref b2), .val (.int (2 : Int32)), .val (.ref s2), .unset, .unset, .unset] [(.ref s2)])) rfl (hb hby at_111)
    have k513 : ∀ t, Steps p.tables e below (T512.setTop (mkF m 114 #[.val (.int p1), .val (.ref b2), .val (.int (2 : Int32)), .val (.ref s2), .unset, .unset, .unset] [(.ref s1), (.ref s2)])) t → Steps p.tables e below (s₁.setTop (entryFrame m #[(.int p1)] maxLocals)) t := fun t k => k511 t (st512 t k)
    have k514 : ∀ t, Steps p.tables e below (T512.setTop (mkF m 118 #[.val (.int p1), .val (.ref b2), .val (.int (2 : Int32)), .val (.ref s2), .unset, .unset, .unset] [(.ref s2)])) t → Steps p.tables e below (s₁.setTop (entryFrame m #[(.int p1)] maxLocals)) t := by
      intro t k
      refine k513 t ?_
      show Steps p.tables e below (T512.setTop (mkF m 114 #[.val (.int p1), .val (.ref b2), .val (.int (2 : Int32)), .val (.ref s2), .unset, .unset, .unset] [(.ref s1), (.ref s2)])) _
      refine Jvm.RoadKit.acmp (g := (mkF m 114 #[.val (.int p1), .val (.ref b2), .val (.int (2 : Int32)), .val (.ref s2), .unset, .unset, .unset] [(.ref s1), (.ref s2)])) X512 hx rfl rfl rfl (pc0 := 114) (pc' := 117) (same := false) rfl (hb hby at_114) rfl (decide_eq_false fun q => (own_ne oO2 oO1 (by decide)) (Value.ref.inj q)) (by decide) (by decide) ?_
      show Steps p.tables e below (T512.setTop (mkF m 117 #[.val (.int p1), .val (.ref b2), .val (.int (2 : Int32)), .val (.ref s2), .unset, .unset, .unset] [])) _
      refine XS.aloadN X512.here hx rfl (hb hby at_117) rfl rfl ?_
      exact k
    obtain ⟨T515, X515, e515, st515⟩ := getS2 X512 hx hZ hown (host := "") (Or.inl (hw _ (List.mem_of_getElem? (i := 10) rfl))) Via.refl e512 f451 (g := (mkF m 118 #[.val (.int p1), .val (.ref b2), .val (.int (2 : Int32)), .val (.ref s2), .unset, .unset, .unset] [(.ref s2)])) rfl (hb hby at_118)
    have k516 : ∀ t, Steps p.tables e below (T515.setTop (mkF m 121 #[.val (.int p1), .val (.ref b2), .val (.int (2 : Int32)), .val (.ref s2), .unset, .unset, .unset] [(.ref s3), (.ref s2)])) t → Steps p.tables e below (s₁.setTop (entryFrame m #[(.int p1)] maxLocals)) t := fun t k => k514 t (st515 t k)
    have k517 : ∀ t, Steps p.tables e below (T515.setTop (mkF m 125 #[.val (.int p1), .val (.ref b2), .val (.int (2 : Int32)), .val (.ref s2), .unset, .unset, .unset] [(.ref s2)])) t → Steps p.tables e below (s₁.setTop (entryFrame m #[(.int p1)] maxLocals)) t := by
      intro t k
      refine k516 t ?_
      show Steps p.tables e below (T515.setTop (mkF m 121 #[.val (.int p1), .val (.ref b2), .val (.int (2 : Int32)), .val (.ref s2), .unset, .unset, .unset] [(.ref s3), (.ref s2)])) _
      refine Jvm.RoadKit.acmp (g := (mkF m 121 #[.val (.int p1), .val (.ref b2), .val (.int (2 : Int32)), .val (.ref s2), .unset, .unset, .unset] [(.ref s3), (.ref s2)])) X515 hx rfl rfl rfl (pc0 := 121) (pc' := 124) (same := false) rfl (hb hby at_121) rfl (decide_eq_false fun q => (own_ne oO2 oO3 (by decide)) (Value.ref.inj q)) (by decide) (by decide) ?_
      show Steps p.tables e below (T515.setTop (mkF m 124 #[.val (.int p1), .val (.ref b2), .val (.int (2 : Int32)), .val (.ref s2), .unset, .unset, .unset] [])) _
      refine XS.aloadN X515.here hx rfl (hb hby at_124) rfl rfl ?_
      exact k
    obtain ⟨T518, X518, e518, st518⟩ := getS2 X515 hx hZ hown (host := "") (Or.inl (hw _ (List.mem_of_getElem? (i := 16) rfl))) Via.refl e515 f457 (g := (mkF m 125 #[.val (.int p1), .val (.ref b2), .val (.int (2 : Int32)), .val (.ref s2), .unset, .unset, .unset] [(.ref s2)])) rfl (hb hby at_125)
    have k519 : ∀ t, Steps p.tables e below (T518.setTop (mkF m 128 #[.val (.int p1), .val (.ref b2), .val (.int (2 : Int32)), .val (.ref s2), .unset, .unset, .unset] [(.ref s6), (.ref s2)])) t → Steps p.tables e below (s₁.setTop (entryFrame m #[(.int p1)] maxLocals)) t := fun t k => k517 t (st518 t k)
    have k520 : ∀ t, Steps p.tables e below (T518.setTop (mkF m 132 #[.val (.int p1), .val (.ref b2), .val (.int (2 : Int32)), .val (.ref s2), .unset, .unset, .unset] [(.ref s2)])) t → Steps p.tables e below (s₁.setTop (entryFrame m #[(.int p1)] maxLocals)) t := by
      intro t k
      refine k519 t ?_
      show Steps p.tables e below (T518.setTop (mkF m 128 #[.val (.int p1), .val (.ref b2), .val (.int (2 : Int32)), .val (.ref s2), .unset, .unset, .unset] [(.ref s6), (.ref s2)])) _
      refine Jvm.RoadKit.acmp (g := (mkF m 128 #[.val (.int p1), .val (.ref b2), .val (.int (2 : Int32)), .val (.ref s2), .unset, .unset, .unset] [(.ref s6), (.ref s2)])) X518 hx rfl rfl rfl (pc0 := 128) (pc' := 131) (same := false) rfl (hb hby at_128) rfl (decide_eq_false fun q => (own_ne oO2 oO6 (by decide)) (Value.ref.inj q)) (by decide) (by decide) ?_
      show Steps p.tables e below (T518.setTop (mkF m 131 #[.val (.int p1), .val (.ref b2), .val (.int (2 : Int32)), .val (.ref s2), .unset, .unset, .unset] [])) _
      refine XS.aloadN X518.here hx rfl (hb hby at_131) rfl rfl ?_
      exact k
    obtain ⟨T521, X521, e521, st521⟩ := getS2 X518 hx hZ hown (host := "") (Or.inl (hw _ (List.mem_of_getElem? (i := 18) rfl))) Via.refl e518 f459 (g := (mkF m 132 #[.val (.int p1), .val (.ref b2), .val (.int (2 : Int32)), .val (.ref s2), .unset, .unset, .unset] [(.ref s2)])) rfl (hb hby at_132)
    have k522 : ∀ t, Steps p.tables e below (T521.setTop (mkF m 135 #[.val (.int p1), .val (.ref b2), .val (.int (2 : Int32)), .val (.ref s2), .unset, .unset, .unset] [(.ref s7), (.ref s2)])) t → Steps p.tables e below (s₁.setTop (entryFrame m #[(.int p1)] maxLocals)) t := fun t k => k520 t (st521 t k)
    have k523 : ∀ t, Steps p.tables e below (T521.setTop (mkF m 139 #[.val (.int p1), .val (.ref b2), .val (.int (2 : Int32)), .val (.ref s2), .unset, .unset, .unset] [(.ref s2)])) t → Steps p.tables e below (s₁.setTop (entryFrame m #[(.int p1)] maxLocals)) t := by
      intro t k
      refine k522 t ?_
      show Steps p.tables e below (T521.setTop (mkF m 135 #[.val (.int p1), .val (.ref b2), .val (.int (2 : Int32)), .val (.ref s2), .unset, .unset, .unset] [(.ref s7), (.ref s2)])) _
      refine Jvm.RoadKit.acmp (g := (mkF m 135 #[.val (.int p1), .val (.ref b2), .val (.int (2 : Int32)), .val (.ref s2), .unset, .unset, .unset] [(.ref s7), (.ref s2)])) X521 hx rfl rfl rfl (pc0 := 135) (pc' := 138) (same := false) rfl (hb hby at_135) rfl (decide_eq_false fun q => (own_ne oO2 oO7 (by decide)) (Value.ref.inj q)) (by decide) (by decide) ?_
      show Steps p.tables e below (T521.setTop (mkF m 138 #[.val (.int p1), .val (.ref b2), .val (.int (2 : Int32)), .val (.ref s2), .unset, .unset, .unset] [])) _
      refine XS.aloadN X521.here hx rfl (hb hby at_138) rfl rfl ?_
      exact k
    obtain ⟨T524, X524, e524, st524⟩ := getS2 X521 hx hZ hown (host := "") (Or.inl (hw _ (List.mem_of_getElem? (i := 28) rfl))) Via.refl e521 f469 (g := (mkF m 139 #[.val (.int p1), .val (.ref b2), .val (.int (2 : Int32)), .val (.ref s2), .unset, .unset, .unset] [(.ref s2)])) rfl (hb hby at_139)
    have k525 : ∀ t, Steps p.tables e below (T524.setTop (mkF m 142 #[.val (.int p1), .val (.ref b2), .val (.int (2 : Int32)), .val (.ref s2), .unset, .unset, .unset] [(.ref s12), (.ref s2)])) t → Steps p.tables e below (s₁.setTop (entryFrame m #[(.int p1)] maxLocals)) t := fun t k => k523 t (st524 t k)
    have k526 : ∀ t, Steps p.tables e below (T524.setTop (mkF m 165 #[.val (.int p1), .val (.ref b2), .val (.int (2 : Int32)), .val (.ref s2), .val (.int (0 : Int32)), .val (.int (1 : Int32)), .unset] [(.ref s2)])) t → Steps p.tables e below (s₁.setTop (entryFrame m #[(.int p1)] maxLocals)) t := by
      intro t k
      refine k525 t ?_
      show Steps p.tables e below (T524.setTop (mkF m 142 #[.val (.int p1), .val (.ref b2), .val (.int (2 : Int32)), .val (.ref s2), .unset, .unset, .unset] [(.ref s12), (.ref s2)])) _
      refine Jvm.RoadKit.acmp (g := (mkF m 142 #[.val (.int p1), .val (.ref b2), .val (.int (2 : Int32)), .val (.ref s2), .unset, .unset, .unset] [(.ref s12), (.ref s2)])) X524 hx rfl rfl rfl (pc0 := 142) (pc' := 149) (same := false) rfl (hb hby at_142) rfl (decide_eq_false fun q => (own_ne oO2 oO12 (by decide)) (Value.ref.inj q)) (by decide) (by decide) ?_
      show Steps p.tables e below (T524.setTop (mkF m 149 #[.val (.int p1), .val (.ref b2), .val (.int (2 : Int32)), .val (.ref s2), .unset, .unset, .unset] [])) _
      refine XS.iconst X524.here hx rfl (hb hby at_149) ?_
      show Steps p.tables e below (T524.setTop (mkF m 150 #[.val (.int p1), .val (.ref b2), .val (.int (2 : Int32)), .val (.ref s2), .unset, .unset, .unset] [(.int (0 : Int32))])) _
      refine XS.istore X524.here hx rfl (hb hby at_150) rfl (l' := #[.val (.int p1), .val (.ref b2), .val (.int (2 : Int32)), .val (.ref s2), .val (.int (0 : Int32)), .unset, .unset]) rfl ?_
      show Steps p.tables e below (T524.setTop (mkF m 152 #[.val (.int p1), .val (.ref b2), .val (.int (2 : Int32)), .val (.ref s2), .val (.int (0 : Int32)), .unset, .unset] [])) _
      refine XS.iload X524.here hx rfl (hb hby at_152) rfl ?_
      show Steps p.tables e below (T524.setTop (mkF m 154 #[.val (.int p1), .val (.ref b2), .val (.int (2 : Int32)), .val (.ref s2), .val (.int (0 : Int32)), .unset, .unset] [(.int (0 : Int32))])) _
      refine XS.ifNo X524.here hx rfl (hb hby at_154) rfl ((if0 _ _).trans (teq (rfl : (0 : Int32) = (0 : Int32))).2) ?_
      show Steps p.tables e below (T524.setTop (mkF m 157 #[.val (.int p1), .val (.ref b2), .val (.int (2 : Int32)), .val (.ref s2), .val (.int (0 : Int32)), .unset, .unset] [])) _
      refine XS.iconst X524.here hx rfl (hb hby at_157) ?_
      show Steps p.tables e below (T524.setTop (mkF m 158 #[.val (.int p1), .val (.ref b2), .val (.int (2 : Int32)), .val (.ref s2), .val (.int (0 : Int32)), .unset, .unset] [(.int (1 : Int32))])) _
      refine XS.goto X524.here hx rfl (pc0 := 158) (pc' := 162) rfl (hb hby at_158) (by decide) (by decide) ?_
      show Steps p.tables e below (T524.setTop (mkF m 162 #[.val (.int p1), .val (.ref b2), .val (.int (2 : Int32)), .val (.ref s2), .val (.int (0 : Int32)), .unset, .unset] [(.int (1 : Int32))])) _
      refine XS.istore X524.here hx rfl (hb hby at_162) rfl (l' := #[.val (.int p1), .val (.ref b2), .val (.int (2 : Int32)), .val (.ref s2), .val (.int (0 : Int32)), .val (.int (1 : Int32)), .unset]) rfl ?_
      show Steps p.tables e below (T524.setTop (mkF m 164 #[.val (.int p1), .val (.ref b2), .val (.int (2 : Int32)), .val (.ref s2), .val (.int (0 : Int32)), .val (.int (1 : Int32)), .unset] [])) _
      refine XS.aloadN X524.here hx rfl (hb hby at_164) rfl rfl ?_
      exact k
    obtain ⟨cq527, kq527, q527a, q527b, q527c⟩ := isOf hZ e524 f450
    obtain ⟨_, _, ⟨T527, L527, k527c, n527⟩, -, X527, ⟨Lc527, hQ527, l527, y527, z527⟩, st527⟩ := X524.virtualBack hx (y := (⟨"com/example/eager_path/eagerpath/LocationPath$Axis", "leavesSubtree", "()Z"⟩ : MethodName)) (z := (⟨"com/example/eager_path/eagerpath/LocationPath$Axis", "leavesSubtree", "()Z"⟩ : MethodName)) hown (mvT hZ (hw _ (List.mem_of_getElem? (i := 31) rfl))) (mvT hZ (hw _ (List.mem_of_getElem? (i := 32) rfl))) (notFace_of_selects (args := #[]) (mvT hZ (hw _ (List.mem_of_getElem? (i := 34) rfl)))) (mvT hZ (hw _ (List.mem_of_getElem? (i := 34) rfl))) (mvT hZ (hw _ (List.mem_of_getElem? (i := 33) rfl))) (by decide) (backOf (W := 0) (own_rmls l Z a0 hw [] s2 s2 s4 s5 s8 s9 s10 s11 h444 n0 Z444 f449 f453 f455 f461 f463 f465 f467) hZ (hw _ (List.mem_of_getElem? (i := 35) rfl)) (hw _ (List.mem_of_getElem? (i := 3) rfl)) (by decide) (by decide)) q527a q527c (g := (mkF m 165 #[.val (.int p1), .val (.ref b2), .val (.int (2 : Int32)), .val (.ref s2), .val (.int (0 : Int32)), .val (.int (1 : Int32)), .unset] [(.ref s2)])) rfl (by rw [hml]; rfl) (Steps.refl _) (argsL := []) (rest := []) (lenOf own_pd0 rfl) rfl (by show 2 * 0 + _ ≤ _; exact Nat.le_of_eq rfl) (hb hby at_165) (fun _ _ => ⟨rfl, e524, (by decide : 1 + 0 ≤ _), (by decide : 13 + 0 ≤ _)⟩)
    dsimp only [Pt.U, Pt.locs, Pt.cells, Pt.slots] at X527 l527 y527 z527 st527 hQ527
    subst l527 y527 z527
    have hv527 : (own_vls s2 s2 s4 s5 s8 s9 s10 s11) = (1 : Int32) := (if_pos rfl)
    obtain ⟨hr527, N527q, e527⟩ := hQ527
    rw [hv527] at hr527
    subst hr527
    have N527 := Fr.app N444 N527q
    have k528 : ∀ t, Steps p.tables e below (T527.setTop (mkF m 168 #[.val (.int p1), .val (.ref b2), .val (.int (2 : Int32)), .val (.ref s2), .val (.int (0 : Int32)), .val (.int (1 : Int32)), .unset] [(.int (1 : Int32))])) t → Steps p.tables e below (s₁.setTop (entryFrame m #[(.int p1)] maxLocals)) t := fun t k => k526 t (st527.trans k)
    have k529 : ∀ t, Steps p.tables e below (T527.setTop (mkF m 180 #[.val (.int p1), .val (.ref b2), .val (.int (2 : Int32)), .val (.ref s2), .val (.int (0 : Int32)), .val (.int (1 : Int32)), .val (.int (1 : Int32))] [(.ref s2)])) t → Steps p.tables e below (s₁.setTop (entryFrame m #[(.int p1)] maxLocals)) t := by
      intro t k
      refine k528 t ?_
      show Steps p.tables e below (T527.setTop (mkF m 168 #[.val (.int p1), .val (.ref b2), .val (.int (2 : Int32)), .val (.ref s2), .val (.int (0 : Int32)), .val (.int (1 : Int32)), .unset] [(.int (1 : Int32))])) _
      refine XS.istore X527.here hx rfl (hb hby at_168) rfl (l' := #[.val (.int p1), .val (.ref b2), .val (.int (2 : Int32)), .val (.ref s2), .val (.int (0 : Int32)), .val (.int (1 : Int32)), .val (.int (1 : Int32))]) rfl ?_
      show Steps p.tables e below (T527.setTop (mkF m 170 #[.val (.int p1), .val (.ref b2), .val (.int (2 : Int32)), .val (.ref s2), .val (.int (0 : Int32)), .val (.int (1 : Int32)), .val (.int (1 : Int32))] [])) _
      refine XS.iload X527.here hx rfl (hb hby at_170) rfl ?_
      show Steps p.tables e below (T527.setTop (mkF m 172 #[.val (.int p1), .val (.ref b2), .val (.int (2 : Int32)), .val (.ref s2), .val (.int (0 : Int32)), .val (.int (1 : Int32)), .val (.int (1 : Int32))] [(.int (1 : Int32))])) _
      refine XS.iload X527.here hx rfl (hb hby at_172) rfl ?_
      show Steps p.tables e below (T527.setTop (mkF m 174 #[.val (.int p1), .val (.ref b2), .val (.int (2 : Int32)), .val (.ref s2), .val (.int (0 : Int32)), .val (.int (1 : Int32)), .val (.int (1 : Int32))] [(.int (1 : Int32)), (.int (1 : Int32))])) _
      refine XS.icmpYes X527.here hx rfl (pc0 := 174) (pc' := 179) rfl (hb hby at_174) rfl (teq (rfl : (1 : Int32) = (1 : Int32))).1 (by decide) (by decide) ?_
      show Steps p.tables e below (T527.setTop (mkF m 179 #[.val (.int p1), .val (.ref b2), .val (.int (2 : Int32)), .val (.ref s2), .val (.int (0 : Int32)), .val (.int (1 : Int32)), .val (.int (1 : Int32))] [])) _
      refine XS.aloadN X527.here hx rfl (hb hby at_179) rfl rfl ?_
      exact k
    obtain ⟨cq530, kq530, q530a, q530b, q530c⟩ := isOf hZ e527 f450
    obtain ⟨_, _, ⟨T530, L530, k530c, n530⟩, -, X530, ⟨Lc530, hQ530, l530, y530, z530⟩, st530⟩ := X527.virtualBack hx (y := (⟨"com/example/eager_path/eagerpath/LocationPath$Axis", "reverse", "()Z"⟩ : MethodName)) (z := (⟨"com/example/eager_path/eagerpath/LocationPath$Axis", "reverse", "()Z"⟩ : MethodName)) hown (mvT hZ (hw _ (List.mem_of_getElem? (i := 43) rfl))) (mvT hZ (hw _ (List.mem_of_getElem? (i := 44) rfl))) (notFace_of_selects (args := #[]) (mvT hZ (hw _ (List.mem_of_getElem? (i := 46) rfl)))) (mvT hZ (hw _ (List.mem_of_getElem? (i := 46) rfl))) (mvT hZ (hw _ (List.mem_of_getElem? (i := 45) rfl))) (by decide) (backOf (W := 0) (own_rmrv l Z a0 hw [] s2 s4 s5 s10 s11 h444 n0 Z444 f453 f455 f465 f467) hZ (hw _ (List.mem_of_getElem? (i := 47) rfl)) (hw _ (List.mem_of_getElem? (i := 3) rfl)) (by decide) (by decide)) q530a q530c (g := (mkF m 180 #[.val (.int p1), .val (.ref b2), .val (.int (2 : Int32)), .val (.ref s2), .val (.int (0 : Int32)), .val (.int (1 : Int32)), .val (.int (1 : Int32))] [(.ref s2)])) rfl (by rw [hml]; rfl) (Steps.refl _) (argsL := []) (rest := []) (lenOf own_pd0 rfl) rfl (by show 2 * 0 + _ ≤ _; exact Nat.le_of_eq rfl) (hb hby at_180) (fun _ _ => ⟨rfl, e527, (by decide : 1 + 0 ≤ _), (by decide : 13 + 0 ≤ _)⟩)
    dsimp only [Pt.U, Pt.locs, Pt.cells, Pt.slots] at X530 l530 y530 z530 st530 hQ530
    subst l530 y530 z530
    have hv530 : (own_vrv s2 s4 s5 s10 s11) = (0 : Int32) := ((if_neg (own_ne oO2 oO4 (by decide))).trans ((if_neg (own_ne oO2 oO5 (by decide))).trans ((if_neg (own_ne oO2 oO10 (by decide))).trans (if_neg (own_ne oO2 oO11 (by decide))))))
    obtain ⟨hr530, N530q, e530⟩ := hQ530
    rw [hv530] at hr530
    subst hr530
    have N530 := Fr.app N527 N530q
    have k531 : ∀ t, Steps p.tables e below (T530.setTop (mkF m 183 #[.val (.int p1), .val (.ref b2), .val (.int (2 : Int32)), .val (.ref s2), .val (.int (0 : Int32)), .val (.int (1 : Int32)), .val (.int (1 : Int32))] [(.int (0 : Int32))])) t → Steps p.tables e below (s₁.setTop (entryFrame m #[(.int p1)] maxLocals)) t := fun t k => k529 t (st530.trans k)
    have k532 : ∀ t, Steps p.tables e below (T530.setTop (mkF m 194 #[.val (.int p1), .val (.ref b2), .val (.int (2 : Int32)), .val (.ref s2), .val (.int (0 : Int32)), .val (.int (1 : Int32)), .val (.int (1 : Int32))] [(.int (1 : Int32))])) t → Steps p.tables e below (s₁.setTop (entryFrame m #[(.int p1)] maxLocals)) t := by
      intro t k
      refine k531 t ?_
      show Steps p.tables e below (T530.setTop (mkF m 183 #[.val (.int p1), .val (.ref b2), .val (.int (2 : Int32)), .val (.ref s2), .val (.int (0 : Int32)), .val (.int (1 : Int32)), .val (.int (1 : Int32))] [(.int (0 : Int32))])) _
      refine XS.ifYes X530.here hx rfl (pc0 := 183) (pc' := 193) rfl (hb hby at_183) rfl ((if0 _ _).trans (teq (rfl : (0 : Int32) = (0 : Int32))).1) (by decide) (by decide) ?_
      show Steps p.tables e below (T530.setTop (mkF m 193 #[.val (.int p1), .val (.ref b2), .val (.int (2 : Int32)), .val (.ref s2), .val (.int (0 : Int32)), .val (.int (1 : Int32)), .val (.int (1 : Int32))] [])) _
      refine XS.iconst X530.here hx rfl (hb hby at_193) ?_
      exact k
    obtain ⟨fs, hr, hrun, hended, hW, hsame⟩ := X530.leave (v := (some (.int (1 : Int32)))) (fun h => by rw [Bd.returns] at h; cases h)
    refine ⟨_, _, k532 _ ?_, hrun, hended, _, _, rfl, ?_, ⟨_, rfl⟩, hW, hsame.mono (by decide) (by decide)⟩
    · exact retN X530 hx (t := .boolean) Bd.returns (by simp) (hb hby at_194) hr
    · exact ⟨rfl, N530⟩
  · have k533 : ∀ t, Steps p.tables e below (T444.setTop (mkF m 99 #[.val (.int p1), .val (.ref b2), .val (.int (3 : Int32)), .unset, .unset, .unset, .unset] [])) t → Steps p.tables e below (s₁.setTop (entryFrame m #[(.int p1)] maxLocals)) t := by have z := k472; rw [he] at z; exact z
    obtain ⟨cl534, Ar534, qa534, Sa534, Na534, Ha534, Ga534⟩ := id V444
    have hin535 : ¬ ((3 : Int32) < 0 ∨ cl534.slots.size ≤ ((3 : Int32)).toNatClampNeg) := inb_of Sa534 ⟨by decide, by decide⟩
    have hat536 : cl534.slots[((3 : Int32)).toNatClampNeg]? = some (.ref s3) := Ha534 3 (Nat.lt_of_not_le fun q => hin535 (Or.inr q))
    have k537 : ∀ t, Steps p.tables e below (T444.setTop (mkF m 104 #[.val (.int p1), .val (.ref b2), .val (.int (3 : Int32)), .val (.ref s3), .unset, .unset, .unset] [(.ref s3)])) t → Steps p.tables e below (s₁.setTop (entryFrame m #[(.int p1)] maxLocals)) t := by
      intro t k
      refine k533 t ?_
      show Steps p.tables e below (T444.setTop (mkF m 99 #[.val (.int p1), .val (.ref b2), .val (.int (3 : Int32)), .unset, .unset, .unset, .unset] [])) _
      refine XS.aloadN X444.here hx rfl (hb hby at_99) rfl rfl ?_
      show Steps p.tables e below (T444.setTop (mkF m 100 #[.val (.int p1), .val (.ref b2), .val (.int (3 : Int32)), .unset, .unset, .unset, .unset] [(.ref b2)])) _
      refine XS.iloadN X444.here hx rfl (hb hby at_100) rfl ?_
      show Steps p.tables e below (T444.setTop (mkF m 101 #[.val (.int p1), .val (.ref b2), .val (.int (3 : Int32)), .unset, .unset, .unset, .unset] [(.int (3 : Int32)), (.ref b2)])) _
      refine X444.aaload hx (j := (3 : Int32)) (v := (.ref s3)) (by rw [e444]; exact Ar534.1) (State.isArrayOf_alike hZ.alike Ar534.2.1) rfl Ar534.2.2 hin535 hat536 (g := (mkF m 101 #[.val (.int p1), .val (.ref b2), .val (.int (3 : Int32)), .unset, .unset, .unset, .unset] [(.int (3 : Int32)), (.ref b2)])) rfl rfl (hb hby at_101) _ ?_
      show Steps p.tables e below (T444.setTop (mkF m 102 #[.val (.int p1), .val (.ref b2), .val (.int (3 : Int32)), .unset, .unset, .unset, .unset] [(.ref s3)])) _
      refine XS.astoreN X444.here hx rfl (hb hby at_102) rfl rfl (l' := #[.val (.int p1), .val (.ref b2), .val (.int (3 : Int32)), .val (.ref s3), .unset, .unset, .unset]) rfl ?_
      show Steps p.tables e below (T444.setTop (mkF m 103 #[.val (.int p1), .val (.ref b2), .val (.int (3 : Int32)), .val (.ref s3), .unset, .unset, .unset] [])) _
      refine XS.aloadN X444.here hx rfl (hb hby at_103) rfl rfl ?_
      exact k
    obtain ⟨T538, X538, e538, st538⟩ := getS2 X444 hx hZ hown (host := "") (Or.inl (hw _ (List.mem_of_getElem? (i := 2) rfl))) Via.refl e444 f445 (g := (mkF m 104 #[.val (.int p1), .val (.ref b2), .val (.int (3 : Int32)), .val (.ref s3), .unset, .unset, .unset] [(.ref s3)])) rfl (hb hby at_104)
    have k539 : ∀ t, Steps p.tables e below (T538.setTop (mkF m 107 #[.val (.int p1), .val (.ref b2), .val (.int (3 : Int32)), .val (.ref s3), .unset, .unset, .unset] [(.ref s0), (.ref s3)])) t → Steps p.tables e below (s₁.setTop (entryFrame m #[(.int p1)] maxLocals)) t := fun t k => k537 t (st538 t k)
    have k540 : ∀ t, Steps p.tables e below (T538.setTop (mkF m 111 #[.val (.int p1), .val (.ref b2), .val (.int (3 : Int32)), .val (.ref s3), .unset, .unset, .unset] [(.ref s3)])) t → Steps p.tables e below (s₁.setTop (entryFrame m #[(.int p1)] maxLocals)) t := by
      intro t k
      refine k539 t ?_
      show Steps p.tables e below (T538.setTop (mkF m 107 #[.val (.int p1), .val (.ref b2), .val (.int (3 : Int32)), .val (.ref s3), .unset, .unset, .unset] [(.ref s0), (.ref s3)])) _
      refine Jvm.RoadKit.acmp (g := (mkF m 107 #[.val (.int p1), .val (.ref b2), .val (.int (3 : Int32)), .val (.ref s3), .unset, .unset, .unset] [(.ref s0), (.ref s3)])) X538 hx rfl rfl rfl (pc0 := 107) (pc' := 110) (same := false) rfl (hb hby at_107) rfl (decide_eq_false fun q => (own_ne oO3 oO0 (by decide)) (Value.ref.inj q)) (by decide) (by decide) ?_
      show Steps p.tables e below (T538.setTop (mkF m 110 #[.val (.int p1), .val (.ref b2), .val (.int (3 : Int32)), .val (.ref s3), .unset, .unset, .unset] [])) _
      refine XS.aloadN X538.here hx rfl (hb hby at_110) rfl rfl ?_
      exact k
    obtain ⟨T541, X541, e541, st541⟩ := getS2 X538 hx hZ hown (host := "") (Or.inl (hw _ (List.mem_of_getElem? (i := 6) rfl))) Via.refl e538 f447 (g := (mkF m 111 #[.val (.int p1), .val (.ref b2), .val (.int (3 : Int32)), .val (.ref s3), .unset, .unset, .unset] [(.ref s3)])) rfl (hb hby at_111)
    have k542 : ∀ t, Steps p.tables e below (T541.setTop (mkF m 114 #[.val (.int p1), .val (.ref b2), .val (.int (3 : Int32)), .val (.ref s3), .unset, .unset, .unset] [(.ref s1), (.ref s3)])) t → Steps p.tables e below (s₁.setTop (entryFrame m #[(.int p1)] maxLocals)) t := fun t k => k540 t (st541 t k)
    have k543 : ∀ t, Steps p.tables e below (T541.setTop (mkF m 118 #[.val (.int p1), .val (.ref b2), .val (.int (3 : Int32)), .val (.ref s3), .unset, .unset, .unset] [(.ref s3)])) t → Steps p.tables e below (s₁.setTop (entryFrame m #[(.int p1)] maxLocals)) t := by
      intro t k
      refine k542 t ?_
      show Steps p.tables e below (T541.setTop (mkF m 114 #[.val (.int p1), .val (.ref b2), .val (.int (3 : Int32)), .val (.ref s3), .unset, .unset, .unset] [(.ref s1), (.ref s3)])) _
      refine Jvm.RoadKit.acmp (g := (mkF m 114 #[.val (.int p1), .val (.ref b2), .val (.int (3 : Int32)), .val (.ref s3), .unset, .unset, .unset] [(.ref s1), (.ref s3)])) X541 hx rfl rfl rfl (pc0 := 114) (pc' := 117) (same := false) rfl (hb hby at_114) rfl (decide_eq_false fun q => (own_ne oO3 oO1 (by decide)) (Value.ref.inj q)) (by decide) (by decide) ?_
      show Steps p.tables e below (T541.setTop (mkF m 117 #[.val (.int p1), .val (.ref b2), .val (.int (3 : Int32)), .val (.ref s3), .unset, .unset, .unset] [])) _
      refine XS.aloadN X541.here hx rfl (hb hby at_117) rfl rfl ?_
      exact k
    obtain ⟨T544, X544, e544, st544⟩ := getS2 X541 hx hZ hown (host := "") (Or.inl (hw _ (List.mem_of_getElem? (i := 10) rfl))) Via.refl e541 f451 (g := (mkF m 118 #[.val (.int p1), .val (.ref b2), .val (.int (3 : Int32)), .val (.ref s3), .unset, .unset, .unset] [(.ref s3)])) rfl (hb hby at_118)
    have k545 : ∀ t, Steps p.tables e below (T544.setTop (mkF m 121 #[.val (.int p1), .val (.ref b2), .val (.int (3 : Int32)), .val (.ref s3), .unset, .unset, .unset] [(.ref s3), (.ref s3)])) t → Steps p.tables e below (s₁.setTop (entryFrame m #[(.int p1)] maxLocals)) t := fun t k => k543 t (st544 t k)
    have k546 : ∀ t, Steps p.tables e below (T544.setTop (mkF m 165 #[.val (.int p1), .val (.ref b2), .val (.int (3 : Int32)), .val (.ref s3), .val (.int (1 : Int32)), .val (.int (0 : Int32)), .unset] [(.ref s3)])) t → Steps p.tables e below (s₁.setTop (entryFrame m #[(.int p1)] maxLocals)) t := by
      intro t k
      refine k545 t ?_
      show Steps p.tables e below (T544.setTop (mkF m 121 #[.val (.int p1), .val (.ref b2), .val (.int (3 : Int32)), .val (.ref s3), .unset, .unset, .unset] [(.ref s3), (.ref s3)])) _
      refine Jvm.RoadKit.acmp (g := (mkF m 121 #[.val (.int p1), .val (.ref b2), .val (.int (3 : Int32)), .val (.ref s3), .unset, .unset, .unset] [(.ref s3), (.ref s3)])) X544 hx rfl rfl rfl (pc0 := 121) (pc' := 145) (same := true) rfl (hb hby at_121) rfl (decide_eq_true rfl) (by decide) (by decide) ?_
      show Steps p.tables e below (T544.setTop (mkF m 145 #[.val (.int p1), .val (.ref b2), .val (.int (3 : Int32)), .val (.ref s3), .unset, .unset, .unset] [])) _
      refine XS.iconst X544.here hx rfl (hb hby at_145) ?_
      show Steps p.tables e below (T544.setTop (mkF m 146 #[.val (.int p1), .val (.ref b2), .val (.int (3 : Int32)), .val (.ref s3), .unset, .unset, .unset] [(.int (1 : Int32))])) _
      refine XS.goto X544.here hx rfl (pc0 := 146) (pc' := 150) rfl (hb hby at_146) (by decide) (by decide) ?_
      show Steps p.tables e below (T544.setTop (mkF m 150 #[.val (.int p1), .val (.ref b2), .val (.int (3 : Int32)), .val (.ref s3), .unset, .unset, .unset] [(.int (1 : Int32))])) _
      refine XS.istore X544.here hx rfl (hb hby at_150) rfl (l' := #[.val (.int p1), .val (.ref b2), .val (.int (3 : Int32)), .val (.ref s3), .val (.int (1 : Int32)), .unset, .unset]) rfl ?_
      show Steps p.tables e below (T544.setTop (mkF m 152 #[.val (.int p1), .val (.ref b2), .val (.int (3 : Int32)), .val (.ref s3), .val (.int (1 : Int32)), .unset, .unset] [])) _
      refine XS.iload X544.here hx rfl (hb hby at_152) rfl ?_
      show Steps p.tables e below (T544.setTop (mkF m 154 #[.val (.int p1), .val (.ref b2), .val (.int (3 : Int32)), .val (.ref s3), .val (.int (1 : Int32)), .unset, .unset] [(.int (1 : Int32))])) _
      refine XS.ifYes X544.here hx rfl (pc0 := 154) (pc' := 161) rfl (hb hby at_154) rfl ((if0 _ _).trans (feq (by decide : ¬ ((1 : Int32) = (0 : Int32)))).2) (by decide) (by decide) ?_
      show Steps p.tables e below (T544.setTop (mkF m 161 #[.val (.int p1), .val (.ref b2), .val (.int (3 : Int32)), .val (.ref s3), .val (.int (1 : Int32)), .unset, .unset] [])) _
      refine XS.iconst X544.here hx rfl (hb hby at_161) ?_
      show Steps p.tables e below (T544.setTop (mkF m 162 #[.val (.int p1), .val (.ref b2), .val (.int (3 : Int32)), .val (.ref s3), .val (.int (1 : Int32)), .unset, .unset] [(.int (0 : Int32))])) _
      refine XS.istore X544.here hx rfl (hb hby at_162) rfl (l' := #[.val (.int p1), .val (.ref b2), .val (.int (3 : Int32)), .val (.ref s3), .val (.int (1 : Int32)), .val (.int (0 : Int32)), .unset]) rfl ?_
      show Steps p.tables e below (T544.setTop (mkF m 164 #[.val (.int p1), .val (.ref b2), .val (.int (3 : Int32)), .val (.ref s3), .val (.int (1 : Int32)), .val (.int (0 : Int32)), .unset] [])) _
      refine XS.aloadN X544.here hx rfl (hb hby at_164) rfl rfl ?_
      exact k
    obtain ⟨cq547, kq547, q547a, q547b, q547c⟩ := isOf hZ e544 f452
    obtain ⟨_, _, ⟨T547, L547, k547c, n547⟩, -, X547, ⟨Lc547, hQ547, l547, y547, z547⟩, st547⟩ := X544.virtualBack hx (y := (⟨"com/example/eager_path/eagerpath/LocationPath$Axis", "leavesSubtree", "()Z"⟩ : MethodName)) (z := (⟨"com/example/eager_path/eagerpath/LocationPath$Axis", "leavesSubtree", "()Z"⟩ : MethodName)) hown (mvT hZ (hw _ (List.mem_of_getElem? (i := 31) rfl))) (mvT hZ (hw _ (List.mem_of_getElem? (i := 32) rfl))) (notFace_of_selects (args := #[]) (mvT hZ (hw _ (List.mem_of_getElem? (i := 34) rfl)))) (mvT hZ (hw _ (List.mem_of_getElem? (i := 34) rfl))) (mvT hZ (hw _ (List.mem_of_getElem? (i := 33) rfl))) (by decide) (backOf (W := 0) (own_rmls l Z a0 hw [] s3 s2 s4 s5 s8 s9 s10 s11 h444 n0 Z444 f449 f453 f455 f461 f463 f465 f467) hZ (hw _ (List.mem_of_getElem? (i := 35) rfl)) (hw _ (List.mem_of_getElem? (i := 3) rfl)) (by decide) (by decide)) q547a q547c (g := (mkF m 165 #[.val (.int p1), .val (.ref b2), .val (.int (3 : Int32)), .val (.ref s3), .val (.int (1 : Int32)), .val (.int (0 : Int32)), .unset] [(.ref s3)])) rfl (by rw [hml]; rfl) (Steps.refl _) (argsL := []) (rest := []) (lenOf own_pd0 rfl) rfl (by show 2 * 0 + _ ≤ _; exact Nat.le_of_eq rfl) (hb hby at_165) (fun _ _ => ⟨rfl, e544, (by decide : 1 + 0 ≤ _), (by decide : 13 + 0 ≤ _)⟩)
    dsimp only [Pt.U, Pt.locs, Pt.cells, Pt.slots] at X547 l547 y547 z547 st547 hQ547
    subst l547 y547 z547
    have hv547 : (own_vls s3 s2 s4 s5 s8 s9 s10 s11) = (0 : Int32) := ((if_neg (own_ne oO3 oO2 (by decide))).trans ((if_neg (own_ne oO3 oO4 (by decide))).trans ((if_neg (own_ne oO3 oO5 (by decide))).trans ((if_neg (own_ne oO3 oO8 (by decide))).trans ((if_neg (own_ne oO3 oO9 (by decide))).trans ((if_neg (own_ne oO3 oO10 (by decide))).trans (if_neg (own_ne oO3 oO11 (by decide)))))))))
    obtain ⟨hr547, N547q, e547⟩ := hQ547
    rw [hv547] at hr547
    subst hr547
    have N547 := Fr.app N444 N547q
    have k548 : ∀ t, Steps p.tables e below (T547.setTop (mkF m 168 #[.val (.int p1), .val (.ref b2), .val (.int (3 : Int32)), .val (.ref s3), .val (.int (1 : Int32)), .val (.int (0 : Int32)), .unset] [(.int (0 : Int32))])) t → Steps p.tables e below (s₁.setTop (entryFrame m #[(.int p1)] maxLocals)) t := fun t k => k546 t (st547.trans k)
    have k549 : ∀ t, Steps p.tables e below (T547.setTop (mkF m 180 #[.val (.int p1), .val (.ref b2), .val (.int (3 : Int32)), .val (.ref s3), .val (.int (1 : Int32)), .val (.int (0 : Int32)), .val (.int (0 : Int32))] [(.ref s3)])) t → Steps p.tables e below (s₁.setTop (entryFrame m #[(.int p1)] maxLocals)) t := by
      intro t k
      refine k548 t ?_
      show Steps p.tables e below (T547.setTop (mkF m 168 #[.val (.int p1), .val (.ref b2), .val (.int (3 : Int32)), .val (.ref s3), .val (.int (1 : Int32)), .val (.int (0 : Int32)), .unset] [(.int (0 : Int32))])) _
      refine XS.istore X547.here hx rfl (hb hby at_168) rfl (l' := #[.val (.int p1), .val (.ref b2), .val (.int (3 : Int32)), .val (.ref s3), .val (.int (1 : Int32)), .val (.int (0 : Int32)), .val (.int (0 : Int32))]) rfl ?_
      show Steps p.tables e below (T547.setTop (mkF m 170 #[.val (.int p1), .val (.ref b2), .val (.int (3 : Int32)), .val (.ref s3), .val (.int (1 : Int32)), .val (.int (0 : Int32)), .val (.int (0 : Int32))] [])) _
      refine XS.iload X547.here hx rfl (hb hby at_170) rfl ?_
      show Steps p.tables e below (T547.setTop (mkF m 172 #[.val (.int p1), .val (.ref b2), .val (.int (3 : Int32)), .val (.ref s3), .val (.int (1 : Int32)), .val (.int (0 : Int32)), .val (.int (0 : Int32))] [(.int (0 : Int32))])) _
      refine XS.iload X547.here hx rfl (hb hby at_172) rfl ?_
      show Steps p.tables e below (T547.setTop (mkF m 174 #[.val (.int p1), .val (.ref b2), .val (.int (3 : Int32)), .val (.ref s3), .val (.int (1 : Int32)), .val (.int (0 : Int32)), .val (.int (0 : Int32))] [(.int (0 : Int32)), (.int (0 : Int32))])) _
      refine XS.icmpYes X547.here hx rfl (pc0 := 174) (pc' := 179) rfl (hb hby at_174) rfl (teq (rfl : (0 : Int32) = (0 : Int32))).1 (by decide) (by decide) ?_
      show Steps p.tables e below (T547.setTop (mkF m 179 #[.val (.int p1), .val (.ref b2), .val (.int (3 : Int32)), .val (.ref s3), .val (.int (1 : Int32)), .val (.int (0 : Int32)), .val (.int (0 : Int32))] [])) _
      refine XS.aloadN X547.here hx rfl (hb hby at_179) rfl rfl ?_
      exact k
    obtain ⟨cq550, kq550, q550a, q550b, q550c⟩ := isOf hZ e547 f452
    obtain ⟨_, _, ⟨T550, L550, k550c, n550⟩, -, X550, ⟨Lc550, hQ550, l550, y550, z550⟩, st550⟩ := X547.virtualBack hx (y := (⟨"com/example/eager_path/eagerpath/LocationPath$Axis", "reverse", "()Z"⟩ : MethodName)) (z := (⟨"com/example/eager_path/eagerpath/LocationPath$Axis", "reverse", "()Z"⟩ : MethodName)) hown (mvT hZ (hw _ (List.mem_of_getElem? (i := 43) rfl))) (mvT hZ (hw _ (List.mem_of_getElem? (i := 44) rfl))) (notFace_of_selects (args := #[]) (mvT hZ (hw _ (List.mem_of_getElem? (i := 46) rfl)))) (mvT hZ (hw _ (List.mem_of_getElem? (i := 46) rfl))) (mvT hZ (hw _ (List.mem_of_getElem? (i := 45) rfl))) (by decide) (backOf (W := 0) (own_rmrv l Z a0 hw [] s3 s4 s5 s10 s11 h444 n0 Z444 f453 f455 f465 f467) hZ (hw _ (List.mem_of_getElem? (i := 47) rfl)) (hw _ (List.mem_of_getElem? (i := 3) rfl)) (by decide) (by decide)) q550a q550c (g := (mkF m 180 #[.val (.int p1), .val (.ref b2), .val (.int (3 : Int32)), .val (.ref s3), .val (.int (1 : Int32)), .val (.int (0 : Int32)), .val (.int (0 : Int32))] [(.ref s3)])) rfl (by rw [hml]; rfl) (Steps.refl _) (argsL := []) (rest := []) (lenOf own_pd0 rfl) rfl (by show 2 * 0 + _ ≤ _; exact Nat.le_of_eq rfl) (hb hby at_180) (fun _ _ => ⟨rfl, e547, (by decide : 1 + 0 ≤ _), (by decide : 13 + 0 ≤ _)⟩)
    dsimp only [Pt.U, Pt.locs, Pt.cells, Pt.slots] at X550 l550 y550 z550 st550 hQ550
    subst l550 y550 z550
    have hv550 : (own_vrv s3 s4 s5 s10 s11) = (0 : Int32) := ((if_neg (own_ne oO3 oO4 (by decide))).trans ((if_neg (own_ne oO3 oO5 (by decide))).trans ((if_neg (own_ne oO3 oO10 (by decide))).trans (if_neg (own_ne oO3 oO11 (by decide))))))
    obtain ⟨hr550, N550q, e550⟩ := hQ550
    rw [hv550] at hr550
    subst hr550
    have N550 := Fr.app N547 N550q
    have k551 : ∀ t, Steps p.tables e below (T550.setTop (mkF m 183 #[.val (.int p1), .val (.ref b2), .val (.int (3 : Int32)), .val (.ref s3), .val (.int (1 : Int32)), .val (.int (0 : Int32)), .val (.int (0 : Int32))] [(.int (0 : Int32))])) t → Steps p.tables e below (s₁.setTop (entryFrame m #[(.int p1)] maxLocals)) t := fun t k => k549 t (st550.trans k)
    have k552 : ∀ t, Steps p.tables e below (T550.setTop (mkF m 194 #[.val (.int p1), .val (.ref b2), .val (.int (3 : Int32)), .val (.ref s3), .val (.int (1 : Int32)), .val (.int (0 : Int32)), .val (.int (0 : Int32))] [(.int (1 : Int32))])) t → Steps p.tables e below (s₁.setTop (entryFrame m #[(.int p1)] maxLocals)) t := by
      intro t k
      refine k551 t ?_
      show Steps p.tables e below (T550.setTop (mkF m 183 #[.val (.int p1), .val (.ref b2), .val (.int (3 : Int32)), .val (.ref s3), .val (.int (1 : Int32)), .val (.int (0 : Int32)), .val (.int (0 : Int32))] [(.int (0 : Int32))])) _
      refine XS.ifYes X550.here hx rfl (pc0 := 183) (pc' := 193) rfl (hb hby at_183) rfl ((if0 _ _).trans (teq (rfl : (0 : Int32) = (0 : Int32))).1) (by decide) (by decide) ?_
      show Steps p.tables e below (T550.setTop (mkF m 193 #[.val (.int p1), .val (.ref b2), .val (.int (3 : Int32)), .val (.ref s3), .val (.int (1 : Int32)), .val (.int (0 : Int32)), .val (.int (0 : Int32))] [])) _
      refine XS.iconst X550.here hx rfl (hb hby at_193) ?_
      exact k
    obtain ⟨fs, hr, hrun, hended, hW, hsame⟩ := X550.leave (v := (some (.int (1 : Int32)))) (fun h => by rw [Bd.returns] at h; cases h)
    refine ⟨_, _, k552 _ ?_, hrun, hended, _, _, rfl, ?_, ⟨_, rfl⟩, hW, hsame.mono (by decide) (by decide)⟩
    · exact retN X550 hx (t := .boolean) Bd.returns (by simp) (hb hby at_194) hr
    · exact ⟨rfl, N550⟩
  · have k553 : ∀ t, Steps p.tables e below (T444.setTop (mkF m 99 #[.val (.int p1), .val (.ref b2), .val (.int (4 : Int32)), .unset, .unset, .unset, .unset] [])) t → Steps p.tables e below (s₁.setTop (entryFrame m #[(.int p1)] maxLocals)) t := by have z := k472; rw [he] at z; exact z
    obtain ⟨cl554, Ar554, qa554, Sa554, Na554, Ha554, Ga554⟩ := id V444
    have hin555 : ¬ ((4 : Int32) < 0 ∨ cl554.slots.size ≤ ((4 : Int32)).toNatClampNeg) := inb_of Sa554 ⟨by decide, by decide⟩
    have hat556 : cl554.slots[((4 : Int32)).toNatClampNeg]? = some (.ref s4) := Ha554 4 (Nat.lt_of_not_le fun q => hin555 (Or.inr q))
    have k557 : ∀ t, Steps p.tables e below (T444.setTop (mkF m 104 #[.val (.int p1), .val (.ref b2), .val (.int (4 : Int32)), .val (.ref s4), .unset, .unset, .unset] [(.ref s4)])) t → Steps p.tables e below (s₁.setTop (entryFrame m #[(.int p1)] maxLocals)) t := by
      intro t k
      refine k553 t ?_
      show Steps p.tables e below (T444.setTop (mkF m 99 #[.val (.int p1), .val (.ref b2), .val (.int (4 : Int32)), .unset, .unset, .unset, .unset] [])) _
      refine XS.aloadN X444.here hx rfl (hb hby at_99) rfl rfl ?_
      show Steps p.tables e below (T444.setTop (mkF m 100 #[.val (.int p1), .val (.ref b2), .val (.int (4 : Int32)), .unset, .unset, .unset, .unset] [(.ref b2)])) _
      refine XS.iloadN X444.here hx rfl (hb hby at_100) rfl ?_
      show Steps p.tables e below (T444.setTop (mkF m 101 #[.val (.int p1), .val (.ref b2), .val (.int (4 : Int32)), .unset, .unset, .unset, .unset] [(.int (4 : Int32)), (.ref b2)])) _
      refine X444.aaload hx (j := (4 : Int32)) (v := (.ref s4)) (by rw [e444]; exact Ar554.1) (State.isArrayOf_alike hZ.alike Ar554.2.1) rfl Ar554.2.2 hin555 hat556 (g := (mkF m 101 #[.val (.int p1), .val (.ref b2), .val (.int (4 : Int32)), .unset, .unset, .unset, .unset] [(.int (4 : Int32)), (.ref b2)])) rfl rfl (hb hby at_101) _ ?_
      show Steps p.tables e below (T444.setTop (mkF m 102 #[.val (.int p1), .val (.ref b2), .val (.int (4 : Int32)), .unset, .unset, .unset, .unset] [(.ref s4)])) _
      refine XS.astoreN X444.here hx rfl (hb hby at_102) rfl rfl (l' := #[.val (.int p1), .val (.ref b2), .val (.int (4 : Int32)), .val (.ref s4), .unset, .unset, .unset]) rfl ?_
      show Steps p.tables e below (T444.setTop (mkF m 103 #[.val (.int p1), .val (.ref b2), .val (.int (4 : Int32)), .val (.ref s4), .unset, .unset, .unset] [])) _
      refine XS.aloadN X444.here hx rfl (hb hby at_103) rfl rfl ?_
      exact k
    obtain ⟨T558, X558, e558, st558⟩ := getS2 X444 hx hZ hown (host := "") (Or.inl (hw _ (List.mem_of_getElem? (i := 2) rfl))) Via.refl e444 f445 (g := (mkF m 104 #[.val (.int p1), .val (.ref b2), .val (.int (4 : Int32)), .val (.ref s4), .unset, .unset, .unset] [(.ref s4)])) rfl (hb hby at_104)
    have k559 : ∀ t, Steps p.tables e below (T558.setTop (mkF m 107 #[.val (.int p1), .val (.ref b2), .val (.int (4 : Int32)), .val (.ref s4), .unset, .unset, .unset] [(.ref s0), (.ref s4)])) t → Steps p.tables e below (s₁.setTop (entryFrame m #[(.int p1)] maxLocals)) t := fun t k => k557 t (st558 t k)
    have k560 : ∀ t, Steps p.tables e below (T558.setTop (mkF m 111 #[.val (.int p1), .val (.ref b2), .val (.int (4 : Int32)), .val (.ref s4), .unset, .unset, .unset] [(.ref s4)])) t → Steps p.tables e below (s₁.setTop (entryFrame m #[(.int p1)] maxLocals)) t := by
      intro t k
      refine k559 t ?_
      show Steps p.tables e below (T558.setTop (mkF m 107 #[.val (.int p1), .val (.ref b2), .val (.int (4 : Int32)), .val (.ref s4), .unset, .unset, .unset] [(.ref s0), (.ref s4)])) _
      refine Jvm.RoadKit.acmp (g := (mkF m 107 #[.val (.int p1), .val (.ref b2), .val (.int (4 : Int32)), .val (.ref s4), .unset, .unset, .unset] [(.ref s0), (.ref s4)])) X558 hx rfl rfl rfl (pc0 := 107) (pc' := 110) (same := false) rfl (hb hby at_107) rfl (decide_eq_false fun q => (own_ne oO4 oO0 (by decide)) (Value.ref.inj q)) (by decide) (by decide) ?_
      show Steps p.tables e below (T558.setTop (mkF m 110 #[.val (.int p1), .val (.ref b2), .val (.int (4 : Int32)), .val (.ref s4), .unset, .unset, .unset] [])) _
      refine XS.aloadN X558.here hx rfl (hb hby at_110) rfl rfl ?_
      exact k
    obtain ⟨T561, X561, e561, st561⟩ := getS2 X558 hx hZ hown (host := "") (Or.inl (hw _ (List.mem_of_getElem? (i := 6) rfl))) Via.refl e558 f447 (g := (mkF m 111 #[.val (.int p1), .val (.ref b2), .val (.int (4 : Int32)), .val (.ref s4), .unset, .unset, .unset] [(.ref s4)])) rfl (hb hby at_111)
    have k562 : ∀ t, Steps p.tables e below (T561.setTop (mkF m 114 #[.val (.int p1), .val (.ref b2), .val (.int (4 : Int32)), .val (.ref s4), .unset, .unset, .unset] [(.ref s1), (.ref s4)])) t → Steps p.tables e below (s₁.setTop (entryFrame m #[(.int p1)] maxLocals)) t := fun t k => k560 t (st561 t k)
    have k563 : ∀ t, Steps p.tables e below (T561.setTop (mkF m 118 #[.val (.int p1), .val (.ref b2), .val (.int (4 : Int32)), .val (.ref s4), .unset, .unset, .unset] [(.ref s4)])) t → Steps p.tables e below (s₁.setTop (entryFrame m #[(.int p1)] maxLocals)) t := by
      intro t k
      refine k562 t ?_
      show Steps p.tables e below (T561.setTop (mkF m 114 #[.val (.int p1), .val (.ref b2), .val (.int (4 : Int32)), .val (.ref s4), .unset, .unset, .unset] [(.ref s1), (.ref s4)])) _
      refine Jvm.RoadKit.acmp (g := (mkF m 114 #[.val (.int p1), .val (.ref b2), .val (.int (4 : Int32)), .val (.ref s4), .unset, .unset, .unset] [(.ref s1), (.ref s4)])) X561 hx rfl rfl rfl (pc0 := 114) (pc' := 117) (same := false) rfl (hb hby at_114) rfl (decide_eq_false fun q => (own_ne oO4 oO1 (by decide)) (Value.ref.inj q)) (by decide) (by decide) ?_
      show Steps p.tables e below (T561.setTop (mkF m 117 #[.val (.int p1), .val (.ref b2), .val (.int (4 : Int32)), .val (.ref s4), .unset, .unset, .unset] [])) _
      refine XS.aloadN X561.here hx rfl (hb hby at_117) rfl rfl ?_
      exact k
    obtain ⟨T564, X564, e564, st564⟩ := getS2 X561 hx hZ hown (host := "") (Or.inl (hw _ (List.mem_of_getElem? (i := 10) rfl))) Via.refl e561 f451 (g := (mkF m 118 #[.val (.int p1), .val (.ref b2), .val (.int (4 : Int32)), .val (.ref s4), .unset, .unset, .unset] [(.ref s4)])) rfl (hb hby at_118)
    have k565 : ∀ t, Steps p.tables e below (T564.setTop (mkF m 121 #[.val (.int p1), .val (.ref b2), .val (.int (4 : Int32)), .val (.ref s4), .unset, .unset, .unset] [(.ref s3), (.ref s4)])) t → Steps p.tables e below (s₁.setTop (entryFrame m #[(.int p1)] maxLocals)) t := fun t k => k563 t (st564 t k)
    have k566 : ∀ t, Steps p.tables e below (T564.setTop (mkF m 125 #[.val (.int p1), .val (.ref b2), .val (.int (4 : Int32)), .val (.ref s4), .unset, .unset, .unset] [(.ref s4)])) t → Steps p.tables e below (s₁.setTop (entryFrame m #[(.int p1)] maxLocals)) t := by
      intro t k
      refine k565 t ?_
      show Steps p.tables e below (T564.setTop (mkF m 121 #[.val (.int p1), .val (.ref b2), .val (.int (4 : Int32)), .val (.ref s4), .unset, .unset, .unset] [(.ref s3), (.ref s4)])) _
      refine Jvm.RoadKit.acmp (g := (mkF m 121 #[.val (.int p1), .val (.ref b2), .val (.int (4 : Int32)), .val (.ref s4), .unset, .unset, .unset] [(.ref s3), (.ref s4)])) X564 hx rfl rfl rfl (pc0 := 121) (pc' := 124) (same := false) rfl (hb hby at_121) rfl (decide_eq_false fun q => (own_ne oO4 oO3 (by decide)) (Value.ref.inj q)) (by decide) (by decide) ?_
      show Steps p.tables e below (T564.setTop (mkF m 124 #[.val (.int p1), .val (.ref b2), .val (.int (4 : Int32)), .val (.ref s4), .unset, .unset, .unset] [])) _
      refine XS.aloadN X564.here hx rfl (hb hby at_124) rfl rfl ?_
      exact k
    obtain ⟨T567, X567, e567, st567⟩ := getS2 X564 hx hZ hown (host := "") (Or.inl (hw _ (List.mem_of_getElem? (i := 16) rfl))) Via.refl e564 f457 (g := (mkF m 125 #[.val (.int p1), .val (.ref b2), .val (.int (4 : Int32)), .val (.ref s4), .unset, .unset, .unset] [(.ref s4)])) rfl (hb hby at_125)
    have k568 : ∀ t, Steps p.tables e below (T567.setTop (mkF m 128 #[.val (.int p1), .val (.ref b2), .val (.int (4 : Int32)), .val (.ref s4), .unset, .unset, .unset] [(.ref s6), (.ref s4)])) t → Steps p.tables e below (s₁.setTop (entryFrame m #[(.int p1)] maxLocals)) t := fun t k => k566 t (st567 t k)
    have k569 : ∀ t, Steps p.tables e below (T567.setTop (mkF m 132 #[.val (.int p1), .val (.ref b2), .val (.int (4 : Int32)), .val (.ref s4), .unset, .unset, .unset] [(.ref s4)])) t → Steps p.tables e below (s₁.setTop (entryFrame m #[(.int p1)] maxLocals)) t := by
      intro t k
      refine k568 t ?_
      show Steps p.tables e below (T567.setTop (mkF m 128 #[.val (.int p1), .val (.ref b2), .val (.int (4 : Int32)), .val (.ref s4), .unset, .unset, .unset] [(.ref s6), (.ref s4)])) _
      refine Jvm.RoadKit.acmp (g := (mkF m 128 #[.val (.int p1), .val (.ref b2), .val (.int (4 : Int32)), .val (.ref s4), .unset, .unset, .unset] [(.ref s6), (.ref s4)])) X567 hx rfl rfl rfl (pc0 := 128) (pc' := 131) (same := false) rfl (hb hby at_128) rfl (decide_eq_false fun q => (own_ne oO4 oO6 (by decide)) (Value.ref.inj q)) (by decide) (by decide) ?_
      show Steps p.tables e below (T567.setTop (mkF m 131 #[.val (.int p1), .val (.ref b2), .val (.int (4 : Int32)), .val (.ref s4), .unset, .unset, .unset] [])) _
      refine XS.aloadN X567.here hx rfl (hb hby at_131) rfl rfl ?_
      exact k
    obtain ⟨T570, X570, e570, st570⟩ := getS2 X567 hx hZ hown (host := "") (Or.inl (hw _ (List.mem_of_getElem? (i := 18) rfl))) Via.refl e567 f459 (g := (mkF m 132 #[.val (.int p1), .val (.ref b2), .val (.int (4 : Int32)), .val (.ref s4), .unset, .unset, .unset] [(.ref s4)])) rfl (hb hby at_132)
    have k571 : ∀ t, Steps p.tables e below (T570.setTop (mkF m 135 #[.val (.int p1), .val (.ref b2), .val (.int (4 : Int32)), .val (.ref s4), .unset, .unset, .unset] [(.ref s7), (.ref s4)])) t → Steps p.tables e below (s₁.setTop (entryFrame m #[(.int p1)] maxLocals)) t := fun t k => k569 t (st570 t k)
    have k572 : ∀ t, Steps p.tables e below (T570.setTop (mkF m 139 #[.val (.int p1), .val (.ref b2), .val (.int (4 : Int32)), .val (.ref s4), .unset, .unset, .unset] [(.ref s4)])) t → Steps p.tables e below (s₁.setTop (entryFrame m #[(.int p1)] maxLocals)) t := by
      intro t k
      refine k571 t ?_
      show Steps p.tables e below (T570.setTop (mkF m 135 #[.val (.int p1), .val (.ref b2), .val (.int (4 : Int32)), .val (.ref s4), .unset, .unset, .unset] [(.ref s7), (.ref s4)])) _
      refine Jvm.RoadKit.acmp (g := (mkF m 135 #[.val (.int p1), .val (.ref b2), .val (.int (4 : Int32)), .val (.ref s4), .unset, .unset, .unset] [(.ref s7), (.ref s4)])) X570 hx rfl rfl rfl (pc0 := 135) (pc' := 138) (same := false) rfl (hb hby at_135) rfl (decide_eq_false fun q => (own_ne oO4 oO7 (by decide)) (Value.ref.inj q)) (by decide) (by decide) ?_
      show Steps p.tables e below (T570.setTop (mkF m 138 #[.val (.int p1), .val (.ref b2), .val (.int (4 : Int32)), .val (.ref s4), .unset, .unset, .unset] [])) _
      refine XS.aloadN X570.here hx rfl (hb hby at_138) rfl rfl ?_
      exact k
    obtain ⟨T573, X573, e573, st573⟩ := getS2 X570 hx hZ hown (host := "") (Or.inl (hw _ (List.mem_of_getElem? (i := 28) rfl))) Via.refl e570 f469 (g := (mkF m 139 #[.val (.int p1), .val (.ref b2), .val (.int (4 : Int32)), .val (.ref s4), .unset, .unset, .unset] [(.ref s4)])) rfl (hb hby at_139)
    have k574 : ∀ t, Steps p.tables e below (T573.setTop (mkF m 142 #[.val (.int p1), .val (.ref b2), .val (.int (4 : Int32)), .val (.ref s4), .unset, .unset, .unset] [(.ref s12), (.ref s4)])) t → Steps p.tables e below (s₁.setTop (entryFrame m #[(.int p1)] maxLocals)) t := fun t k => k572 t (st573 t k)
    have k575 : ∀ t, Steps p.tables e below (T573.setTop (mkF m 165 #[.val (.int p1), .val (.ref b2), .val (.int (4 : Int32)), .val (.ref s4), .val (.int (0 : Int32)), .val (.int (1 : Int32)), .unset] [(.ref s4)])) t → Steps p.tables e below (s₁.setTop (entryFrame m #[(.int p1)] maxLocals)) t := by
      intro t k
      refine k574 t ?_
      show Steps p.tables e below (T573.setTop (mkF m 142 #[.val (.int p1), .val (.ref b2), .val (.int (4 : Int32)), .val (.ref s4), .unset, .unset, .unset] [(.ref s12), (.ref s4)])) _
      refine Jvm.RoadKit.acmp (g := (mkF m 142 #[.val (.int p1), .val (.ref b2), .val (.int (4 : Int32)), .val (.ref s4), .unset, .unset, .unset] [(.ref s12), (.ref s4)])) X573 hx rfl rfl rfl (pc0 := 142) (pc' := 149) (same := false) rfl (hb hby at_142) rfl (decide_eq_false fun q => (own_ne oO4 oO12 (by decide)) (Value.ref.inj q)) (by decide) (by decide) ?_
      show Steps p.tables e below (T573.setTop (mkF m 149 #[.val (.int p1), .val (.ref b2), .val (.int (4 : Int32)), .val (.ref s4), .unset, .unset, .unset] [])) _
      refine XS.iconst X573.here hx rfl (hb hby at_149) ?_
      show Steps p.tables e below (T573.setTop (mkF m 150 #[.val (.int p1), .val (.ref b2), .val (.int (4 : Int32)), .val (.ref s4), .unset, .unset, .unset] [(.int (0 : Int32))])) _
      refine XS.istore X573.here hx rfl (hb hby at_150) rfl (l' := #[.val (.int p1), .val (.ref b2), .val (.int (4 : Int32)), .val (.ref s4), .val (.int (0 : Int32)), .unset, .unset]) rfl ?_
      show Steps p.tables e below (T573.setTop (mkF m 152 #[.val (.int p1), .val (.ref b2), .val (.int (4 : Int32)), .val (.ref s4), .val (.int (0 : Int32)), .unset, .unset] [])) _
      refine XS.iload X573.here hx rfl (hb hby at_152) rfl ?_
      show Steps p.tables e below (T573.setTop (mkF m 154 #[.val (.int p1), .val (.ref b2), .val (.int (4 : Int32)), .val (.ref s4), .val (.int (0 : Int32)), .unset, .unset] [(.int (0 : Int32))])) _
      refine XS.ifNo X573.here hx rfl (hb hby at_154) rfl ((if0 _ _).trans (teq (rfl : (0 : Int32) = (0 : Int32))).2) ?_
      show Steps p.tables e below (T573.setTop (mkF m 157 #[.val (.int p1), .val (.ref b2), .val (.int (4 : Int32)), .val (.ref s4), .val (.int (0 : Int32)), .unset, .unset] [])) _
      refine XS.iconst X573.here hx rfl (hb hby at_157) ?_
      show Steps p.tables e below (T573.setTop (mkF m 158 #[.val (.int p1), .val (.ref b2), .val (.int (4 : Int32)), .val (.ref s4), .val (.int (0 : Int32)), .unset, .unset] [(.int (1 : Int32))])) _
      refine XS.goto X573.here hx rfl (pc0 := 158) (pc' := 162) rfl (hb hby at_158) (by decide) (by decide) ?_
      show Steps p.tables e below (T573.setTop (mkF m 162 #[.val (.int p1), .val (.ref b2), .val (.int (4 : Int32)), .val (.ref s4), .val (.int (0 : Int32)), .unset, .unset] [(.int (1 : Int32))])) _
      refine XS.istore X573.here hx rfl (hb hby at_162) rfl (l' := #[.val (.int p1), .val (.ref b2), .val (.int (4 : Int32)), .val (.ref s4), .val (.int (0 : Int32)), .val (.int (1 : Int32)), .unset]) rfl ?_
      show Steps p.tables e below (T573.setTop (mkF m 164 #[.val (.int p1), .val (.ref b2), .val (.int (4 : Int32)), .val (.ref s4), .val (.int (0 : Int32)), .val (.int (1 : Int32)), .unset] [])) _
      refine XS.aloadN X573.here hx rfl (hb hby at_164) rfl rfl ?_
      exact k
    obtain ⟨cq576, kq576, q576a, q576b, q576c⟩ := isOf hZ e573 f454
    obtain ⟨_, _, ⟨T576, L576, k576c, n576⟩, -, X576, ⟨Lc576, hQ576, l576, y576, z576⟩, st576⟩ := X573.virtualBack hx (y := (⟨"com/example/eager_path/eagerpath/LocationPath$Axis", "leavesSubtree", "()Z"⟩ : MethodName)) (z := (⟨"com/example/eager_path/eagerpath/LocationPath$Axis", "leavesSubtree", "()Z"⟩ : MethodName)) hown (mvT hZ (hw _ (List.mem_of_getElem? (i := 31) rfl))) (mvT hZ (hw _ (List.mem_of_getElem? (i := 32) rfl))) (notFace_of_selects (args := #[]) (mvT hZ (hw _ (List.mem_of_getElem? (i := 34) rfl)))) (mvT hZ (hw _ (List.mem_of_getElem? (i := 34) rfl))) (mvT hZ (hw _ (List.mem_of_getElem? (i := 33) rfl))) (by decide) (backOf (W := 0) (own_rmls l Z a0 hw [] s4 s2 s4 s5 s8 s9 s10 s11 h444 n0 Z444 f449 f453 f455 f461 f463 f465 f467) hZ (hw _ (List.mem_of_getElem? (i := 35) rfl)) (hw _ (List.mem_of_getElem? (i := 3) rfl)) (by decide) (by decide)) q576a q576c (g := (mkF m 165 #[.val (.int p1), .val (.ref b2), .val (.int (4 : Int32)), .val (.ref s4), .val (.int (0 : Int32)), .val (.int (1 : Int32)), .unset] [(.ref s4)])) rfl (by rw [hml]; rfl) (Steps.refl _) (argsL := []) (rest := []) (lenOf own_pd0 rfl) rfl (by show 2 * 0 + _ ≤ _; exact Nat.le_of_eq rfl) (hb hby at_165) (fun _ _ => ⟨rfl, e573, (by decide : 1 + 0 ≤ _), (by decide : 13 + 0 ≤ _)⟩)
    dsimp only [Pt.U, Pt.locs, Pt.cells, Pt.slots] at X576 l576 y576 z576 st576 hQ576
    subst l576 y576 z576
    have hv576 : (own_vls s4 s2 s4 s5 s8 s9 s10 s11) = (1 : Int32) := ((if_neg (own_ne oO4 oO2 (by decide))).trans (if_pos rfl))
    obtain ⟨hr576, N576q, e576⟩ := hQ576
    rw [hv576] at hr576
    subst hr576
    have N576 := Fr.app N444 N576q
    have k577 : ∀ t, Steps p.tables e below (T576.setTop (mkF m 168 #[.val (.int p1), .val (.ref b2), .val (.int (4 : Int32)), .val (.ref s4), .val (.int (0 : Int32)), .val (.int (1 : Int32)), .unset] [(.int (1 : Int32))])) t → Steps p.tables e below (s₁.setTop (entryFrame m #[(.int p1)] maxLocals)) t := fun t k => k575 t (st576.trans k)
    have k578 : ∀ t, Steps p.tables e below (T576.setTop (mkF m 180 #[.val (.int p1), .val (.ref b2), .val (.int (4 : Int32)), .val (.ref s4), .val (.int (0 : Int32)), .val (.int (1 : Int32)), .val (.int (1 : Int32))] [(.ref s4)])) t → Steps p.tables e below (s₁.setTop (entryFrame m #[(.int p1)] maxLocals)) t := by
      intro t k
      refine k577 t ?_
      show Steps p.tables e below (T576.setTop (mkF m 168 #[.val (.int p1), .val (.ref b2), .val (.int (4 : Int32)), .val (.ref s4), .val (.int (0 : Int32)), .val (.int (1 : Int32)), .unset] [(.int (1 : Int32))])) _
      refine XS.istore X576.here hx rfl (hb hby at_168) rfl (l' := #[.val (.int p1), .val (.ref b2), .val (.int (4 : Int32)), .val (.ref s4), .val (.int (0 : Int32)), .val (.int (1 : Int32)), .val (.int (1 : Int32))]) rfl ?_
      show Steps p.tables e below (T576.setTop (mkF m 170 #[.val (.int p1), .val (.ref b2), .val (.int (4 : Int32)), .val (.ref s4), .val (.int (0 : Int32)), .val (.int (1 : Int32)), .val (.int (1 : Int32))] [])) _
      refine XS.iload X576.here hx rfl (hb hby at_170) rfl ?_
      show Steps p.tables e below (T576.setTop (mkF m 172 #[.val (.int p1), .val (.ref b2), .val (.int (4 : Int32)), .val (.ref s4), .val (.int (0 : Int32)), .val (.int (1 : Int32)), .val (.int (1 : Int32))] [(.int (1 : Int32))])) _
      refine XS.iload X576.here hx rfl (hb hby at_172) rfl ?_
      show Steps p.tables e below (T576.setTop (mkF m 174 #[.val (.int p1), .val (.ref b2), .val (.int (4 : Int32)), .val (.ref s4), .val (.int (0 : Int32)), .val (.int (1 : Int32)), .val (.int (1 : Int32))] [(.int (1 : Int32)), (.int (1 : Int32))])) _
      refine XS.icmpYes X576.here hx rfl (pc0 := 174) (pc' := 179) rfl (hb hby at_174) rfl (teq (rfl : (1 : Int32) = (1 : Int32))).1 (by decide) (by decide) ?_
      show Steps p.tables e below (T576.setTop (mkF m 179 #[.val (.int p1), .val (.ref b2), .val (.int (4 : Int32)), .val (.ref s4), .val (.int (0 : Int32)), .val (.int (1 : Int32)), .val (.int (1 : Int32))] [])) _
      refine XS.aloadN X576.here hx rfl (hb hby at_179) rfl rfl ?_
      exact k
    obtain ⟨cq579, kq579, q579a, q579b, q579c⟩ := isOf hZ e576 f454
    obtain ⟨_, _, ⟨T579, L579, k579c, n579⟩, -, X579, ⟨Lc579, hQ579, l579, y579, z579⟩, st579⟩ := X576.virtualBack hx (y := (⟨"com/example/eager_path/eagerpath/LocationPath$Axis", "reverse", "()Z"⟩ : MethodName)) (z := (⟨"com/example/eager_path/eagerpath/LocationPath$Axis", "reverse", "()Z"⟩ : MethodName)) hown (mvT hZ (hw _ (List.mem_of_getElem? (i := 43) rfl))) (mvT hZ (hw _ (List.mem_of_getElem? (i := 44) rfl))) (notFace_of_selects (args := #[]) (mvT hZ (hw _ (List.mem_of_getElem? (i := 46) rfl)))) (mvT hZ (hw _ (List.mem_of_getElem? (i := 46) rfl))) (mvT hZ (hw _ (List.mem_of_getElem? (i := 45) rfl))) (by decide) (backOf (W := 0) (own_rmrv l Z a0 hw [] s4 s4 s5 s10 s11 h444 n0 Z444 f453 f455 f465 f467) hZ (hw _ (List.mem_of_getElem? (i := 47) rfl)) (hw _ (List.mem_of_getElem? (i := 3) rfl)) (by decide) (by decide)) q579a q579c (g := (mkF m 180 #[.val (.int p1), .val (.ref b2), .val (.int (4 : Int32)), .val (.ref s4), .val (.int (0 : Int32)), .val (.int (1 : Int32)), .val (.int (1 : Int32))] [(.ref s4)])) rfl (by rw [hml]; rfl) (Steps.refl _) (argsL := []) (rest := []) (lenOf own_pd0 rfl) rfl (by show 2 * 0 + _ ≤ _; exact Nat.le_of_eq rfl) (hb hby at_180) (fun _ _ => ⟨rfl, e576, (by decide : 1 + 0 ≤ _), (by decide : 13 + 0 ≤ _)⟩)
    dsimp only [Pt.U, Pt.locs, Pt.cells, Pt.slots] at X579 l579 y579 z579 st579 hQ579
    subst l579 y579 z579
    have hv579 : (own_vrv s4 s4 s5 s10 s11) = (1 : Int32) := (if_pos rfl)
    obtain ⟨hr579, N579q, e579⟩ := hQ579
    rw [hv579] at hr579
    subst hr579
    have N579 := Fr.app N576 N579q
    have k580 : ∀ t, Steps p.tables e below (T579.setTop (mkF m 183 #[.val (.int p1), .val (.ref b2), .val (.int (4 : Int32)), .val (.ref s4), .val (.int (0 : Int32)), .val (.int (1 : Int32)), .val (.int (1 : Int32))] [(.int (1 : Int32))])) t → Steps p.tables e below (s₁.setTop (entryFrame m #[(.int p1)] maxLocals)) t := fun t k => k578 t (st579.trans k)
    have k581 : ∀ t, Steps p.tables e below (T579.setTop (mkF m 194 #[.val (.int p1), .val (.ref b2), .val (.int (4 : Int32)), .val (.ref s4), .val (.int (0 : Int32)), .val (.int (1 : Int32)), .val (.int (1 : Int32))] [(.int (1 : Int32))])) t → Steps p.tables e below (s₁.setTop (entryFrame m #[(.int p1)] maxLocals)) t := by
      intro t k
      refine k580 t ?_
      show Steps p.tables e below (T579.setTop (mkF m 183 #[.val (.int p1), .val (.ref b2), .val (.int (4 : Int32)), .val (.ref s4), .val (.int (0 : Int32)), .val (.int (1 : Int32)), .val (.int (1 : Int32))] [(.int (1 : Int32))])) _
      refine XS.ifNo X579.here hx rfl (hb hby at_183) rfl ((if0 _ _).trans (feq (by decide : ¬ ((1 : Int32) = (0 : Int32)))).1) ?_
      show Steps p.tables e below (T579.setTop (mkF m 186 #[.val (.int p1), .val (.ref b2), .val (.int (4 : Int32)), .val (.ref s4), .val (.int (0 : Int32)), .val (.int (1 : Int32)), .val (.int (1 : Int32))] [])) _
      refine XS.iload X579.here hx rfl (hb hby at_186) rfl ?_
      show Steps p.tables e below (T579.setTop (mkF m 188 #[.val (.int p1), .val (.ref b2), .val (.int (4 : Int32)), .val (.ref s4), .val (.int (0 : Int32)), .val (.int (1 : Int32)), .val (.int (1 : Int32))] [(.int (1 : Int32))])) _
      refine XS.ifYes X579.here hx rfl (pc0 := 188) (pc' := 193) rfl (hb hby at_188) rfl ((if0 _ _).trans (feq (by decide : ¬ ((1 : Int32) = (0 : Int32)))).2) (by decide) (by decide) ?_
      show Steps p.tables e below (T579.setTop (mkF m 193 #[.val (.int p1), .val (.ref b2), .val (.int (4 : Int32)), .val (.ref s4), .val (.int (0 : Int32)), .val (.int (1 : Int32)), .val (.int (1 : Int32))] [])) _
      refine XS.iconst X579.here hx rfl (hb hby at_193) ?_
      exact k
    obtain ⟨fs, hr, hrun, hended, hW, hsame⟩ := X579.leave (v := (some (.int (1 : Int32)))) (fun h => by rw [Bd.returns] at h; cases h)
    refine ⟨_, _, k581 _ ?_, hrun, hended, _, _, rfl, ?_, ⟨_, rfl⟩, hW, hsame.mono (by decide) (by decide)⟩
    · exact retN X579 hx (t := .boolean) Bd.returns (by simp) (hb hby at_194) hr
    · exact ⟨rfl, N579⟩
  · have k582 : ∀ t, Steps p.tables e below (T444.setTop (mkF m 99 #[.val (.int p1), .val (.ref b2), .val (.int (5 : Int32)), .unset, .unset, .unset, .unset] [])) t → Steps p.tables e below (s₁.setTop (entryFrame m #[(.int p1)] maxLocals)) t := by have z := k472; rw [he] at z; exact z
    obtain ⟨cl583, Ar583, qa583, Sa583, Na583, Ha583, Ga583⟩ := id V444
    have hin584 : ¬ ((5 : Int32) < 0 ∨ cl583.slots.size ≤ ((5 : Int32)).toNatClampNeg) := inb_of Sa583 ⟨by decide, by decide⟩
    have hat585 : cl583.slots[((5 : Int32)).toNatClampNeg]? = some (.ref s5) := Ha583 5 (Nat.lt_of_not_le fun q => hin584 (Or.inr q))
    have k586 : ∀ t, Steps p.tables e below (T444.setTop (mkF m 104 #[.val (.int p1), .val (.ref b2), .val (.int (5 : Int32)), .val (.ref s5), .unset, .unset, .unset] [(.ref s5)])) t → Steps p.tables e below (s₁.setTop (entryFrame m #[(.int p1)] maxLocals)) t := by
      intro t k
      refine k582 t ?_
      show Steps p.tables e below (T444.setTop (mkF m 99 #[.val (.int p1), .val (.ref b2), .val (.int (5 : Int32)), .unset, .unset, .unset, .unset] [])) _
      refine XS.aloadN X444.here hx rfl (hb hby at_99) rfl rfl ?_
      show Steps p.tables e below (T444.setTop (mkF m 100 #[.val (.int p1), .val (.ref b2), .val (.int (5 : Int32)), .unset, .unset, .unset, .unset] [(.ref b2)])) _
      refine XS.iloadN X444.here hx rfl (hb hby at_100) rfl ?_
      show Steps p.tables e below (T444.setTop (mkF m 101 #[.val (.int p1), .val (.ref b2), .val (.int (5 : Int32)), .unset, .unset, .unset, .unset] [(.int (5 : Int32)), (.ref b2)])) _
      refine X444.aaload hx (j := (5 : Int32)) (v := (.ref s5)) (by rw [e444]; exact Ar583.1) (State.isArrayOf_alike hZ.alike Ar583.2.1) rfl Ar583.2.2 hin584 hat585 (g := (mkF m 101 #[.val (.int p1), .val (.ref b2), .val (.int (5 : Int32)), .unset, .unset, .unset, .unset] [(.int (5 : Int32)), (.ref b2)])) rfl rfl (hb hby at_101) _ ?_
      show Steps p.tables e below (T444.setTop (mkF m 102 #[.val (.int p1), .val (.ref b2), .val (.int (5 : Int32)), .unset, .unset, .unset, .unset] [(.ref s5)])) _
      refine XS.astoreN X444.here hx rfl (hb hby at_102) rfl rfl (l' := #[.val (.int p1), .val (.ref b2), .val (.int (5 : Int32)), .val (.ref s5), .unset, .unset, .unset]) rfl ?_
      show Steps p.tables e below (T444.setTop (mkF m 103 #[.val (.int p1), .val (.ref b2), .val (.int (5 : Int32)), .val (.ref s5), .unset, .unset, .unset] [])) _
      refine XS.aloadN X444.here hx rfl (hb hby at_103) rfl rfl ?_
      exact k
    obtain ⟨T587, X587, e587, st587⟩ := getS2 X444 hx hZ hown (host := "") (Or.inl (hw _ (List.mem_of_getElem? (i := 2) rfl))) Via.refl e444 f445 (g := (mkF m 104 #[.val (.int p1), .val (.ref b2), .val (.int (5 : Int32)), .val (.ref s5), .unset, .unset, .unset] [(.ref s5)])) rfl (hb hby at_104)
    have k588 : ∀ t, Steps p.tables e below (T587.setTop (mkF m 107 #[.val (.int p1), .val (.ref b2), .val (.int (5 : Int32)), .val (.ref s5), .unset, .unset, .unset] [(.ref s0), (.ref s5)])) t → Steps p.tables e below (s₁.setTop (entryFrame m #[(.int p1)] maxLocals)) t := fun t k => k586 t (st587 t k)
    have k589 : ∀ t, Steps p.tables e below (T587.setTop (mkF m 111 #[.val (.int p1), .val (.ref b2), .val (.int (5 : Int32)), .val (.ref s5), .unset, .unset, .unset] [(.ref s5)])) t → Steps p.tables e below (s₁.setTop (entryFrame m #[(.int p1)] maxLocals)) t := by
      intro t k
      refine k588 t ?_
      show Steps p.tables e below (T587.setTop (mkF m 107 #[.val (.int p1), .val (.ref b2), .val (.int (5 : Int32)), .val (.ref s5), .unset, .unset, .unset] [(.ref s0), (.ref s5)])) _
      refine Jvm.RoadKit.acmp (g := (mkF m 107 #[.val (.int p1), .val (.ref b2), .val (.int (5 : Int32)), .val (.ref s5), .unset, .unset, .unset] [(.ref s0), (.ref s5)])) X587 hx rfl rfl rfl (pc0 := 107) (pc' := 110) (same := false) rfl (hb hby at_107) rfl (decide_eq_false fun q => (own_ne oO5 oO0 (by decide)) (Value.ref.inj q)) (by decide) (by decide) ?_
      show Steps p.tables e below (T587.setTop (mkF m 110 #[.val (.int p1), .val (.ref b2), .val (.int (5 : Int32)), .val (.ref s5), .unset, .unset, .unset] [])) _
      refine XS.aloadN X587.here hx rfl (hb hby at_110) rfl rfl ?_
      exact k
    obtain ⟨T590, X590, e590, st590⟩ := getS2 X587 hx hZ hown (host := "") (Or.inl (hw _ (List.mem_of_getElem? (i := 6) rfl))) Via.refl e587 f447 (g := (mkF m 111 #[.val (.int p1), .val (.ref b2), .val (.int (5 : Int32)), .val (.ref s5), .unset, .unset, .unset] [(.ref s5)])) rfl (hb hby at_111)
    have k591 : ∀ t, Steps p.tables e below (T590.setTop (mkF m 114 #[.val (.int p1), .val (.ref b2), .val (.int (5 : Int32)), .val (.ref s5), .unset, .unset, .unset] [(.ref s1), (.ref s5)])) t → Steps p.tables e below (s₁.setTop (entryFrame m #[(.int p1)] maxLocals)) t := fun t k => k589 t (st590 t k)
    have k592 : ∀ t, Steps p.tables e below (T590.setTop (mkF m 118 #[.val (.int p1), .val (.ref b2), .val (.int (5 : Int32)), .val (.ref s5), .unset, .unset, .unset] [(.ref s5)])) t → Steps p.tables e below (s₁.setTop (entryFrame m #[(.int p1)] maxLocals)) t := by
      intro t k
      refine k591 t ?_
      show Steps p.tables e below (T590.setTop (mkF m 114 #[.val (.int p1), .val (.ref b2), .val (.int (5 : Int32)), .val (.ref s5), .unset, .unset, .unset] [(.ref s1), (.ref s5)])) _
      refine Jvm.RoadKit.acmp (g := (mkF m 114 #[.val (.int p1), .val (.ref b2), .val (.int (5 : Int32)), .val (.ref s5), .unset, .unset, .unset] [(.ref s1), (.ref s5)])) X590 hx rfl rfl rfl (pc0 := 114) (pc' := 117) (same := false) rfl (hb hby at_114) rfl (decide_eq_false fun q => (own_ne oO5 oO1 (by decide)) (Value.ref.inj q)) (by decide) (by decide) ?_
      show Steps p.tables e below (T590.setTop (mkF m 117 #[.val (.int p1), .val (.ref b2), .val (.int (5 : Int32)), .val (.ref s5), .unset, .unset, .unset] [])) _
      refine XS.aloadN X590.here hx rfl (hb hby at_117) rfl rfl ?_
      exact k
    obtain ⟨T593, X593, e593, st593⟩ := getS2 X590 hx hZ hown (host := "") (Or.inl (hw _ (List.mem_of_getElem? (i := 10) rfl))) Via.refl e590 f451 (g := (mkF m 118 #[.val (.int p1), .val (.ref b2), .val (.int (5 : Int32)), .val (.ref s5), .unset, .unset, .unset] [(.ref s5)])) rfl (hb hby at_118)
    have k594 : ∀ t, Steps p.tables e below (T593.setTop (mkF m 121 #[.val (.int p1), .val (.ref b2), .val (.int (5 : Int32)), .val (.ref s5), .unset, .unset, .unset] [(.ref s3), (.ref s5)])) t → Steps p.tables e below (s₁.setTop (entryFrame m #[(.int p1)] maxLocals)) t := fun t k => k592 t (st593 t k)
    have k595 : ∀ t, Steps p.tables e below (T593.setTop (mkF m 125 #[.val (.int p1), .val (.ref b2), .val (.int (5 : Int32)), .val (.ref s5), .unset, .unset, .unset] [(.ref s5)])) t → Steps p.tables e below (s₁.setTop (entryFrame m #[(.int p1)] maxLocals)) t := by
      intro t k
      refine k594 t ?_
      show Steps p.tables e below (T593.setTop (mkF m 121 #[.val (.int p1), .val (.ref b2), .val (.int (5 : Int32)), .val (.ref s5), .unset, .unset, .unset] [(.ref s3), (.ref s5)])) _
      refine Jvm.RoadKit.acmp (g := (mkF m 121 #[.val (.int p1), .val (.ref b2), .val (.int (5 : Int32)), .val (.ref s5), .unset, .unset, .unset] [(.ref s3), (.ref s5)])) X593 hx rfl rfl rfl (pc0 := 121) (pc' := 124) (same := false) rfl (hb hby at_121) rfl (decide_eq_false fun q => (own_ne oO5 oO3 (by decide)) (Value.ref.inj q)) (by decide) (by decide) ?_
      show Steps p.tables e below (T593.setTop (mkF m 124 #[.val (.int p1), .val (.ref b2), .val (.int (5 : Int32)), .val (.ref s5), .unset, .unset, .unset] [])) _
      refine XS.aloadN X593.here hx rfl (hb hby at_124) rfl rfl ?_
      exact k
    obtain ⟨T596, X596, e596, st596⟩ := getS2 X593 hx hZ hown (host := "") (Or.inl (hw _ (List.mem_of_getElem? (i := 16) rfl))) Via.refl e593 f457 (g := (mkF m 125 #[.val (.int p1), .val (.ref b2), .val (.int (5 : Int32)), .val (.ref s5), .unset, .unset, .unset] [(.ref s5)])) rfl (hb hby at_125)
    have k597 : ∀ t, Steps p.tables e below (T596.setTop (mkF m 128 #[.val (.int p1), .val (.ref b2), .val (.int (5 : Int32)), .val (.ref s5), .unset, .unset, .unset] [(.ref s6), (.ref s5)])) t → Steps p.tables e below (s₁.setTop (entryFrame m #[(.int p1)] maxLocals)) t := fun t k => k595 t (st596 t k)
    have k598 : ∀ t, Steps p.tables e below (T596.setTop (mkF m 132 #[.val (.int p1), .val (.ref b2), .val (.int (5 : Int32)), .val (.ref s5), .unset, .unset, .unset] [(.ref s5)])) t → Steps p.tables e below (s₁.setTop (entryFrame m #[(.int p1)] maxLocals)) t := by
      intro t k
      refine k597 t ?_
      show Steps p.tables e below (T596.setTop (mkF m 128 #[.val (.int p1), .val (.ref b2), .val (.int (5 : Int32)), .val (.ref s5), .unset, .unset, .unset] [(.ref s6), (.ref s5)])) _
      refine Jvm.RoadKit.acmp (g := (mkF m 128 #[.val (.int p1), .val (.ref b2), .val (.int (5 : Int32)), .val (.ref s5), .unset, .unset, .unset] [(.ref s6), (.ref s5)])) X596 hx rfl rfl rfl (pc0 := 128) (pc' := 131) (same := false) rfl (hb hby at_128) rfl (decide_eq_false fun q => (own_ne oO5 oO6 (by decide)) (Value.ref.inj q)) (by decide) (by decide) ?_
      show Steps p.tables e below (T596.setTop (mkF m 131 #[.val (.int p1), .val (.ref b2), .val (.int (5 : Int32)), .val (.ref s5), .unset, .unset, .unset] [])) _
      refine XS.aloadN X596.here hx rfl (hb hby at_131) rfl rfl ?_
      exact k
    obtain ⟨T599, X599, e599, st599⟩ := getS2 X596 hx hZ hown (host := "") (Or.inl (hw _ (List.mem_of_getElem? (i := 18) rfl))) Via.refl e596 f459 (g := (mkF m 132 #[.val (.int p1), .val (.ref b2), .val (.int (5 : Int32)), .val (.ref s5), .unset, .unset, .unset] [(.ref s5)])) rfl (hb hby at_132)
    have k600 : ∀ t, Steps p.tables e below (T599.setTop (mkF m 135 #[.val (.int p1), .val (.ref b2), .val (.int (5 : Int32)), .val (.ref s5), .unset, .unset, .unset] [(.ref s7), (.ref s5)])) t → Steps p.tables e below (s₁.setTop (entryFrame m #[(.int p1)] maxLocals)) t := fun t k => k598 t (st599 t k)
    have k601 : ∀ t, Steps p.tables e below (T599.setTop (mkF m 139 #[.val (.int p1), .val (.ref b2), .val (.int (5 : Int32)), .val (.ref s5), .unset, .unset, .unset] [(.ref s5)])) t → Steps p.tables e below (s₁.setTop (entryFrame m #[(.int p1)] maxLocals)) t := by
      intro t k
      refine k600 t ?_
      show Steps p.tables e below (T599.setTop (mkF m 135 #[.val (.int p1), .val (.ref b2), .val (.int (5 : Int32)), .val (.ref s5), .unset, .unset, .unset] [(.ref s7), (.ref s5)])) _
      refine Jvm.RoadKit.acmp (g := (mkF m 135 #[.val (.int p1), .val (.ref b2), .val (.int (5 : Int32)), .val (.ref s5), .unset, .unset, .unset] [(.ref s7), (.ref s5)])) X599 hx rfl rfl rfl (pc0 := 135) (pc' := 138) (same := false) rfl (hb hby at_135) rfl (decide_eq_false fun q => (own_ne oO5 oO7 (by decide)) (Value.ref.inj q)) (by decide) (by decide) ?_
      show Steps p.tables e below (T599.setTop (mkF m 138 #[.val (.int p1), .val (.ref b2), .val (.int (5 : Int32)), .val (.ref s5), .unset, .unset, .unset] [])) _
      refine XS.aloadN X599.here hx rfl (hb hby at_138) rfl rfl ?_
      exact k
    obtain ⟨T602, X602, e602, st602⟩ := getS2 X599 hx hZ hown (host := "") (Or.inl (hw _ (List.mem_of_getElem? (i := 28) rfl))) Via.refl e599 f469 (g := (mkF m 139 #[.val (.int p1), .val (.ref b2), .val (.int (5 : Int32)), .val (.ref s5), .unset, .unset, .unset] [(.ref s5)])) rfl (hb hby at_139)
    have k603 : ∀ t, Steps p.tables e below (T602.setTop (mkF m 142 #[.val (.int p1), .val (.ref b2), .val (.int (5 : Int32)), .val (.ref s5), .unset, .unset, .unset] [(.ref s12), (.ref s5)])) t → Steps p.tables e below (s₁.setTop (entryFrame m #[(.int p1)] maxLocals)) t := fun t k => k601 t (st602 t k)
    have k604 : ∀ t, Steps p.tables e below (T602.setTop (mkF m 165 #[.val (.int p1), .val (.ref b2), .val (.int (5 : Int32)), .val (.ref s5), .val (.int (0 : Int32)), .val (.int (1 : Int32)), .unset] [(.ref s5)])) t → Steps p.tables e below (s₁.setTop (entryFrame m #[(.int p1)] maxLocals)) t := by
      intro t k
      refine k603 t ?_
      show Steps p.tables e below (T602.setTop (mkF m 142 #[.val (.int p1), .val (.ref b2), .val (.int (5 : Int32)), .val (.ref s5), .unset, .unset, .unset] [(.ref s12), (.ref s5)])) _
      refine Jvm.RoadKit.acmp (g := (mkF m 142 #[.val (.int p1), .val (.ref b2), .val (.int (5 : Int32)), .val (.ref s5), .unset, .unset, .unset] [(.ref s12), (.ref s5)])) X602 hx rfl rfl rfl (pc0 := 142) (pc' := 149) (same := false) rfl (hb hby at_142) rfl (decide_eq_false fun q => (own_ne oO5 oO12 (by decide)) (Value.ref.inj q)) (by decide) (by decide) ?_
      show Steps p.tables e below (T602.setTop (mkF m 149 #[.val (.int p1), .val (.ref b2), .val (.int (5 : Int32)), .val (.ref s5), .unset, .unset, .unset] [])) _
      refine XS.iconst X602.here hx rfl (hb hby at_149) ?_
      show Steps p.tables e below (T602.setTop (mkF m 150 #[.val (.int p1), .val (.ref b2), .val (.int (5 : Int32)), .val (.ref s5), .unset, .unset, .unset] [(.int (0 : Int32))])) _
      refine XS.istore X602.here hx rfl (hb hby at_150) rfl (l' := #[.val (.int p1), .val (.ref b2), .val (.int (5 : Int32)), .val (.ref s5), .val (.int (0 : Int32)), .unset, .unset]) rfl ?_
      show Steps p.tables e below (T602.setTop (mkF m 152 #[.val (.int p1), .val (.ref b2), .val (.int (5 : Int32)), .val (.ref s5), .val (.int (0 : Int32)), .unset, .unset] [])) _
      refine XS.iload X602.here hx rfl (hb hby at_152) rfl ?_
      show Steps p.tables e below (T602.setTop (mkF m 154 #[.val (.int p1), .val (.ref b2), .val (.int (5 : Int32)), .val (.ref s5), .val (.int (0 : Int32)), .unset, .unset] [(.int (0 : Int32))])) _
      refine XS.ifNo X602.here hx rfl (hb hby at_154) rfl ((if0 _ _).trans (teq (rfl : (0 : Int32) = (0 : Int32))).2) ?_
      show Steps p.tables e below (T602.setTop (mkF m 157 #[.val (.int p1), .val (.ref b2), .val (.int (5 : Int32)), .val (.ref s5), .val (.int (0 : Int32)), .unset, .unset] [])) _
      refine XS.iconst X602.here hx rfl (hb hby at_157) ?_
      show Steps p.tables e below (T602.setTop (mkF m 158 #[.val (.int p1), .val (.ref b2), .val (.int (5 : Int32)), .val (.ref s5), .val (.int (0 : Int32)), .unset, .unset] [(.int (1 : Int32))])) _
      refine XS.goto X602.here hx rfl (pc0 := 158) (pc' := 162) rfl (hb hby at_158) (by decide) (by decide) ?_
      show Steps p.tables e below (T602.setTop (mkF m 162 #[.val (.int p1), .val (.ref b2), .val (.int (5 : Int32)), .val (.ref s5), .val (.int (0 : Int32)), .unset, .unset] [(.int (1 : Int32))])) _
      refine XS.istore X602.here hx rfl (hb hby at_162) rfl (l' := #[.val (.int p1), .val (.ref b2), .val (.int (5 : Int32)), .val (.ref s5), .val (.int (0 : Int32)), .val (.int (1 : Int32)), .unset]) rfl ?_
      show Steps p.tables e below (T602.setTop (mkF m 164 #[.val (.int p1), .val (.ref b2), .val (.int (5 : Int32)), .val (.ref s5), .val (.int (0 : Int32)), .val (.int (1 : Int32)), .unset] [])) _
      refine XS.aloadN X602.here hx rfl (hb hby at_164) rfl rfl ?_
      exact k
    obtain ⟨cq605, kq605, q605a, q605b, q605c⟩ := isOf hZ e602 f456
    obtain ⟨_, _, ⟨T605, L605, k605c, n605⟩, -, X605, ⟨Lc605, hQ605, l605, y605, z605⟩, st605⟩ := X602.virtualBack hx (y := (⟨"com/example/eager_path/eagerpath/LocationPath$Axis", "leavesSubtree", "()Z"⟩ : MethodName)) (z := (⟨"com/example/eager_path/eagerpath/LocationPath$Axis", "leavesSubtree", "()Z"⟩ : MethodName)) hown (mvT hZ (hw _ (List.mem_of_getElem? (i := 31) rfl))) (mvT hZ (hw _ (List.mem_of_getElem? (i := 32) rfl))) (notFace_of_selects (args := #[]) (mvT hZ (hw _ (List.mem_of_getElem? (i := 34) rfl)))) (mvT hZ (hw _ (List.mem_of_getElem? (i := 34) rfl))) (mvT hZ (hw _ (List.mem_of_getElem? (i := 33) rfl))) (by decide) (backOf (W := 0) (own_rmls l Z a0 hw [] s5 s2 s4 s5 s8 s9 s10 s11 h444 n0 Z444 f449 f453 f455 f461 f463 f465 f467) hZ (hw _ (List.mem_of_getElem? (i := 35) rfl)) (hw _ (List.mem_of_getElem? (i := 3) rfl)) (by decide) (by decide)) q605a q605c (g := (mkF m 165 #[.val (.int p1), .val (.ref b2), .val (.int (5 : Int32)), .val (.ref s5), .val (.int (0 : Int32)), .val (.int (1 : Int32)), .unset] [(.ref s5)])) rfl (by rw [hml]; rfl) (Steps.refl _) (argsL := []) (rest := []) (lenOf own_pd0 rfl) rfl (by show 2 * 0 + _ ≤ _; exact Nat.le_of_eq rfl) (hb hby at_165) (fun _ _ => ⟨rfl, e602, (by decide : 1 + 0 ≤ _), (by decide : 13 + 0 ≤ _)⟩)
    dsimp only [Pt.U, Pt.locs, Pt.cells, Pt.slots] at X605 l605 y605 z605 st605 hQ605
    subst l605 y605 z605
    have hv605 : (own_vls s5 s2 s4 s5 s8 s9 s10 s11) = (1 : Int32) := ((if_neg (own_ne oO5 oO2 (by decide))).trans ((if_neg (own_ne oO5 oO4 (by decide))).trans (if_pos rfl)))
    obtain ⟨hr605, N605q, e605⟩ := hQ605
    rw [hv605] at hr605
    subst hr605
    have N605 := Fr.app N444 N605q
    have k606 : ∀ t, Steps p.tables e below (T605.setTop (mkF m 168 #[.val (.int p1), .val (.ref b2), .val (.int (5 : Int32)), .val (.ref s5), .val (.int (0 : Int32)), .val (.int (1 : Int32)), .unset] [(.int (1 : Int32))])) t → Steps p.tables e below (s₁.setTop (entryFrame m #[(.int p1)] maxLocals)) t := fun t k => k604 t (st605.trans k)
    have k607 : ∀ t, Steps p.tables e below (T605.setTop (mkF m 180 #[.val (.int p1), .val (.ref b2), .val (.int (5 : Int32)), .val (.ref s5), .val (.int (0 : Int32)), .val (.int (1 : Int32)), .val (.int (1 : Int32))] [(.ref s5)])) t → Steps p.tables e below (s₁.setTop (entryFrame m #[(.int p1)] maxLocals)) t := by
      intro t k
      refine k606 t ?_
      show Steps p.tables e below (T605.setTop (mkF m 168 #[.val (.int p1), .val (.ref b2), .val (.int (5 : Int32)), .val (.ref s5), .val (.int (0 : Int32)), .val (.int (1 : Int32)), .unset] [(.int (1 : Int32))])) _
      refine XS.istore X605.here hx rfl (hb hby at_168) rfl (l' := #[.val (.int p1), .val (.ref b2), .val (.int (5 : Int32)), .val (.ref s5), .val (.int (0 : Int32)), .val (.int (1 : Int32)), .val (.int (1 : Int32))]) rfl ?_
      show Steps p.tables e below (T605.setTop (mkF m 170 #[.val (.int p1), .val (.ref b2), .val (.int (5 : Int32)), .val (.ref s5), .val (.int (0 : Int32)), .val (.int (1 : Int32)), .val (.int (1 : Int32))] [])) _
      refine XS.iload X605.here hx rfl (hb hby at_170) rfl ?_
      show Steps p.tables e below (T605.setTop (mkF m 172 #[.val (.int p1), .val (.ref b2), .val (.int (5 : Int32)), .val (.ref s5), .val (.int (0 : Int32)), .val (.int (1 : Int32)), .val (.int (1 : Int32))] [(.int (1 : Int32))])) _
      refine XS.iload X605.here hx rfl (hb hby at_172) rfl ?_
      show Steps p.tables e below (T605.setTop (mkF m 174 #[.val (.int p1), .val (.ref b2), .val (.int (5 : Int32)), .val (.ref s5), .val (.int (0 : Int32)), .val (.int (1 : Int32)), .val (.int (1 : Int32))] [(.int (1 : Int32)), (.int (1 : Int32))])) _
      refine XS.icmpYes X605.here hx rfl (pc0 := 174) (pc' := 179) rfl (hb hby at_174) rfl (teq (rfl : (1 : Int32) = (1 : Int32))).1 (by decide) (by decide) ?_
      show Steps p.tables e below (T605.setTop (mkF m 179 #[.val (.int p1), .val (.ref b2), .val (.int (5 : Int32)), .val (.ref s5), .val (.int (0 : Int32)), .val (.int (1 : Int32)), .val (.int (1 : Int32))] [])) _
      refine XS.aloadN X605.here hx rfl (hb hby at_179) rfl rfl ?_
      exact k
    obtain ⟨cq608, kq608, q608a, q608b, q608c⟩ := isOf hZ e605 f456
    obtain ⟨_, _, ⟨T608, L608, k608c, n608⟩, -, X608, ⟨Lc608, hQ608, l608, y608, z608⟩, st608⟩ := X605.virtualBack hx (y := (⟨"com/example/eager_path/eagerpath/LocationPath$Axis", "reverse", "()Z"⟩ : MethodName)) (z := (⟨"com/example/eager_path/eagerpath/LocationPath$Axis", "reverse", "()Z"⟩ : MethodName)) hown (mvT hZ (hw _ (List.mem_of_getElem? (i := 43) rfl))) (mvT hZ (hw _ (List.mem_of_getElem? (i := 44) rfl))) (notFace_of_selects (args := #[]) (mvT hZ (hw _ (List.mem_of_getElem? (i := 46) rfl)))) (mvT hZ (hw _ (List.mem_of_getElem? (i := 46) rfl))) (mvT hZ (hw _ (List.mem_of_getElem? (i := 45) rfl))) (by decide) (backOf (W := 0) (own_rmrv l Z a0 hw [] s5 s4 s5 s10 s11 h444 n0 Z444 f453 f455 f465 f467) hZ (hw _ (List.mem_of_getElem? (i := 47) rfl)) (hw _ (List.mem_of_getElem? (i := 3) rfl)) (by decide) (by decide)) q608a q608c (g := (mkF m 180 #[.val (.int p1), .val (.ref b2), .val (.int (5 : Int32)), .val (.ref s5), .val (.int (0 : Int32)), .val (.int (1 : Int32)), .val (.int (1 : Int32))] [(.ref s5)])) rfl (by rw [hml]; rfl) (Steps.refl _) (argsL := []) (rest := []) (lenOf own_pd0 rfl) rfl (by show 2 * 0 + _ ≤ _; exact Nat.le_of_eq rfl) (hb hby at_180) (fun _ _ => ⟨rfl, e605, (by decide : 1 + 0 ≤ _), (by decide : 13 + 0 ≤ _)⟩)
    dsimp only [Pt.U, Pt.locs, Pt.cells, Pt.slots] at X608 l608 y608 z608 st608 hQ608
    subst l608 y608 z608
    have hv608 : (own_vrv s5 s4 s5 s10 s11) = (1 : Int32) := ((if_neg (own_ne oO5 oO4 (by decide))).trans (if_pos rfl))
    obtain ⟨hr608, N608q, e608⟩ := hQ608
    rw [hv608] at hr608
    subst hr608
    have N608 := Fr.app N605 N608q
    have k609 : ∀ t, Steps p.tables e below (T608.setTop (mkF m 183 #[.val (.int p1), .val (.ref b2), .val (.int (5 : Int32)), .val (.ref s5), .val (.int (0 : Int32)), .val (.int (1 : Int32)), .val (.int (1 : Int32))] [(.int (1 : Int32))])) t → Steps p.tables e below (s₁.setTop (entryFrame m #[(.int p1)] maxLocals)) t := fun t k => k607 t (st608.trans k)
    have k610 : ∀ t, Steps p.tables e below (T608.setTop (mkF m 194 #[.val (.int p1), .val (.ref b2), .val (.int (5 : Int32)), .val (.ref s5), .val (.int (0 : Int32)), .val (.int (1 : Int32)), .val (.int (1 : Int32))] [(.int (1 : Int32))])) t → Steps p.tables e below (s₁.setTop (entryFrame m #[(.int p1)] maxLocals)) t := by
      intro t k
      refine k609 t ?_
      show Steps p.tables e below (T608.setTop (mkF m 183 #[.val (.int p1), .val (.ref b2), .val (.int (5 : Int32)), .val (.ref s5), .val (.int (0 : Int32)), .val (.int (1 : Int32)), .val (.int (1 : Int32))] [(.int (1 : Int32))])) _
      refine XS.ifNo X608.here hx rfl (hb hby at_183) rfl ((if0 _ _).trans (feq (by decide : ¬ ((1 : Int32) = (0 : Int32)))).1) ?_
      show Steps p.tables e below (T608.setTop (mkF m 186 #[.val (.int p1), .val (.ref b2), .val (.int (5 : Int32)), .val (.ref s5), .val (.int (0 : Int32)), .val (.int (1 : Int32)), .val (.int (1 : Int32))] [])) _
      refine XS.iload X608.here hx rfl (hb hby at_186) rfl ?_
      show Steps p.tables e below (T608.setTop (mkF m 188 #[.val (.int p1), .val (.ref b2), .val (.int (5 : Int32)), .val (.ref s5), .val (.int (0 : Int32)), .val (.int (1 : Int32)), .val (.int (1 : Int32))] [(.int (1 : Int32))])) _
      refine XS.ifYes X608.here hx rfl (pc0 := 188) (pc' := 193) rfl (hb hby at_188) rfl ((if0 _ _).trans (feq (by decide : ¬ ((1 : Int32) = (0 : Int32)))).2) (by decide) (by decide) ?_
      show Steps p.tables e below (T608.setTop (mkF m 193 #[.val (.int p1), .val (.ref b2), .val (.int (5 : Int32)), .val (.ref s5), .val (.int (0 : Int32)), .val (.int (1 : Int32)), .val (.int (1 : Int32))] [])) _
      refine XS.iconst X608.here hx rfl (hb hby at_193) ?_
      exact k
    obtain ⟨fs, hr, hrun, hended, hW, hsame⟩ := X608.leave (v := (some (.int (1 : Int32)))) (fun h => by rw [Bd.returns] at h; cases h)
    refine ⟨_, _, k610 _ ?_, hrun, hended, _, _, rfl, ?_, ⟨_, rfl⟩, hW, hsame.mono (by decide) (by decide)⟩
    · exact retN X608 hx (t := .boolean) Bd.returns (by simp) (hb hby at_194) hr
    · exact ⟨rfl, N608⟩
  · have k611 : ∀ t, Steps p.tables e below (T444.setTop (mkF m 99 #[.val (.int p1), .val (.ref b2), .val (.int (6 : Int32)), .unset, .unset, .unset, .unset] [])) t → Steps p.tables e below (s₁.setTop (entryFrame m #[(.int p1)] maxLocals)) t := by have z := k472; rw [he] at z; exact z
    obtain ⟨cl612, Ar612, qa612, Sa612, Na612, Ha612, Ga612⟩ := id V444
    have hin613 : ¬ ((6 : Int32) < 0 ∨ cl612.slots.size ≤ ((6 : Int32)).toNatClampNeg) := inb_of Sa612 ⟨by decide, by decide⟩
    have hat614 : cl612.slots[((6 : Int32)).toNatClampNeg]? = some (.ref s6) := Ha612 6 (Nat.lt_of_not_le fun q => hin613 (Or.inr q))
    have k615 : ∀ t, Steps p.tables e below (T444.setTop (mkF m 104 #[.val (.int p1), .val (.ref b2), .val (.int (6 : Int32)), .val (.ref s6), .unset, .unset, .unset] [(.ref s6)])) t → Steps p.tables e below (s₁.setTop (entryFrame m #[(.int p1)] maxLocals)) t := by
      intro t k
      refine k611 t ?_
      show Steps p.tables e below (T444.setTop (mkF m 99 #[.val (.int p1), .val (.ref b2), .val (.int (6 : Int32)), .unset, .unset, .unset, .unset] [])) _
      refine XS.aloadN X444.here hx rfl (hb hby at_99) rfl rfl ?_
      show Steps p.tables e below (T444.setTop (mkF m 100 #[.val (.int p1), .val (.ref b2), .val (.int (6 : Int32)), .unset, .unset, .unset, .unset] [(.ref b2)])) _
      refine XS.iloadN X444.here hx rfl (hb hby at_100) rfl ?_
      show Steps p.tables e below (T444.setTop (mkF m 101 #[.val (.int p1), .val (.ref b2), .val (.int (6 : Int32)), .unset, .unset, .unset, .unset] [(.int (6 : Int32)), (.ref b2)])) _
      refine X444.aaload hx (j := (6 : Int32)) (v := (.ref s6)) (by rw [e444]; exact Ar612.1) (State.isArrayOf_alike hZ.alike Ar612.2.1) rfl Ar612.2.2 hin613 hat614 (g := (mkF m 101 #[.val (.int p1), .val (.ref b2), .val (.int (6 : Int32)), .unset, .unset, .unset, .unset] [(.int (6 : Int32)), (.ref b2)])) rfl rfl (hb hby at_101) _ ?_
      show Steps p.tables e below (T444.setTop (mkF m 102 #[.val (.int p1), .val (.ref b2), .val (.int (6 : Int32)), .unset, .unset, .unset, .unset] [(.ref s6)])) _
      refine XS.astoreN X444.here hx rfl (hb hby at_102) rfl rfl (l' := #[.val (.int p1), .val (.ref b2), .val (.int (6 : Int32)), .val (.ref s6), .unset, .unset, .unset]) rfl ?_
      show Steps p.tables e below (T444.setTop (mkF m 103 #[.val (.int p1), .val (.ref b2), .val (.int (6 : Int32)), .val (.ref s6), .unset, .unset, .unset] [])) _
      refine XS.aloadN X444.here hx rfl (hb hby at_103) rfl rfl ?_
      exact k
    obtain ⟨T616, X616, e616, st616⟩ := getS2 X444 hx hZ hown (host := "") (Or.inl (hw _ (List.mem_of_getElem? (i := 2) rfl))) Via.refl e444 f445 (g := (mkF m 104 #[.val (.int p1), .val (.ref b2), .val (.int (6 : Int32)), .val (.ref s6), .unset, .unset, .unset] [(.ref s6)])) rfl (hb hby at_104)
    have k617 : ∀ t, Steps p.tables e below (T616.setTop (mkF m 107 #[.val (.int p1), .val (.ref b2), .val (.int (6 : Int32)), .val (.ref s6), .unset, .unset, .unset] [(.ref s0), (.ref s6)])) t → Steps p.tables e below (s₁.setTop (entryFrame m #[(.int p1)] maxLocals)) t := fun t k => k615 t (st616 t k)
    have k618 : ∀ t, Steps p.tables e below (T616.setTop (mkF m 111 #[.val (.int p1), .val (.ref b2), .val (.int (6 : Int32)), .val (.ref s6), .unset, .unset, .unset] [(.ref s6)])) t → Steps p.tables e below (s₁.setTop (entryFrame m #[(.int p1)] maxLocals)) t := by
      intro t k
      refine k617 t ?_
      show Steps p.tables e below (T616.setTop (mkF m 107 #[.val (.int p1), .val (.ref b2), .val (.int (6 : Int32)), .val (.ref s6), .unset, .unset, .unset] [(.ref s0), (.ref s6)])) _
      refine Jvm.RoadKit.acmp (g := (mkF m 107 #[.val (.int p1), .val (.ref b2), .val (.int (6 : Int32)), .val (.ref s6), .unset, .unset, .unset] [(.ref s0), (.ref s6)])) X616 hx rfl rfl rfl (pc0 := 107) (pc' := 110) (same := false) rfl (hb hby at_107) rfl (decide_eq_false fun q => (own_ne oO6 oO0 (by decide)) (Value.ref.inj q)) (by decide) (by decide) ?_
      show Steps p.tables e below (T616.setTop (mkF m 110 #[.val (.int p1), .val (.ref b2), .val (.int (6 : Int32)), .val (.ref s6), .unset, .unset, .unset] [])) _
      refine XS.aloadN X616.here hx rfl (hb hby at_110) rfl rfl ?_
      exact k
    obtain ⟨T619, X619, e619, st619⟩ := getS2 X616 hx hZ hown (host := "") (Or.inl (hw _ (List.mem_of_getElem? (i := 6) rfl))) Via.refl e616 f447 (g := (mkF m 111 #[.val (.int p1), .val (.ref b2), .val (.int (6 : Int32)), .val (.ref s6), .unset, .unset, .unset] [(.ref s6)])) rfl (hb hby at_111)
    have k620 : ∀ t, Steps p.tables e below (T619.setTop (mkF m 114 #[.val (.int p1), .val (.ref b2), .val (.int (6 : Int32)), .val (.ref s6), .unset, .unset, .unset] [(.ref s1), (.ref s6)])) t → Steps p.tables e below (s₁.setTop (entryFrame m #[(.int p1)] maxLocals)) t := fun t k => k618 t (st619 t k)
    have k621 : ∀ t, Steps p.tables e below (T619.setTop (mkF m 118 #[.val (.int p1), .val (.ref b2), .val (.int (6 : Int32)), .val (.ref s6), .unset, .unset, .unset] [(.ref s6)])) t → Steps p.tables e below (s₁.setTop (entryFrame m #[(.int p1)] maxLocals)) t := by
      intro t k
      refine k620 t ?_
      show Steps p.tables e below (T619.setTop (mkF m 114 #[.val (.int p1), .val (.ref b2), .val (.int (6 : Int32)), .val (.ref s6), .unset, .unset, .unset] [(.ref s1), (.ref s6)])) _
      refine Jvm.RoadKit.acmp (g := (mkF m 114 #[.val (.int p1), .val (.ref b2), .val (.int (6 : Int32)), .val (.ref s6), .unset, .unset, .unset] [(.ref s1), (.ref s6)])) X619 hx rfl rfl rfl (pc0 := 114) (pc' := 117) (same := false) rfl (hb hby at_114) rfl (decide_eq_false fun q => (own_ne oO6 oO1 (by decide)) (Value.ref.inj q)) (by decide) (by decide) ?_
      show Steps p.tables e below (T619.setTop (mkF m 117 #[.val (.int p1), .val (.ref b2), .val (.int (6 : Int32)), .val (.ref s6), .unset, .unset, .unset] [])) _
      refine XS.aloadN X619.here hx rfl (hb hby at_117) rfl rfl ?_
      exact k
    obtain ⟨T622, X622, e622, st622⟩ := getS2 X619 hx hZ hown (host := "") (Or.inl (hw _ (List.mem_of_getElem? (i := 10) rfl))) Via.refl e619 f451 (g := (mkF m 118 #[.val (.int p1), .val (.ref b2), .val (.int (6 : Int32)), .val (.ref s6), .unset, .unset, .unset] [(.ref s6)])) rfl (hb hby at_118)
    have k623 : ∀ t, Steps p.tables e below (T622.setTop (mkF m 121 #[.val (.int p1), .val (.ref b2), .val (.int (6 : Int32)), .val (.ref s6), .unset, .unset, .unset] [(.ref s3), (.ref s6)])) t → Steps p.tables e below (s₁.setTop (entryFrame m #[(.int p1)] maxLocals)) t := fun t k => k621 t (st622 t k)
    have k624 : ∀ t, Steps p.tables e below (T622.setTop (mkF m 125 #[.val (.int p1), .val (.ref b2), .val (.int (6 : Int32)), .val (.ref s6), .unset, .unset, .unset] [(.ref s6)])) t → Steps p.tables e below (s₁.setTop (entryFrame m #[(.int p1)] maxLocals)) t := by
      intro t k
      refine k623 t ?_
      show Steps p.tables e below (T622.setTop (mkF m 121 #[.val (.int p1), .val (.ref b2), .val (.int (6 : Int32)), .val (.ref s6), .unset, .unset, .unset] [(.ref s3), (.ref s6)])) _
      refine Jvm.RoadKit.acmp (g := (mkF m 121 #[.val (.int p1), .val (.ref b2), .val (.int (6 : Int32)), .val (.ref s6), .unset, .unset, .unset] [(.ref s3), (.ref s6)])) X622 hx rfl rfl rfl (pc0 := 121) (pc' := 124) (same := false) rfl (hb hby at_121) rfl (decide_eq_false fun q => (own_ne oO6 oO3 (by decide)) (Value.ref.inj q)) (by decide) (by decide) ?_
      show Steps p.tables e below (T622.setTop (mkF m 124 #[.val (.int p1), .val (.ref b2), .val (.int (6 : Int32)), .val (.ref s6), .unset, .unset, .unset] [])) _
      refine XS.aloadN X622.here hx rfl (hb hby at_124) rfl rfl ?_
      exact k
    obtain ⟨T625, X625, e625, st625⟩ := getS2 X622 hx hZ hown (host := "") (Or.inl (hw _ (List.mem_of_getElem? (i := 16) rfl))) Via.refl e622 f457 (g := (mkF m 125 #[.val (.int p1), .val (.ref b2), .val (.int (6 : Int32)), .val (.ref s6), .unset, .unset, .unset] [(.ref s6)])) rfl (hb hby at_125)
    have k626 : ∀ t, Steps p.tables e below (T625.setTop (mkF m 128 #[.val (.int p1), .val (.ref b2), .val (.int (6 : Int32)), .val (.ref s6), .unset, .unset, .unset] [(.ref s6), (.ref s6)])) t → Steps p.tables e below (s₁.setTop (entryFrame m #[(.int p1)] maxLocals)) t := fun t k => k624 t (st625 t k)
    have k627 : ∀ t, Steps p.tables e below (T625.setTop (mkF m 165 #[.val (.int p1), .val (.ref b2), .val (.int (6 : Int32)), .val (.ref s6), .val (.int (1 : Int32)), .val (.int (0 : Int32)), .unset] [(.ref s6)])) t → Steps p.tables e below (s₁.setTop (entryFrame m #[(.int p1)] maxLocals)) t := by
      intro t k
      refine k626 t ?_
      show Steps p.tables e below (T625.setTop (mkF m 128 #[.val (.int p1), .val (.ref b2), .val (.int (6 : Int32)), .val (.ref s6), .unset, .unset, .unset] [(.ref s6), (.ref s6)])) _
      refine Jvm.RoadKit.acmp (g := (mkF m 128 #[.val (.int p1), .val (.ref b2), .val (.int (6 : Int32)), .val (.ref s6), .unset, .unset, .unset] [(.ref s6), (.ref s6)])) X625 hx rfl rfl rfl (pc0 := 128) (pc' := 145) (same := true) rfl (hb hby at_128) rfl (decide_eq_true rfl) (by decide) (by decide) ?_
      show Steps p.tables e below (T625.setTop (mkF m 145 #[.val (.int p1), .val (.ref b2), .val (.int (6 : Int32)), .val (.ref s6), .unset, .unset, .unset] [])) _
      refine XS.iconst X625.here hx rfl (hb hby at_145) ?_
      show Steps p.tables e below (T625.setTop (mkF m 146 #[.val (.int p1), .val (.ref b2), .val (.int (6 : Int32)), .val (.ref s6), .unset, .unset, .unset] [(.int (1 : Int32))])) _
      refine XS.goto X625.here hx rfl (pc0 := 146) (pc' := 150) rfl (hb hby at_146) (by decide) (by decide) ?_
      show Steps p.tables e below (T625.setTop (mkF m 150 #[.val (.int p1), .val (.ref b2), .val (.int (6 : Int32)), .val (.ref s6), .unset, .unset, .unset] [(.int (1 : Int32))])) _
      refine XS.istore X625.here hx rfl (hb hby at_150) rfl (l' := #[.val (.int p1), .val (.ref b2), .val (.int (6 : Int32)), .val (.ref s6), .val (.int (1 : Int32)), .unset, .unset]) rfl ?_
      show Steps p.tables e below (T625.setTop (mkF m 152 #[.val (.int p1), .val (.ref b2), .val (.int (6 : Int32)), .val (.ref s6), .val (.int (1 : Int32)), .unset, .unset] [])) _
      refine XS.iload X625.here hx rfl (hb hby at_152) rfl ?_
      show Steps p.tables e below (T625.setTop (mkF m 154 #[.val (.int p1), .val (.ref b2), .val (.int (6 : Int32)), .val (.ref s6), .val (.int (1 : Int32)), .unset, .unset] [(.int (1 : Int32))])) _
      refine XS.ifYes X625.here hx rfl (pc0 := 154) (pc' := 161) rfl (hb hby at_154) rfl ((if0 _ _).trans (feq (by decide : ¬ ((1 : Int32) = (0 : Int32)))).2) (by decide) (by decide) ?_
      show Steps p.tables e below (T625.setTop (mkF m 161 #[.val (.int p1), .val (.ref b2), .val (.int (6 : Int32)), .val (.ref s6), .val (.int (1 : Int32)), .unset, .unset] [])) _
      refine XS.iconst X625.here hx rfl (hb hby at_161) ?_
      show Steps p.tables e below (T625.setTop (mkF m 162 #[.val (.int p1), .val (.ref b2), .val (.int (6 : Int32)), .val (.ref s6), .val (.int (1 : Int32)), .unset, .unset] [(.int (0 : Int32))])) _
      refine XS.istore X625.here hx rfl (hb hby at_162) rfl (l' := #[.val (.int p1), .val (.ref b2), .val (.int (6 : Int32)), .val (.ref s6), .val (.int (1 : Int32)), .val (.int (0 : Int32)), .unset]) rfl ?_
      show Steps p.tables e below (T625.setTop (mkF m 164 #[.val (.int p1), .val (.ref b2), .val (.int (6 : Int32)), .val (.ref s6), .val (.int (1 : Int32)), .val (.int (0 : Int32)), .unset] [])) _
      refine XS.aloadN X625.here hx rfl (hb hby at_164) rfl rfl ?_
      exact k
    obtain ⟨cq628, kq628, q628a, q628b, q628c⟩ := isOf hZ e625 f458
    obtain ⟨_, _, ⟨T628, L628, k628c, n628⟩, -, X628, ⟨Lc628, hQ628, l628, y628, z628⟩, st628⟩ := X625.virtualBack hx (y := (⟨"com/example/eager_path/eagerpath/LocationPath$Axis", "leavesSubtree", "()Z"⟩ : MethodName)) (z := (⟨"com/example/eager_path/eagerpath/LocationPath$Axis", "leavesSubtree", "()Z"⟩ : MethodName)) hown (mvT hZ (hw _ (List.mem_of_getElem? (i := 31) rfl))) (mvT hZ (hw _ (List.mem_of_getElem? (i := 32) rfl))) (notFace_of_selects (args := #[]) (mvT hZ (hw _ (List.mem_of_getElem? (i := 34) rfl)))) (mvT hZ (hw _ (List.mem_of_getElem? (i := 34) rfl))) (mvT hZ (hw _ (List.mem_of_getElem? (i := 33) rfl))) (by decide) (backOf (W := 0) (own_rmls l Z a0 hw [] s6 s2 s4 s5 s8 s9 s10 s11 h444 n0 Z444 f449 f453 f455 f461 f463 f465 f467) hZ (hw _ (List.mem_of_getElem? (i := 35) rfl)) (hw _ (List.mem_of_getElem? (i := 3) rfl)) (by decide) (by decide)) q628a q628c (g := (mkF m 165 #[.val (.int p1), .val (.ref b2), .val (.int (6 : Int32)), .val (.ref s6), .val (.int (1 : Int32)), .val (.int (0 : Int32)), .unset] [(.ref s6)])) rfl (by rw [hml]; rfl) (Steps.refl _) (argsL := []) (rest := []) (lenOf own_pd0 rfl) rfl (by show 2 * 0 + _ ≤ _; exact Nat.le_of_eq rfl) (hb hby at_165) (fun _ _ => ⟨rfl, e625, (by decide : 1 + 0 ≤ _), (by decide : 13 + 0 ≤ _)⟩)
    dsimp only [Pt.U, Pt.locs, Pt.cells, Pt.slots] at X628 l628 y628 z628 st628 hQ628
    subst l628 y628 z628
    have hv628 : (own_vls s6 s2 s4 s5 s8 s9 s10 s11) = (0 : Int32) := ((if_neg (own_ne oO6 oO2 (by decide))).trans ((if_neg (own_ne oO6 oO4 (by decide))).trans ((if_neg (own_ne oO6 oO5 (by decide))).trans ((if_neg (own_ne oO6 oO8 (by decide))).trans ((if_neg (own_ne oO6 oO9 (by decide))).trans ((if_neg (own_ne oO6 oO10 (by decide))).trans (if_neg (own_ne oO6 oO11 (by decide)))))))))
    obtain ⟨hr628, N628q, e628⟩ := hQ628
    rw [hv628] at hr628
    subst hr628
    have N628 := Fr.app N444 N628q
    have k629 : ∀ t, Steps p.tables e below (T628.setTop (mkF m 168 #[.val (.int p1), .val (.ref b2), .val (.int (6 : Int32)), .val (.ref s6), .val (.int (1 : Int32)), .val (.int (0 : Int32)), .unset] [(.int (0 : Int32))])) t → Steps p.tables e below (s₁.setTop (entryFrame m #[(.int p1)] maxLocals)) t := fun t k => k627 t (st628.trans k)
    have k630 : ∀ t, Steps p.tables e below (T628.setTop (mkF m 180 #[.val (.int p1), .val (.ref b2), .val (.int (6 : Int32)), .val (.ref s6), .val (.int (1 : Int32)), .val (.int (0 : Int32)), .val (.int (0 : Int32))] [(.ref s6)])) t → Steps p.tables e below (s₁.setTop (entryFrame m #[(.int p1)] maxLocals)) t := by
      intro t k
      refine k629 t ?_
      show Steps p.tables e below (T628.setTop (mkF m 168 #[.val (.int p1), .val (.ref b2), .val (.int (6 : Int32)), .val (.ref s6), .val (.int (1 : Int32)), .val (.int (0 : Int32)), .unset] [(.int (0 : Int32))])) _
      refine XS.istore X628.here hx rfl (hb hby at_168) rfl (l' := #[.val (.int p1), .val (.ref b2), .val (.int (6 : Int32)), .val (.ref s6), .val (.int (1 : Int32)), .val (.int (0 : Int32)), .val (.int (0 : Int32))]) rfl ?_
      show Steps p.tables e below (T628.setTop (mkF m 170 #[.val (.int p1), .val (.ref b2), .val (.int (6 : Int32)), .val (.ref s6), .val (.int (1 : Int32)), .val (.int (0 : Int32)), .val (.int (0 : Int32))] [])) _
      refine XS.iload X628.here hx rfl (hb hby at_170) rfl ?_
      show Steps p.tables e below (T628.setTop (mkF m 172 #[.val (.int p1), .val (.ref b2), .val (.int (6 : Int32)), .val (.ref s6), .val (.int (1 : Int32)), .val (.int (0 : Int32)), .val (.int (0 : Int32))] [(.int (0 : Int32))])) _
      refine XS.iload X628.here hx rfl (hb hby at_172) rfl ?_
      show Steps p.tables e below (T628.setTop (mkF m 174 #[.val (.int p1), .val (.ref b2), .val (.int (6 : Int32)), .val (.ref s6), .val (.int (1 : Int32)), .val (.int (0 : Int32)), .val (.int (0 : Int32))] [(.int (0 : Int32)), (.int (0 : Int32))])) _
      refine XS.icmpYes X628.here hx rfl (pc0 := 174) (pc' := 179) rfl (hb hby at_174) rfl (teq (rfl : (0 : Int32) = (0 : Int32))).1 (by decide) (by decide) ?_
      show Steps p.tables e below (T628.setTop (mkF m 179 #[.val (.int p1), .val (.ref b2), .val (.int (6 : Int32)), .val (.ref s6), .val (.int (1 : Int32)), .val (.int (0 : Int32)), .val (.int (0 : Int32))] [])) _
      refine XS.aloadN X628.here hx rfl (hb hby at_179) rfl rfl ?_
      exact k
    obtain ⟨cq631, kq631, q631a, q631b, q631c⟩ := isOf hZ e628 f458
    obtain ⟨_, _, ⟨T631, L631, k631c, n631⟩, -, X631, ⟨Lc631, hQ631, l631, y631, z631⟩, st631⟩ := X628.virtualBack hx (y := (⟨"com/example/eager_path/eagerpath/LocationPath$Axis", "reverse", "()Z"⟩ : MethodName)) (z := (⟨"com/example/eager_path/eagerpath/LocationPath$Axis", "reverse", "()Z"⟩ : MethodName)) hown (mvT hZ (hw _ (List.mem_of_getElem? (i := 43) rfl))) (mvT hZ (hw _ (List.mem_of_getElem? (i := 44) rfl))) (notFace_of_selects (args := #[]) (mvT hZ (hw _ (List.mem_of_getElem? (i := 46) rfl)))) (mvT hZ (hw _ (List.mem_of_getElem? (i := 46) rfl))) (mvT hZ (hw _ (List.mem_of_getElem? (i := 45) rfl))) (by decide) (backOf (W := 0) (own_rmrv l Z a0 hw [] s6 s4 s5 s10 s11 h444 n0 Z444 f453 f455 f465 f467) hZ (hw _ (List.mem_of_getElem? (i := 47) rfl)) (hw _ (List.mem_of_getElem? (i := 3) rfl)) (by decide) (by decide)) q631a q631c (g := (mkF m 180 #[.val (.int p1), .val (.ref b2), .val (.int (6 : Int32)), .val (.ref s6), .val (.int (1 : Int32)), .val (.int (0 : Int32)), .val (.int (0 : Int32))] [(.ref s6)])) rfl (by rw [hml]; rfl) (Steps.refl _) (argsL := []) (rest := []) (lenOf own_pd0 rfl) rfl (by show 2 * 0 + _ ≤ _; exact Nat.le_of_eq rfl) (hb hby at_180) (fun _ _ => ⟨rfl, e628, (by decide : 1 + 0 ≤ _), (by decide : 13 + 0 ≤ _)⟩)
    dsimp only [Pt.U, Pt.locs, Pt.cells, Pt.slots] at X631 l631 y631 z631 st631 hQ631
    subst l631 y631 z631
    have hv631 : (own_vrv s6 s4 s5 s10 s11) = (0 : Int32) := ((if_neg (own_ne oO6 oO4 (by decide))).trans ((if_neg (own_ne oO6 oO5 (by decide))).trans ((if_neg (own_ne oO6 oO10 (by decide))).trans (if_neg (own_ne oO6 oO11 (by decide))))))
    obtain ⟨hr631, N631q, e631⟩ := hQ631
    rw [hv631] at hr631
    subst hr631
    have N631 := Fr.app N628 N631q
    have k632 : ∀ t, Steps p.tables e below (T631.setTop (mkF m 183 #[.val (.int p1), .val (.ref b2), .val (.int (6 : Int32)), .val (.ref s6), .val (.int (1 : Int32)), .val (.int (0 : Int32)), .val (.int (0 : Int32))] [(.int (0 : Int32))])) t → Steps p.tables e below (s₁.setTop (entryFrame m #[(.int p1)] maxLocals)) t := fun t k => k630 t (st631.trans k)
    have k633 : ∀ t, Steps p.tables e below (T631.setTop (mkF m 194 #[.val (.int p1), .val (.ref b2), .val (.int (6 : Int32)), .val (.ref s6), .val (.int (1 : Int32)), .val (.int (0 : Int32)), .val (.int (0 : Int32))] [(.int (1 : Int32))])) t → Steps p.tables e below (s₁.setTop (entryFrame m #[(.int p1)] maxLocals)) t := by
      intro t k
      refine k632 t ?_
      show Steps p.tables e below (T631.setTop (mkF m 183 #[.val (.int p1), .val (.ref b2), .val (.int (6 : Int32)), .val (.ref s6), .val (.int (1 : Int32)), .val (.int (0 : Int32)), .val (.int (0 : Int32))] [(.int (0 : Int32))])) _
      refine XS.ifYes X631.here hx rfl (pc0 := 183) (pc' := 193) rfl (hb hby at_183) rfl ((if0 _ _).trans (teq (rfl : (0 : Int32) = (0 : Int32))).1) (by decide) (by decide) ?_
      show Steps p.tables e below (T631.setTop (mkF m 193 #[.val (.int p1), .val (.ref b2), .val (.int (6 : Int32)), .val (.ref s6), .val (.int (1 : Int32)), .val (.int (0 : Int32)), .val (.int (0 : Int32))] [])) _
      refine XS.iconst X631.here hx rfl (hb hby at_193) ?_
      exact k
    obtain ⟨fs, hr, hrun, hended, hW, hsame⟩ := X631.leave (v := (some (.int (1 : Int32)))) (fun h => by rw [Bd.returns] at h; cases h)
    refine ⟨_, _, k633 _ ?_, hrun, hended, _, _, rfl, ?_, ⟨_, rfl⟩, hW, hsame.mono (by decide) (by decide)⟩
    · exact retN X631 hx (t := .boolean) Bd.returns (by simp) (hb hby at_194) hr
    · exact ⟨rfl, N631⟩
  · have k634 : ∀ t, Steps p.tables e below (T444.setTop (mkF m 99 #[.val (.int p1), .val (.ref b2), .val (.int (7 : Int32)), .unset, .unset, .unset, .unset] [])) t → Steps p.tables e below (s₁.setTop (entryFrame m #[(.int p1)] maxLocals)) t := by have z := k472; rw [he] at z; exact z
    obtain ⟨cl635, Ar635, qa635, Sa635, Na635, Ha635, Ga635⟩ := id V444
    have hin636 : ¬ ((7 : Int32) < 0 ∨ cl635.slots.size ≤ ((7 : Int32)).toNatClampNeg) := inb_of Sa635 ⟨by decide, by decide⟩
    have hat637 : cl635.slots[((7 : Int32)).toNatClampNeg]? = some (.ref s7) := Ha635 7 (Nat.lt_of_not_le fun q => hin636 (Or.inr q))
    have k638 : ∀ t, Steps p.tables e below (T444.setTop (mkF m 104 #[.val (.int p1), .val (.ref b2), .val (.int (7 : Int32)), .val (.ref s7), .unset, .unset, .unset] [(.ref s7)])) t → Steps p.tables e below (s₁.setTop (entryFrame m #[(.int p1)] maxLocals)) t := by
      intro t k
      refine k634 t ?_
      show Steps p.tables e below (T444.setTop (mkF m 99 #[.val (.int p1), .val (.ref b2), .val (.int (7 : Int32)), .unset, .unset, .unset, .unset] [])) _
      refine XS.aloadN X444.here hx rfl (hb hby at_99) rfl rfl ?_
      show Steps p.tables e below (T444.setTop (mkF m 100 #[.val (.int p1), .val (.ref b2), .val (.int (7 : Int32)), .unset, .unset, .unset, .unset] [(.ref b2)])) _
      refine XS.iloadN X444.here hx rfl (hb hby at_100) rfl ?_
      show Steps p.tables e below (T444.setTop (mkF m 101 #[.val (.int p1), .val (.ref b2), .val (.int (7 : Int32)), .unset, .unset, .unset, .unset] [(.int (7 : Int32)), (.ref b2)])) _
      refine X444.aaload hx (j := (7 : Int32)) (v := (.ref s7)) (by rw [e444]; exact Ar635.1) (State.isArrayOf_alike hZ.alike Ar635.2.1) rfl Ar635.2.2 hin636 hat637 (g := (mkF m 101 #[.val (.int p1), .val (.ref b2), .val (.int (7 : Int32)), .unset, .unset, .unset, .unset] [(.int (7 : Int32)), (.ref b2)])) rfl rfl (hb hby at_101) _ ?_
      show Steps p.tables e below (T444.setTop (mkF m 102 #[.val (.int p1), .val (.ref b2), .val (.int (7 : Int32)), .unset, .unset, .unset, .unset] [(.ref s7)])) _
      refine XS.astoreN X444.here hx rfl (hb hby at_102) rfl rfl (l' := #[.val (.int p1), .val (.ref b2), .val (.int (7 : Int32)), .val (.ref s7), .unset, .unset, .unset]) rfl ?_
      show Steps p.tables e below (T444.setTop (mkF m 103 #[.val (.int p1), .val (.ref b2), .val (.int (7 : Int32)), .val (.ref s7), .unset, .unset, .unset] [])) _
      refine XS.aloadN X444.here hx rfl (hb hby at_103) rfl rfl ?_
      exact k
    obtain ⟨T639, X639, e639, st639⟩ := getS2 X444 hx hZ hown (host := "") (Or.inl (hw _ (List.mem_of_getElem? (i := 2) rfl))) Via.refl e444 f445 (g := (mkF m 104 #[.val (.int p1), .val (.ref b2), .val (.int (7 : Int32)), .val (.ref s7), .unset, .unset, .unset] [(.ref s7)])) rfl (hb hby at_104)
    have k640 : ∀ t, Steps p.tables e below (T639.setTop (mkF m 107 #[.val (.int p1), .val (.ref b2), .val (.int (7 : Int32)), .val (.ref s7), .unset, .unset, .unset] [(.ref s0), (.ref s7)])) t → Steps p.tables e below (s₁.setTop (entryFrame m #[(.int p1)] maxLocals)) t := fun t k => k638 t (st639 t k)
    have k641 : ∀ t, Steps p.tables e below (T639.setTop (mkF m 111 #[.val (.int p1), .val (.ref b2), .val (.int (7 : Int32)), .val (.ref s7), .unset, .unset, .unset] [(.ref s7)])) t → Steps p.tables e below (s₁.setTop (entryFrame m #[(.int p1)] maxLocals)) t := by
      intro t k
      refine k640 t ?_
      show Steps p.tables e below (T639.setTop (mkF m 107 #[.val (.int p1), .val (.ref b2), .val (.int (7 : Int32)), .val (.ref s7), .unset, .unset, .unset] [(.ref s0), (.ref s7)])) _
      refine Jvm.RoadKit.acmp (g := (mkF m 107 #[.val (.int p1), .val (.ref b2), .val (.int (7 : Int32)), .val (.ref s7), .unset, .unset, .unset] [(.ref s0), (.ref s7)])) X639 hx rfl rfl rfl (pc0 := 107) (pc' := 110) (same := false) rfl (hb hby at_107) rfl (decide_eq_false fun q => (own_ne oO7 oO0 (by decide)) (Value.ref.inj q)) (by decide) (by decide) ?_
      show Steps p.tables e below (T639.setTop (mkF m 110 #[.val (.int p1), .val (.ref b2), .val (.int (7 : Int32)), .val (.ref s7), .unset, .unset, .unset] [])) _
      refine XS.aloadN X639.here hx rfl (hb hby at_110) rfl rfl ?_
      exact k
    obtain ⟨T642, X642, e642, st642⟩ := getS2 X639 hx hZ hown (host := "") (Or.inl (hw _ (List.mem_of_getElem? (i := 6) rfl))) Via.refl e639 f447 (g := (mkF m 111 #[.val (.int p1), .val (.ref b2), .val (.int (7 : Int32)), .val (.ref s7), .unset, .unset, .unset] [(.ref s7)])) rfl (hb hby at_111)
    have k643 : ∀ t, Steps p.tables e below (T642.setTop (mkF m 114 #[.val (.int p1), .val (.ref b2), .val (.int (7 : Int32)), .val (.ref s7), .unset, .unset, .unset] [(.ref s1), (.ref s7)])) t → Steps p.tables e below (s₁.setTop (entryFrame m #[(.int p1)] maxLocals)) t := fun t k => k641 t (st642 t k)
    have k644 : ∀ t, Steps p.tables e below (T642.setTop (mkF m 118 #[.val (.int p1), .val (.ref b2), .val (.int (7 : Int32)), .val (.ref s7), .unset, .unset, .unset] [(.ref s7)])) t → Steps p.tables e below (s₁.setTop (entryFrame m #[(.int p1)] maxLocals)) t := by
      intro t k
      refine k643 t ?_
      show Steps p.tables e below (T642.setTop (mkF m 114 #[.val (.int p1), .val (.ref b2), .val (.int (7 : Int32)), .val (.ref s7), .unset, .unset, .unset] [(.ref s1), (.ref s7)])) _
      refine Jvm.RoadKit.acmp (g := (mkF m 114 #[.val (.int p1), .val (.ref b2), .val (.int (7 : Int32)), .val (.ref s7), .unset, .unset, .unset] [(.ref s1), (.ref s7)])) X642 hx rfl rfl rfl (pc0 := 114) (pc' := 117) (same := false) rfl (hb hby at_114) rfl (decide_eq_false fun q => (own_ne oO7 oO1 (by decide)) (Value.ref.inj q)) (by decide) (by decide) ?_
      show Steps p.tables e below (T642.setTop (mkF m 117 #[.val (.int p1), .val (.ref b2), .val (.int (7 : Int32)), .val (.ref s7), .unset, .unset, .unset] [])) _
      refine XS.aloadN X642.here hx rfl (hb hby at_117) rfl rfl ?_
      exact k
    obtain ⟨T645, X645, e645, st645⟩ := getS2 X642 hx hZ hown (host := "") (Or.inl (hw _ (List.mem_of_getElem? (i := 10) rfl))) Via.refl e642 f451 (g := (mkF m 118 #[.val (.int p1), .val (.ref b2), .val (.int (7 : Int32)), .val (.ref s7), .unset, .unset, .unset] [(.ref s7)])) rfl (hb hby at_118)
    have k646 : ∀ t, Steps p.tables e below (T645.setTop (mkF m 121 #[.val (.int p1), .val (.ref b2), .val (.int (7 : Int32)), .val (.ref s7), .unset, .unset, .unset] [(.ref s3), (.ref s7)])) t → Steps p.tables e below (s₁.setTop (entryFrame m #[(.int p1)] maxLocals)) t := fun t k => k644 t (st645 t k)
    have k647 : ∀ t, Steps p.tables e below (T645.setTop (mkF m 125 #[.val (.int p1), .val (.ref b2), .val (.int (7 : Int32)), .val (.ref s7), .unset, .unset, .unset] [(.ref s7)])) t → Steps p.tables e below (s₁.setTop (entryFrame m #[(.int p1)] maxLocals)) t := by
      intro t k
      refine k646 t ?_
      show Steps p.tables e below (T645.setTop (mkF m 121 #[.val (.int p1), .val (.ref b2), .val (.int (7 : Int32)), .val (.ref s7), .unset, .unset, .unset] [(.ref s3), (.ref s7)])) _
      refine Jvm.RoadKit.acmp (g := (mkF m 121 #[.val (.int p1), .val (.ref b2), .val (.int (7 : Int32)), .val (.ref s7), .unset, .unset, .unset] [(.ref s3), (.ref s7)])) X645 hx rfl rfl rfl (pc0 := 121) (pc' := 124) (same := false) rfl (hb hby at_121) rfl (decide_eq_false fun q => (own_ne oO7 oO3 (by decide)) (Value.ref.inj q)) (by decide) (by decide) ?_
      show Steps p.tables e below (T645.setTop (mkF m 124 #[.val (.int p1), .val (.ref b2), .val (.int (7 : Int32)), .val (.ref s7), .unset, .unset, .unset] [])) _
      refine XS.aloadN X645.here hx rfl (hb hby at_124) rfl rfl ?_
      exact k
    obtain ⟨T648, X648, e648, st648⟩ := getS2 X645 hx hZ hown (host := "") (Or.inl (hw _ (List.mem_of_getElem? (i := 16) rfl))) Via.refl e645 f457 (g := (mkF m 125 #[.val (.int p1), .val (.ref b2), .val (.int (7 : Int32)), .val (.ref s7), .unset, .unset, .unset] [(.ref s7)])) rfl (hb hby at_125)
    have k649 : ∀ t, Steps p.tables e below (T648.setTop (mkF m 128 #[.val (.int p1), .val (.ref b2), .val (.int (7 : Int32)), .val (.ref s7), .unset, .unset, .unset] [(.ref s6), (.ref s7)])) t → Steps p.tables e below (s₁.setTop (entryFrame m #[(.int p1)] maxLocals)) t := fun t k => k647 t (st648 t k)
    have k650 : ∀ t, Steps p.tables e below (T648.setTop (mkF m 132 #[.val (.int p1), .val (.ref b2), .val (.int (7 : Int32)), .val (.ref s7), .unset, .unset, .unset] [(.ref s7)])) t → Steps p.tables e below (s₁.setTop (entryFrame m #[(.int p1)] maxLocals)) t := by
      intro t k
      refine k649 t ?_
      show Steps p.tables e below (T648.setTop (mkF m 128 #[.val (.int p1), .val (.ref b2), .val (.int (7 : Int32)), .val (.ref s7), .unset, .unset, .unset] [(.ref s6), (.ref s7)])) _
      refine Jvm.RoadKit.acmp (g := (mkF m 128 #[.val (.int p1), .val (.ref b2), .val (.int (7 : Int32)), .val (.ref s7), .unset, .unset, .unset] [(.ref s6), (.ref s7)])) X648 hx rfl rfl rfl (pc0 := 128) (pc' := 131) (same := false) rfl (hb hby at_128) rfl (decide_eq_false fun q => (own_ne oO7 oO6 (by decide)) (Value.ref.inj q)) (by decide) (by decide) ?_
      show Steps p.tables e below (T648.setTop (mkF m 131 #[.val (.int p1), .val (.ref b2), .val (.int (7 : Int32)), .val (.ref s7), .unset, .unset, .unset] [])) _
      refine XS.aloadN X648.here hx rfl (hb hby at_131) rfl rfl ?_
      exact k
    obtain ⟨T651, X651, e651, st651⟩ := getS2 X648 hx hZ hown (host := "") (Or.inl (hw _ (List.mem_of_getElem? (i := 18) rfl))) Via.refl e648 f459 (g := (mkF m 132 #[.val (.int p1), .val (.ref b2), .val (.int (7 : Int32)), .val (.ref s7), .unset, .unset, .unset] [(.ref s7)])) rfl (hb hby at_132)
    have k652 : ∀ t, Steps p.tables e below (T651.setTop (mkF m 135 #[.val (.int p1), .val (.ref b2), .val (.int (7 : Int32)), .val (.ref s7), .unset, .unset, .unset] [(.ref s7), (.ref s7)])) t → Steps p.tables e below (s₁.setTop (entryFrame m #[(.int p1)] maxLocals)) t := fun t k => k650 t (st651 t k)
    have k653 : ∀ t, Steps p.tables e below (T651.setTop (mkF m 165 #[.val (.int p1), .val (.ref b2), .val (.int (7 : Int32)), .val (.ref s7), .val (.int (1 : Int32)), .val (.int (0 : Int32)), .unset] [(.ref s7)])) t → Steps p.tables e below (s₁.setTop (entryFrame m #[(.int p1)] maxLocals)) t := by
      intro t k
      refine k652 t ?_
      show Steps p.tables e below (T651.setTop (mkF m 135 #[.val (.int p1), .val (.ref b2), .val (.int (7 : Int32)), .val (.ref s7), .unset, .unset, .unset] [(.ref s7), (.ref s7)])) _
      refine Jvm.RoadKit.acmp (g := (mkF m 135 #[.val (.int p1), .val (.ref b2), .val (.int (7 : Int32)), .val (.ref s7), .unset, .unset, .unset] [(.ref s7), (.ref s7)])) X651 hx rfl rfl rfl (pc0 := 135) (pc' := 145) (same := true) rfl (hb hby at_135) rfl (decide_eq_true rfl) (by decide) (by decide) ?_
      show Steps p.tables e below (T651.setTop (mkF m 145 #[.val (.int p1), .val (.ref b2), .val (.int (7 : Int32)), .val (.ref s7), .unset, .unset, .unset] [])) _
      refine XS.iconst X651.here hx rfl (hb hby at_145) ?_
      show Steps p.tables e below (T651.setTop (mkF m 146 #[.val (.int p1), .val (.ref b2), .val (.int (7 : Int32)), .val (.ref s7), .unset, .unset, .unset] [(.int (1 : Int32))])) _
      refine XS.goto X651.here hx rfl (pc0 := 146) (pc' := 150) rfl (hb hby at_146) (by decide) (by decide) ?_
      show Steps p.tables e below (T651.setTop (mkF m 150 #[.val (.int p1), .val (.ref b2), .val (.int (7 : Int32)), .val (.ref s7), .unset, .unset, .unset] [(.int (1 : Int32))])) _
      refine XS.istore X651.here hx rfl (hb hby at_150) rfl (l' := #[.val (.int p1), .val (.ref b2), .val (.int (7 : Int32)), .val (.ref s7), .val (.int (1 : Int32)), .unset, .unset]) rfl ?_
      show Steps p.tables e below (T651.setTop (mkF m 152 #[.val (.int p1), .val (.ref b2), .val (.int (7 : Int32)), .val (.ref s7), .val (.int (1 : Int32)), .unset, .unset] [])) _
      refine XS.iload X651.here hx rfl (hb hby at_152) rfl ?_
      show Steps p.tables e below (T651.setTop (mkF m 154 #[.val (.int p1), .val (.ref b2), .val (.int (7 : Int32)), .val (.ref s7), .val (.int (1 : Int32)), .unset, .unset] [(.int (1 : Int32))])) _
      refine XS.ifYes X651.here hx rfl (pc0 := 154) (pc' := 161) rfl (hb hby at_154) rfl ((if0 _ _).trans (feq (by decide : ¬ ((1 : Int32) = (0 : Int32)))).2) (by decide) (by decide) ?_
      show Steps p.tables e below (T651.setTop (mkF m 161 #[.val (.int p1), .val (.ref b2), .val (.int (7 : Int32)), .val (.ref s7), .val (.int (1 : Int32)), .unset, .unset] [])) _
      refine XS.iconst X651.here hx rfl (hb hby at_161) ?_
      show Steps p.tables e below (T651.setTop (mkF m 162 #[.val (.int p1), .val (.ref b2), .val (.int (7 : Int32)), .val (.ref s7), .val (.int (1 : Int32)), .unset, .unset] [(.int (0 : Int32))])) _
      refine XS.istore X651.here hx rfl (hb hby at_162) rfl (l' := #[.val (.int p1), .val (.ref b2), .val (.int (7 : Int32)), .val (.ref s7), .val (.int (1 : Int32)), .val (.int (0 : Int32)), .unset]) rfl ?_
      show Steps p.tables e below (T651.setTop (mkF m 164 #[.val (.int p1), .val (.ref b2), .val (.int (7 : Int32)), .val (.ref s7), .val (.int (1 : Int32)), .val (.int (0 : Int32)), .unset] [])) _
      refine XS.aloadN X651.here hx rfl (hb hby at_164) rfl rfl ?_
      exact k
    obtain ⟨cq654, kq654, q654a, q654b, q654c⟩ := isOf hZ e651 f460
    obtain ⟨_, _, ⟨T654, L654, k654c, n654⟩, -, X654, ⟨Lc654, hQ654, l654, y654, z654⟩, st654⟩ := X651.virtualBack hx (y := (⟨"com/example/eager_path/eagerpath/LocationPath$Axis", "leavesSubtree", "()Z"⟩ : MethodName)) (z := (⟨"com/example/eager_path/eagerpath/LocationPath$Axis", "leavesSubtree", "()Z"⟩ : MethodName)) hown (mvT hZ (hw _ (List.mem_of_getElem? (i := 31) rfl))) (mvT hZ (hw _ (List.mem_of_getElem? (i := 32) rfl))) (notFace_of_selects (args := #[]) (mvT hZ (hw _ (List.mem_of_getElem? (i := 34) rfl)))) (mvT hZ (hw _ (List.mem_of_getElem? (i := 34) rfl))) (mvT hZ (hw _ (List.mem_of_getElem? (i := 33) rfl))) (by decide) (backOf (W := 0) (own_rmls l Z a0 hw [] s7 s2 s4 s5 s8 s9 s10 s11 h444 n0 Z444 f449 f453 f455 f461 f463 f465 f467) hZ (hw _ (List.mem_of_getElem? (i := 35) rfl)) (hw _ (List.mem_of_getElem? (i := 3) rfl)) (by decide) (by decide)) q654a q654c (g := (mkF m 165 #[.val (.int p1), .val (.ref b2), .val (.int (7 : Int32)), .val (.ref s7), .val (.int (1 : Int32)), .val (.int (0 : Int32)), .unset] [(.ref s7)])) rfl (by rw [hml]; rfl) (Steps.refl _) (argsL := []) (rest := []) (lenOf own_pd0 rfl) rfl (by show 2 * 0 + _ ≤ _; exact Nat.le_of_eq rfl) (hb hby at_165) (fun _ _ => ⟨rfl, e651, (by decide : 1 + 0 ≤ _), (by decide : 13 + 0 ≤ _)⟩)
    dsimp only [Pt.U, Pt.locs, Pt.cells, Pt.slots] at X654 l654 y654 z654 st654 hQ654
    subst l654 y654 z654
    have hv654 : (own_vls s7 s2 s4 s5 s8 s9 s10 s11) = (0 : Int32) := ((if_neg (own_ne oO7 oO2 (by decide))).trans ((if_neg (own_ne oO7 oO4 (by decide))).trans ((if_neg (own_ne oO7 oO5 (by decide))).trans ((if_neg (own_ne oO7 oO8 (by decide))).trans ((if_neg (own_ne oO7 oO9 (by decide))).trans ((if_neg (own_ne oO7 oO10 (by decide))).trans (if_neg (own_ne oO7 oO11 (by decide)))))))))
    obtain ⟨hr654, N654q, e654⟩ := hQ654
    rw [hv654] at hr654
    subst hr654
    have N654 := Fr.app N444 N654q
    have k655 : ∀ t, Steps p.tables e below (T654.setTop (mkF m 168 #[.val (.int p1), .val (.ref b2), .val (.int (7 : Int32)), .val (.ref s7), .val (.int (1 : Int32)), .val (.int (0 : Int32)), .unset] [(.int (0 : Int32))])) t → Steps p.tables e below (s₁.setTop (entryFrame m #[(.int p1)] maxLocals)) t := fun t k => k653 t (st654.trans k)
    have k656 : ∀ t, Steps p.tables e below (T654.setTop (mkF m 180 #[.val (.int p1), .val (.ref b2), .val (.int (7 : Int32)), .val (.ref s7), .val (.int (1 : Int32)), .val (.int (0 : Int32)), .val (.int (0 : Int32))] [(.ref s7)])) t → Steps p.tables e below (s₁.setTop (entryFrame m #[(.int p1)] maxLocals)) t := by
      intro t k
      refine k655 t ?_
      show Steps p.tables e below (T654.setTop (mkF m 168 #[.val (.int p1), .val (.ref b2), .val (.int (7 : Int32)), .val (.ref s7), .val (.int (1 : Int32)), .val (.int (0 : Int32)), .unset] [(.int (0 : Int32))])) _
      refine XS.istore X654.here hx rfl (hb hby at_168) rfl (l' := #[.val (.int p1), .val (.ref b2), .val (.int (7 : Int32)), .val (.ref s7), .val (.int (1 : Int32)), .val (.int (0 : Int32)), .val (.int (0 : Int32))]) rfl ?_
      show Steps p.tables e below (T654.setTop (mkF m 170 #[.val (.int p1), .val (.ref b2), .val (.int (7 : Int32)), .val (.ref s7), .val (.int (1 : Int32)), .val (.int (0 : Int32)), .val (.int (0 : Int32))] [])) _
      refine XS.iload X654.here hx rfl (hb hby at_170) rfl ?_
      show Steps p.tables e below (T654.setTop (mkF m 172 #[.val (.int p1), .val (.ref b2), .val (.int (7 : Int32)), .val (.ref s7), .val (.int (1 : Int32)), .val (.int (0 : Int32)), .val (.int (0 : Int32))] [(.int (0 : Int32))])) _
      refine XS.iload X654.here hx rfl (hb hby at_172) rfl ?_
      show Steps p.tables e below (T654.setTop (mkF m 174 #[.val (.int p1), .val (.ref b2), .val (.int (7 : Int32)), .val (.ref s7), .val (.int (1 : Int32)), .val (.int (0 : Int32)), .val (.int (0 : Int32))] [(.int (0 : Int32)), (.int (0 : Int32))])) _
      refine XS.icmpYes X654.here hx rfl (pc0 := 174) (pc' := 179) rfl (hb hby at_174) rfl (teq (rfl : (0 : Int32) = (0 : Int32))).1 (by decide) (by decide) ?_
      show Steps p.tables e below (T654.setTop (mkF m 179 #[.val (.int p1), .val (.ref b2), .val (.int (7 : Int32)), .val (.ref s7), .val (.int (1 : Int32)), .val (.int (0 : Int32)), .val (.int (0 : Int32))] [])) _
      refine XS.aloadN X654.here hx rfl (hb hby at_179) rfl rfl ?_
      exact k
    obtain ⟨cq657, kq657, q657a, q657b, q657c⟩ := isOf hZ e654 f460
    obtain ⟨_, _, ⟨T657, L657, k657c, n657⟩, -, X657, ⟨Lc657, hQ657, l657, y657, z657⟩, st657⟩ := X654.virtualBack hx (y := (⟨"com/example/eager_path/eagerpath/LocationPath$Axis", "reverse", "()Z"⟩ : MethodName)) (z := (⟨"com/example/eager_path/eagerpath/LocationPath$Axis", "reverse", "()Z"⟩ : MethodName)) hown (mvT hZ (hw _ (List.mem_of_getElem? (i := 43) rfl))) (mvT hZ (hw _ (List.mem_of_getElem? (i := 44) rfl))) (notFace_of_selects (args := #[]) (mvT hZ (hw _ (List.mem_of_getElem? (i := 46) rfl)))) (mvT hZ (hw _ (List.mem_of_getElem? (i := 46) rfl))) (mvT hZ (hw _ (List.mem_of_getElem? (i := 45) rfl))) (by decide) (backOf (W := 0) (own_rmrv l Z a0 hw [] s7 s4 s5 s10 s11 h444 n0 Z444 f453 f455 f465 f467) hZ (hw _ (List.mem_of_getElem? (i := 47) rfl)) (hw _ (List.mem_of_getElem? (i := 3) rfl)) (by decide) (by decide)) q657a q657c (g := (mkF m 180 #[.val (.int p1), .val (.ref b2), .val (.int (7 : Int32)), .val (.ref s7), .val (.int (1 : Int32)), .val (.int (0 : Int32)), .val (.int (0 : Int32))] [(.ref s7)])) rfl (by rw [hml]; rfl) (Steps.refl _) (argsL := []) (rest := []) (lenOf own_pd0 rfl) rfl (by show 2 * 0 + _ ≤ _; exact Nat.le_of_eq rfl) (hb hby at_180) (fun _ _ => ⟨rfl, e654, (by decide : 1 + 0 ≤ _), (by decide : 13 + 0 ≤ _)⟩)
    dsimp only [Pt.U, Pt.locs, Pt.cells, Pt.slots] at X657 l657 y657 z657 st657 hQ657
    subst l657 y657 z657
    have hv657 : (own_vrv s7 s4 s5 s10 s11) = (0 : Int32) := ((if_neg (own_ne oO7 oO4 (by decide))).trans ((if_neg (own_ne oO7 oO5 (by decide))).trans ((if_neg (own_ne oO7 oO10 (by decide))).trans (if_neg (own_ne oO7 oO11 (by decide))))))
    obtain ⟨hr657, N657q, e657⟩ := hQ657
    rw [hv657] at hr657
    subst hr657
    have N657 := Fr.app N654 N657q
    have k658 : ∀ t, Steps p.tables e below (T657.setTop (mkF m 183 #[.val (.int p1), .val (.ref b2), .val (.int (7 : Int32)), .val (.ref s7), .val (.int (1 : Int32)), .val (.int (0 : Int32)), .val (.int (0 : Int32))] [(.int (0 : Int32))])) t → Steps p.tables e below (s₁.setTop (entryFrame m #[(.int p1)] maxLocals)) t := fun t k => k656 t (st657.trans k)
    have k659 : ∀ t, Steps p.tables e below (T657.setTop (mkF m 194 #[.val (.int p1), .val (.ref b2), .val (.int (7 : Int32)), .val (.ref s7), .val (.int (1 : Int32)), .val (.int (0 : Int32)), .val (.int (0 : Int32))] [(.int (1 : Int32))])) t → Steps p.tables e below (s₁.setTop (entryFrame m #[(.int p1)] maxLocals)) t := by
      intro t k
      refine k658 t ?_
      show Steps p.tables e below (T657.setTop (mkF m 183 #[.val (.int p1), .val (.ref b2), .val (.int (7 : Int32)), .val (.ref s7), .val (.int (1 : Int32)), .val (.int (0 : Int32)), .val (.int (0 : Int32))] [(.int (0 : Int32))])) _
      refine XS.ifYes X657.here hx rfl (pc0 := 183) (pc' := 193) rfl (hb hby at_183) rfl ((if0 _ _).trans (teq (rfl : (0 : Int32) = (0 : Int32))).1) (by decide) (by decide) ?_
      show Steps p.tables e below (T657.setTop (mkF m 193 #[.val (.int p1), .val (.ref b2), .val (.int (7 : Int32)), .val (.ref s7), .val (.int (1 : Int32)), .val (.int (0 : Int32)), .val (.int (0 : Int32))] [])) _
      refine XS.iconst X657.here hx rfl (hb hby at_193) ?_
      exact k
    obtain ⟨fs, hr, hrun, hended, hW, hsame⟩ := X657.leave (v := (some (.int (1 : Int32)))) (fun h => by rw [Bd.returns] at h; cases h)
    refine ⟨_, _, k659 _ ?_, hrun, hended, _, _, rfl, ?_, ⟨_, rfl⟩, hW, hsame.mono (by decide) (by decide)⟩
    · exact retN X657 hx (t := .boolean) Bd.returns (by simp) (hb hby at_194) hr
    · exact ⟨rfl, N657⟩
  · have k660 : ∀ t, Steps p.tables e below (T444.setTop (mkF m 99 #[.val (.int p1), .val (.ref b2), .val (.int (8 : Int32)), .unset, .unset, .unset, .unset] [])) t → Steps p.tables e below (s₁.setTop (entryFrame m #[(.int p1)] maxLocals)) t := by have z := k472; rw [he] at z; exact z
    obtain ⟨cl661, Ar661, qa661, Sa661, Na661, Ha661, Ga661⟩ := id V444
    have hin662 : ¬ ((8 : Int32) < 0 ∨ cl661.slots.size ≤ ((8 : Int32)).toNatClampNeg) := inb_of Sa661 ⟨by decide, by decide⟩
    have hat663 : cl661.slots[((8 : Int32)).toNatClampNeg]? = some (.ref s8) := Ha661 8 (Nat.lt_of_not_le fun q => hin662 (Or.inr q))
    have k664 : ∀ t, Steps p.tables e below (T444.setTop (mkF m 104 #[.val (.int p1), .val (.ref b2), .val (.int (8 : Int32)), .val (.ref s8), .unset, .unset, .unset] [(.ref s8)])) t → Steps p.tables e below (s₁.setTop (entryFrame m #[(.int p1)] maxLocals)) t := by
      intro t k
      refine k660 t ?_
      show Steps p.tables e below (T444.setTop (mkF m 99 #[.val (.int p1), .val (.ref b2), .val (.int (8 : Int32)), .unset, .unset, .unset, .unset] [])) _
      refine XS.aloadN X444.here hx rfl (hb hby at_99) rfl rfl ?_
      show Steps p.tables e below (T444.setTop (mkF m 100 #[.val (.int p1), .val (.ref b2), .val (.int (8 : Int32)), .unset, .unset, .unset, .unset] [(.ref b2)])) _
      refine XS.iloadN X444.here hx rfl (hb hby at_100) rfl ?_
      show Steps p.tables e below (T444.setTop (mkF m 101 #[.val (.int p1), .val (.ref b2), .val (.int (8 : Int32)), .unset, .unset, .unset, .unset] [(.int (8 : Int32)), (.ref b2)])) _
      refine X444.aaload hx (j := (8 : Int32)) (v := (.ref s8)) (by rw [e444]; exact Ar661.1) (State.isArrayOf_alike hZ.alike Ar661.2.1) rfl Ar661.2.2 hin662 hat663 (g := (mkF m 101 #[.val (.int p1), .val (.ref b2), .val (.int (8 : Int32)), .unset, .unset, .unset, .unset] [(.int (8 : Int32)), (.ref b2)])) rfl rfl (hb hby at_101) _ ?_
      show Steps p.tables e below (T444.setTop (mkF m 102 #[.val (.int p1), .val (.ref b2), .val (.int (8 : Int32)), .unset, .unset, .unset, .unset] [(.ref s8)])) _
      refine XS.astoreN X444.here hx rfl (hb hby at_102) rfl rfl (l' := #[.val (.int p1), .val (.ref b2), .val (.int (8 : Int32)), .val (.ref s8), .unset, .unset, .unset]) rfl ?_
      show Steps p.tables e below (T444.setTop (mkF m 103 #[.val (.int p1), .val (.ref b2), .val (.int (8 : Int32)), .val (.ref s8), .unset, .unset, .unset] [])) _
      refine XS.aloadN X444.here hx rfl (hb hby at_103) rfl rfl ?_
      exact k
    obtain ⟨T665, X665, e665, st665⟩ := getS2 X444 hx hZ hown (host := "") (Or.inl (hw _ (List.mem_of_getElem? (i := 2) rfl))) Via.refl e444 f445 (g := (mkF m 104 #[.val (.int p1), .val (.ref b2), .val (.int (8 : Int32)), .val (.ref s8), .unset, .unset, .unset] [(.ref s8)])) rfl (hb hby at_104)
    have k666 : ∀ t, Steps p.tables e below (T665.setTop (mkF m 107 #[.val (.int p1), .val (.ref b2), .val (.int (8 : Int32)), .val (.ref s8), .unset, .unset, .unset] [(.ref s0), (.ref s8)])) t → Steps p.tables e below (s₁.setTop (entryFrame m #[(.int p1)] maxLocals)) t := fun t k => k664 t (st665 t k)
    have k667 : ∀ t, Steps p.tables e below (T665.setTop (mkF m 111 #[.val (.int p1), .val (.ref b2), .val (.int (8 : Int32)), .val (.ref s8), .unset, .unset, .unset] [(.ref s8)])) t → Steps p.tables e below (s₁.setTop (entryFrame m #[(.int p1)] maxLocals)) t := by
      intro t k
      refine k666 t ?_
      show Steps p.tables e below (T665.setTop (mkF m 107 #[.val (.int p1), .val (.ref b2), .val (.int (8 : Int32)), .val (.ref s8), .unset, .unset, .unset] [(.ref s0), (.ref s8)])) _
      refine Jvm.RoadKit.acmp (g := (mkF m 107 #[.val (.int p1), .val (.ref b2), .val (.int (8 : Int32)), .val (.ref s8), .unset, .unset, .unset] [(.ref s0), (.ref s8)])) X665 hx rfl rfl rfl (pc0 := 107) (pc' := 110) (same := false) rfl (hb hby at_107) rfl (decide_eq_false fun q => (own_ne oO8 oO0 (by decide)) (Value.ref.inj q)) (by decide) (by decide) ?_
      show Steps p.tables e below (T665.setTop (mkF m 110 #[.val (.int p1), .val (.ref b2), .val (.int (8 : Int32)), .val (.ref s8), .unset, .unset, .unset] [])) _
      refine XS.aloadN X665.here hx rfl (hb hby at_110) rfl rfl ?_
      exact k
    obtain ⟨T668, X668, e668, st668⟩ := getS2 X665 hx hZ hown (host := "") (Or.inl (hw _ (List.mem_of_getElem? (i := 6) rfl))) Via.refl e665 f447 (g := (mkF m 111 #[.val (.int p1), .val (.ref b2), .val (.int (8 : Int32)), .val (.ref s8), .unset, .unset, .unset] [(.ref s8)])) rfl (hb hby at_111)
    have k669 : ∀ t, Steps p.tables e below (T668.setTop (mkF m 114 #[.val (.int p1), .val (.ref b2), .val (.int (8 : Int32)), .val (.ref s8), .unset, .unset, .unset] [(.ref s1), (.ref s8)])) t → Steps p.tables e below (s₁.setTop (entryFrame m #[(.int p1)] maxLocals)) t := fun t k => k667 t (st668 t k)
    have k670 : ∀ t, Steps p.tables e below (T668.setTop (mkF m 118 #[.val (.int p1), .val (.ref b2), .val (.int (8 : Int32)), .val (.ref s8), .unset, .unset, .unset] [(.ref s8)])) t → Steps p.tables e below (s₁.setTop (entryFrame m #[(.int p1)] maxLocals)) t := by
      intro t k
      refine k669 t ?_
      show Steps p.tables e below (T668.setTop (mkF m 114 #[.val (.int p1), .val (.ref b2), .val (.int (8 : Int32)), .val (.ref s8), .unset, .unset, .unset] [(.ref s1), (.ref s8)])) _
      refine Jvm.RoadKit.acmp (g := (mkF m 114 #[.val (.int p1), .val (.ref b2), .val (.int (8 : Int32)), .val (.ref s8), .unset, .unset, .unset] [(.ref s1), (.ref s8)])) X668 hx rfl rfl rfl (pc0 := 114) (pc' := 117) (same := false) rfl (hb hby at_114) rfl (decide_eq_false fun q => (own_ne oO8 oO1 (by decide)) (Value.ref.inj q)) (by decide) (by decide) ?_
      show Steps p.tables e below (T668.setTop (mkF m 117 #[.val (.int p1), .val (.ref b2), .val (.int (8 : Int32)), .val (.ref s8), .unset, .unset, .unset] [])) _
      refine XS.aloadN X668.here hx rfl (hb hby at_117) rfl rfl ?_
      exact k
    obtain ⟨T671, X671, e671, st671⟩ := getS2 X668 hx hZ hown (host := "") (Or.inl (hw _ (List.mem_of_getElem? (i := 10) rfl))) Via.refl e668 f451 (g := (mkF m 118 #[.val (.int p1), .val (.ref b2), .val (.int (8 : Int32)), .val (.ref s8), .unset, .unset, .unset] [(.ref s8)])) rfl (hb hby at_118)
    have k672 : ∀ t, Steps p.tables e below (T671.setTop (mkF m 121 #[.val (.int p1), .val (.ref b2), .val (.int (8 : Int32)), .val (.ref s8), .unset, .unset, .unset] [(.ref s3), (.ref s8)])) t → Steps p.tables e below (s₁.setTop (entryFrame m #[(.int p1)] maxLocals)) t := fun t k => k670 t (st671 t k)
    have k673 : ∀ t, Steps p.tables e below (T671.setTop (mkF m 125 #[.val (.int p1), .val (.ref b2), .val (.int (8 : Int32)), .val (.ref s8), .unset, .unset, .unset] [(.ref s8)])) t → Steps p.tables e below (s₁.setTop (entryFrame m #[(.int p1)] maxLocals)) t := by
      intro t k
      refine k672 t ?_
      show Steps p.tables e below (T671.setTop (mkF m 121 #[.val (.int p1), .val (.ref b2), .val (.int (8 : Int32)), .val (.ref s8), .unset, .unset, .unset] [(.ref s3), (.ref s8)])) _
      refine Jvm.RoadKit.acmp (g := (mkF m 121 #[.val (.int p1), .val (.ref b2), .val (.int (8 : Int32)), .val (.ref s8), .unset, .unset, .unset] [(.ref s3), (.ref s8)])) X671 hx rfl rfl rfl (pc0 := 121) (pc' := 124) (same := false) rfl (hb hby at_121) rfl (decide_eq_false fun q => (own_ne oO8 oO3 (by decide)) (Value.ref.inj q)) (by decide) (by decide) ?_
      show Steps p.tables e below (T671.setTop (mkF m 124 #[.val (.int p1), .val (.ref b2), .val (.int (8 : Int32)), .val (.ref s8), .unset, .unset, .unset] [])) _
      refine XS.aloadN X671.here hx rfl (hb hby at_124) rfl rfl ?_
      exact k
    obtain ⟨T674, X674, e674, st674⟩ := getS2 X671 hx hZ hown (host := "") (Or.inl (hw _ (List.mem_of_getElem? (i := 16) rfl))) Via.refl e671 f457 (g := (mkF m 125 #[.val (.int p1), .val (.ref b2), .val (.int (8 : Int32)), .val (.ref s8), .unset, .unset, .unset] [(.ref s8)])) rfl (hb hby at_125)
    have k675 : ∀ t, Steps p.tables e below (T674.setTop (mkF m 128 #[.val (.int p1), .val (.ref b2), .val (.int (8 : Int32)), .val (.ref s8), .unset, .unset, .unset] [(.ref s6), (.ref s8)])) t → Steps p.tables e below (s₁.setTop (entryFrame m #[(.int p1)] maxLocals)) t := fun t k => k673 t (st674 t k)
    have k676 : ∀ t, Steps p.tables e below (T674.setTop (mkF m 132 #[.val (.int p1), .val (.ref b2), .val (.int (8 : Int32)), .val (.ref s8), .unset, .unset, .unset] [(.ref s8)])) t → Steps p.tables e below (s₁.setTop (entryFrame m #[(.int p1)] maxLocals)) t := by
      intro t k
      refine k675 t ?_
      show Steps p.tables e below (T674.setTop (mkF m 128 #[.val (.int p1), .val (.ref b2), .val (.int (8 : Int32)), .val (.ref s8), .unset, .unset, .unset] [(.ref s6), (.ref s8)])) _
      refine Jvm.RoadKit.acmp (g := (mkF m 128 #[.val (.int p1), .val (.ref b2), .val (.int (8 : Int32)), .val (.ref s8), .unset, .unset, .unset] [(.ref s6), (.ref s8)])) X674 hx rfl rfl rfl (pc0 := 128) (pc' := 131) (same := false) rfl (hb hby at_128) rfl (decide_eq_false fun q => (own_ne oO8 oO6 (by decide)) (Value.ref.inj q)) (by decide) (by decide) ?_
      show Steps p.tables e below (T674.setTop (mkF m 131 #[.val (.int p1), .val (.ref b2), .val (.int (8 : Int32)), .val (.ref s8), .unset, .unset, .unset] [])) _
      refine XS.aloadN X674.here hx rfl (hb hby at_131) rfl rfl ?_
      exact k
    obtain ⟨T677, X677, e677, st677⟩ := getS2 X674 hx hZ hown (host := "") (Or.inl (hw _ (List.mem_of_getElem? (i := 18) rfl))) Via.refl e674 f459 (g := (mkF m 132 #[.val (.int p1), .val (.ref b2), .val (.int (8 : Int32)), .val (.ref s8), .unset, .unset, .unset] [(.ref s8)])) rfl (hb hby at_132)
    have k678 : ∀ t, Steps p.tables e below (T677.setTop (mkF m 135 #[.val (.int p1), .val (.ref b2), .val (.int (8 : Int32)), .val (.ref s8), .unset, .unset, .unset] [(.ref s7), (.ref s8)])) t → Steps p.tables e below (s₁.setTop (entryFrame m #[(.int p1)] maxLocals)) t := fun t k => k676 t (st677 t k)
    have k679 : ∀ t, Steps p.tables e below (T677.setTop (mkF m 139 #[.val (.int p1), .val (.ref b2), .val (.int (8 : Int32)), .val (.ref s8), .unset, .unset, .unset] [(.ref s8)])) t → Steps p.tables e below (s₁.setTop (entryFrame m #[(.int p1)] maxLocals)) t := by
      intro t k
      refine k678 t ?_
      show Steps p.tables e below (T677.setTop (mkF m 135 #[.val (.int p1), .val (.ref b2), .val (.int (8 : Int32)), .val (.ref s8), .unset, .unset, .unset] [(.ref s7), (.ref s8)])) _
      refine Jvm.RoadKit.acmp (g := (mkF m 135 #[.val (.int p1), .val (.ref b2), .val (.int (8 : Int32)), .val (.ref s8), .unset, .unset, .unset] [(.ref s7), (.ref s8)])) X677 hx rfl rfl rfl (pc0 := 135) (pc' := 138) (same := false) rfl (hb hby at_135) rfl (decide_eq_false fun q => (own_ne oO8 oO7 (by decide)) (Value.ref.inj q)) (by decide) (by decide) ?_
      show Steps p.tables e below (T677.setTop (mkF m 138 #[.val (.int p1), .val (.ref b2), .val (.int (8 : Int32)), .val (.ref s8), .unset, .unset, .unset] [])) _
      refine XS.aloadN X677.here hx rfl (hb hby at_138) rfl rfl ?_
      exact k
    obtain ⟨T680, X680, e680, st680⟩ := getS2 X677 hx hZ hown (host := "") (Or.inl (hw _ (List.mem_of_getElem? (i := 28) rfl))) Via.refl e677 f469 (g := (mkF m 139 #[.val (.int p1), .val (.ref b2), .val (.int (8 : Int32)), .val (.ref s8), .unset, .unset, .unset] [(.ref s8)])) rfl (hb hby at_139)
    have k681 : ∀ t, Steps p.tables e below (T680.setTop (mkF m 142 #[.val (.int p1), .val (.ref b2), .val (.int (8 : Int32)), .val (.ref s8), .unset, .unset, .unset] [(.ref s12), (.ref s8)])) t → Steps p.tables e below (s₁.setTop (entryFrame m #[(.int p1)] maxLocals)) t := fun t k => k679 t (st680 t k)
    have k682 : ∀ t, Steps p.tables e below (T680.setTop (mkF m 165 #[.val (.int p1), .val (.ref b2), .val (.int (8 : Int32)), .val (.ref s8), .val (.int (0 : Int32)), .val (.int (1 : Int32)), .unset] [(.ref s8)])) t → Steps p.tables e below (s₁.setTop (entryFrame m #[(.int p1)] maxLocals)) t := by
      intro t k
      refine k681 t ?_
      show Steps p.tables e below (T680.setTop (mkF m 142 #[.val (.int p1), .val (.ref b2), .val (.int (8 : Int32)), .val (.ref s8), .unset, .unset, .unset] [(.ref s12), (.ref s8)])) _
      refine Jvm.RoadKit.acmp (g := (mkF m 142 #[.val (.int p1), .val (.ref b2), .val (.int (8 : Int32)), .val (.ref s8), .unset, .unset, .unset] [(.ref s12), (.ref s8)])) X680 hx rfl rfl rfl (pc0 := 142) (pc' := 149) (same := false) rfl (hb hby at_142) rfl (decide_eq_false fun q => (own_ne oO8 oO12 (by decide)) (Value.ref.inj q)) (by decide) (by decide) ?_
      show Steps p.tables e below (T680.setTop (mkF m 149 #[.val (.int p1), .val (.ref b2), .val (.int (8 : Int32)), .val (.ref s8), .unset, .unset, .unset] [])) _
      refine XS.iconst X680.here hx rfl (hb hby at_149) ?_
      show Steps p.tables e below (T680.setTop (mkF m 150 #[.val (.int p1), .val (.ref b2), .val (.int (8 : Int32)), .val (.ref s8), .unset, .unset, .unset] [(.int (0 : Int32))])) _
      refine XS.istore X680.here hx rfl (hb hby at_150) rfl (l' := #[.val (.int p1), .val (.ref b2), .val (.int (8 : Int32)), .val (.ref s8), .val (.int (0 : Int32)), .unset, .unset]) rfl ?_
      show Steps p.tables e below (T680.setTop (mkF m 152 #[.val (.int p1), .val (.ref b2), .val (.int (8 : Int32)), .val (.ref s8), .val (.int (0 : Int32)), .unset, .unset] [])) _
      refine XS.iload X680.here hx rfl (hb hby at_152) rfl ?_
      show Steps p.tables e below (T680.setTop (mkF m 154 #[.val (.int p1), .val (.ref b2), .val (.int (8 : Int32)), .val (.ref s8), .val (.int (0 : Int32)), .unset, .unset] [(.int (0 : Int32))])) _
      refine XS.ifNo X680.here hx rfl (hb hby at_154) rfl ((if0 _ _).trans (teq (rfl : (0 : Int32) = (0 : Int32))).2) ?_
      show Steps p.tables e below (T680.setTop (mkF m 157 #[.val (.int p1), .val (.ref b2), .val (.int (8 : Int32)), .val (.ref s8), .val (.int (0 : Int32)), .unset, .unset] [])) _
      refine XS.iconst X680.here hx rfl (hb hby at_157) ?_
      show Steps p.tables e below (T680.setTop (mkF m 158 #[.val (.int p1), .val (.ref b2), .val (.int (8 : Int32)), .val (.ref s8), .val (.int (0 : Int32)), .unset, .unset] [(.int (1 : Int32))])) _
      refine XS.goto X680.here hx rfl (pc0 := 158) (pc' := 162) rfl (hb hby at_158) (by decide) (by decide) ?_
      show Steps p.tables e below (T680.setTop (mkF m 162 #[.val (.int p1), .val (.ref b2), .val (.int (8 : Int32)), .val (.ref s8), .val (.int (0 : Int32)), .unset, .unset] [(.int (1 : Int32))])) _
      refine XS.istore X680.here hx rfl (hb hby at_162) rfl (l' := #[.val (.int p1), .val (.ref b2), .val (.int (8 : Int32)), .val (.ref s8), .val (.int (0 : Int32)), .val (.int (1 : Int32)), .unset]) rfl ?_
      show Steps p.tables e below (T680.setTop (mkF m 164 #[.val (.int p1), .val (.ref b2), .val (.int (8 : Int32)), .val (.ref s8), .val (.int (0 : Int32)), .val (.int (1 : Int32)), .unset] [])) _
      refine XS.aloadN X680.here hx rfl (hb hby at_164) rfl rfl ?_
      exact k
    obtain ⟨cq683, kq683, q683a, q683b, q683c⟩ := isOf hZ e680 f462
    obtain ⟨_, _, ⟨T683, L683, k683c, n683⟩, -, X683, ⟨Lc683, hQ683, l683, y683, z683⟩, st683⟩ := X680.virtualBack hx (y := (⟨"com/example/eager_path/eagerpath/LocationPath$Axis", "leavesSubtree", "()Z"⟩ : MethodName)) (z := (⟨"com/example/eager_path/eagerpath/LocationPath$Axis", "leavesSubtree", "()Z"⟩ : MethodName)) hown (mvT hZ (hw _ (List.mem_of_getElem? (i := 31) rfl))) (mvT hZ (hw _ (List.mem_of_getElem? (i := 32) rfl))) (notFace_of_selects (args := #[]) (mvT hZ (hw _ (List.mem_of_getElem? (i := 34) rfl)))) (mvT hZ (hw _ (List.mem_of_getElem? (i := 34) rfl))) (mvT hZ (hw _ (List.mem_of_getElem? (i := 33) rfl))) (by decide) (backOf (W := 0) (own_rmls l Z a0 hw [] s8 s2 s4 s5 s8 s9 s10 s11 h444 n0 Z444 f449 f453 f455 f461 f463 f465 f467) hZ (hw _ (List.mem_of_getElem? (i := 35) rfl)) (hw _ (List.mem_of_getElem? (i := 3) rfl)) (by decide) (by decide)) q683a q683c (g := (mkF m 165 #[.val (.int p1), .val (.ref b2), .val (.int (8 : Int32)), .val (.ref s8), .val (.int (0 : Int32)), .val (.int (1 : Int32)), .unset] [(.ref s8)])) rfl (by rw [hml]; rfl) (Steps.refl _) (argsL := []) (rest := []) (lenOf own_pd0 rfl) rfl (by show 2 * 0 + _ ≤ _; exact Nat.le_of_eq rfl) (hb hby at_165) (fun _ _ => ⟨rfl, e680, (by decide : 1 + 0 ≤ _), (by decide : 13 + 0 ≤ _)⟩)
    dsimp only [Pt.U, Pt.locs, Pt.cells, Pt.slots] at X683 l683 y683 z683 st683 hQ683
    subst l683 y683 z683
    have hv683 : (own_vls s8 s2 s4 s5 s8 s9 s10 s11) = (1 : Int32) := ((if_neg (own_ne oO8 oO2 (by decide))).trans ((if_neg (own_ne oO8 oO4 (by decide))).trans ((if_neg (own_ne oO8 oO5 (by decide))).trans (if_pos rfl))))
    obtain ⟨hr683, N683q, e683⟩ := hQ683
    rw [hv683] at hr683
    subst hr683
    have N683 := Fr.app N444 N683q
    have k684 : ∀ t, Steps p.tables e below (T683.setTop (mkF m 168 #[.val (.int p1), .val (.ref b2), .val (.int (8 : Int32)), .val (.ref s8), .val (.int (0 : Int32)), .val (.int (1 : Int32)), .unset] [(.int (1 : Int32))])) t → Steps p.tables e below (s₁.setTop (entryFrame m #[(.int p1)] maxLocals)) t := fun t k => k682 t (st683.trans k)
    have k685 : ∀ t, Steps p.tables e below (T683.setTop (mkF m 180 #[.val (.int p1), .val (.ref b2), .val (.int (8 : Int32)), .val (.ref s8), .val (.int (0 : Int32)), .val (.int (1 : Int32)), .val (.int (1 : Int32))] [(.ref s8)])) t → Steps p.tables e below (s₁.setTop (entryFrame m #[(.int p1)] maxLocals)) t := by
      intro t k
      refine k684 t ?_
      show Steps p.tables e below (T683.setTop (mkF m 168 #[.val (.int p1), .val (.ref b2), .val (.int (8 : Int32)), .val (.ref s8), .val (.int (0 : Int32)), .val (.int (1 : Int32)), .unset] [(.int (1 : Int32))])) _
      refine XS.istore X683.here hx rfl (hb hby at_168) rfl (l' := #[.val (.int p1), .val (.ref b2), .val (.int (8 : Int32)), .val (.ref s8), .val (.int (0 : Int32)), .val (.int (1 : Int32)), .val (.int (1 : Int32))]) rfl ?_
      show Steps p.tables e below (T683.setTop (mkF m 170 #[.val (.int p1), .val (.ref b2), .val (.int (8 : Int32)), .val (.ref s8), .val (.int (0 : Int32)), .val (.int (1 : Int32)), .val (.int (1 : Int32))] [])) _
      refine XS.iload X683.here hx rfl (hb hby at_170) rfl ?_
      show Steps p.tables e below (T683.setTop (mkF m 172 #[.val (.int p1), .val (.ref b2), .val (.int (8 : Int32)), .val (.ref s8), .val (.int (0 : Int32)), .val (.int (1 : Int32)), .val (.int (1 : Int32))] [(.int (1 : Int32))])) _
      refine XS.iload X683.here hx rfl (hb hby at_172) rfl ?_
      show Steps p.tables e below (T683.setTop (mkF m 174 #[.val (.int p1), .val (.ref b2), .val (.int (8 : Int32)), .val (.ref s8), .val (.int (0 : Int32)), .val (.int (1 : Int32)), .val (.int (1 : Int32))] [(.int (1 : Int32)), (.int (1 : Int32))])) _
      refine XS.icmpYes X683.here hx rfl (pc0 := 174) (pc' := 179) rfl (hb hby at_174) rfl (teq (rfl : (1 : Int32) = (1 : Int32))).1 (by decide) (by decide) ?_
      show Steps p.tables e below (T683.setTop (mkF m 179 #[.val (.int p1), .val (.ref b2), .val (.int (8 : Int32)), .val (.ref s8), .val (.int (0 : Int32)), .val (.int (1 : Int32)), .val (.int (1 : Int32))] [])) _
      refine XS.aloadN X683.here hx rfl (hb hby at_179) rfl rfl ?_
      exact k
    obtain ⟨cq686, kq686, q686a, q686b, q686c⟩ := isOf hZ e683 f462
    obtain ⟨_, _, ⟨T686, L686, k686c, n686⟩, -, X686, ⟨Lc686, hQ686, l686, y686, z686⟩, st686⟩ := X683.virtualBack hx (y := (⟨"com/example/eager_path/eagerpath/LocationPath$Axis", "reverse", "()Z"⟩ : MethodName)) (z := (⟨"com/example/eager_path/eagerpath/LocationPath$Axis", "reverse", "()Z"⟩ : MethodName)) hown (mvT hZ (hw _ (List.mem_of_getElem? (i := 43) rfl))) (mvT hZ (hw _ (List.mem_of_getElem? (i := 44) rfl))) (notFace_of_selects (args := #[]) (mvT hZ (hw _ (List.mem_of_getElem? (i := 46) rfl)))) (mvT hZ (hw _ (List.mem_of_getElem? (i := 46) rfl))) (mvT hZ (hw _ (List.mem_of_getElem? (i := 45) rfl))) (by decide) (backOf (W := 0) (own_rmrv l Z a0 hw [] s8 s4 s5 s10 s11 h444 n0 Z444 f453 f455 f465 f467) hZ (hw _ (List.mem_of_getElem? (i := 47) rfl)) (hw _ (List.mem_of_getElem? (i := 3) rfl)) (by decide) (by decide)) q686a q686c (g := (mkF m 180 #[.val (.int p1), .val (.ref b2), .val (.int (8 : Int32)), .val (.ref s8), .val (.int (0 : Int32)), .val (.int (1 : Int32)), .val (.int (1 : Int32))] [(.ref s8)])) rfl (by rw [hml]; rfl) (Steps.refl _) (argsL := []) (rest := []) (lenOf own_pd0 rfl) rfl (by show 2 * 0 + _ ≤ _; exact Nat.le_of_eq rfl) (hb hby at_180) (fun _ _ => ⟨rfl, e683, (by decide : 1 + 0 ≤ _), (by decide : 13 + 0 ≤ _)⟩)
    dsimp only [Pt.U, Pt.locs, Pt.cells, Pt.slots] at X686 l686 y686 z686 st686 hQ686
    subst l686 y686 z686
    have hv686 : (own_vrv s8 s4 s5 s10 s11) = (0 : Int32) := ((if_neg (own_ne oO8 oO4 (by decide))).trans ((if_neg (own_ne oO8 oO5 (by decide))).trans ((if_neg (own_ne oO8 oO10 (by decide))).trans (if_neg (own_ne oO8 oO11 (by decide))))))
    obtain ⟨hr686, N686q, e686⟩ := hQ686
    rw [hv686] at hr686
    subst hr686
    have N686 := Fr.app N683 N686q
    have k687 : ∀ t, Steps p.tables e below (T686.setTop (mkF m 183 #[.val (.int p1), .val (.ref b2), .val (.int (8 : Int32)), .val (.ref s8), .val (.int (0 : Int32)), .val (.int (1 : Int32)), .val (.int (1 : Int32))] [(.int (0 : Int32))])) t → Steps p.tables e below (s₁.setTop (entryFrame m #[(.int p1)] maxLocals)) t := fun t k => k685 t (st686.trans k)
    have k688 : ∀ t, Steps p.tables e below (T686.setTop (mkF m 194 #[.val (.int p1), .val (.ref b2), .val (.int (8 : Int32)), .val (.ref s8), .val (.int (0 : Int32)), .val (.int (1 : Int32)), .val (.int (1 : Int32))] [(.int (1 : Int32))])) t → Steps p.tables e below (s₁.setTop (entryFrame m #[(.int p1)] maxLocals)) t := by
      intro t k
      refine k687 t ?_
      show Steps p.tables e below (T686.setTop (mkF m 183 #[.val (.int p1), .val (.ref b2), .val (.int (8 : Int32)), .val (.ref s8), .val (.int (0 : Int32)), .val (.int (1 : Int32)), .val (.int (1 : Int32))] [(.int (0 : Int32))])) _
      refine XS.ifYes X686.here hx rfl (pc0 := 183) (pc' := 193) rfl (hb hby at_183) rfl ((if0 _ _).trans (teq (rfl : (0 : Int32) = (0 : Int32))).1) (by decide) (by decide) ?_
      show Steps p.tables e below (T686.setTop (mkF m 193 #[.val (.int p1), .val (.ref b2), .val (.int (8 : Int32)), .val (.ref s8), .val (.int (0 : Int32)), .val (.int (1 : Int32)), .val (.int (1 : Int32))] [])) _
      refine XS.iconst X686.here hx rfl (hb hby at_193) ?_
      exact k
    obtain ⟨fs, hr, hrun, hended, hW, hsame⟩ := X686.leave (v := (some (.int (1 : Int32)))) (fun h => by rw [Bd.returns] at h; cases h)
    refine ⟨_, _, k688 _ ?_, hrun, hended, _, _, rfl, ?_, ⟨_, rfl⟩, hW, hsame.mono (by decide) (by decide)⟩
    · exact retN X686 hx (t := .boolean) Bd.returns (by simp) (hb hby at_194) hr
    · exact ⟨rfl, N686⟩
  · have k689 : ∀ t, Steps p.tables e below (T444.setTop (mkF m 99 #[.val (.int p1), .val (.ref b2), .val (.int (9 : Int32)), .unset, .unset, .unset, .unset] [])) t → Steps p.tables e below (s₁.setTop (entryFrame m #[(.int p1)] maxLocals)) t := by have z := k472; rw [he] at z; exact z
    obtain ⟨cl690, Ar690, qa690, Sa690, Na690, Ha690, Ga690⟩ := id V444
    have hin691 : ¬ ((9 : Int32) < 0 ∨ cl690.slots.size ≤ ((9 : Int32)).toNatClampNeg) := inb_of Sa690 ⟨by decide, by decide⟩
    have hat692 : cl690.slots[((9 : Int32)).toNatClampNeg]? = some (.ref s9) := Ha690 9 (Nat.lt_of_not_le fun q => hin691 (Or.inr q))
    have k693 : ∀ t, Steps p.tables e below (T444.setTop (mkF m 104 #[.val (.int p1), .val (.ref b2), .val (.int (9 : Int32)), .val (.ref s9), .unset, .unset, .unset] [(.ref s9)])) t → Steps p.tables e below (s₁.setTop (entryFrame m #[(.int p1)] maxLocals)) t := by
      intro t k
      refine k689 t ?_
      show Steps p.tables e below (T444.setTop (mkF m 99 #[.val (.int p1), .val (.ref b2), .val (.int (9 : Int32)), .unset, .unset, .unset, .unset] [])) _
      refine XS.aloadN X444.here hx rfl (hb hby at_99) rfl rfl ?_
      show Steps p.tables e below (T444.setTop (mkF m 100 #[.val (.int p1), .val (.ref b2), .val (.int (9 : Int32)), .unset, .unset, .unset, .unset] [(.ref b2)])) _
      refine XS.iloadN X444.here hx rfl (hb hby at_100) rfl ?_
      show Steps p.tables e below (T444.setTop (mkF m 101 #[.val (.int p1), .val (.ref b2), .val (.int (9 : Int32)), .unset, .unset, .unset, .unset] [(.int (9 : Int32)), (.ref b2)])) _
      refine X444.aaload hx (j := (9 : Int32)) (v := (.ref s9)) (by rw [e444]; exact Ar690.1) (State.isArrayOf_alike hZ.alike Ar690.2.1) rfl Ar690.2.2 hin691 hat692 (g := (mkF m 101 #[.val (.int p1), .val (.ref b2), .val (.int (9 : Int32)), .unset, .unset, .unset, .unset] [(.int (9 : Int32)), (.ref b2)])) rfl rfl (hb hby at_101) _ ?_
      show Steps p.tables e below (T444.setTop (mkF m 102 #[.val (.int p1), .val (.ref b2), .val (.int (9 : Int32)), .unset, .unset, .unset, .unset] [(.ref s9)])) _
      refine XS.astoreN X444.here hx rfl (hb hby at_102) rfl rfl (l' := #[.val (.int p1), .val (.ref b2), .val (.int (9 : Int32)), .val (.ref s9), .unset, .unset, .unset]) rfl ?_
      show Steps p.tables e below (T444.setTop (mkF m 103 #[.val (.int p1), .val (.ref b2), .val (.int (9 : Int32)), .val (.ref s9), .unset, .unset, .unset] [])) _
      refine XS.aloadN X444.here hx rfl (hb hby at_103) rfl rfl ?_
      exact k
    obtain ⟨T694, X694, e694, st694⟩ := getS2 X444 hx hZ hown (host := "") (Or.inl (hw _ (List.mem_of_getElem? (i := 2) rfl))) Via.refl e444 f445 (g := (mkF m 104 #[.val (.int p1), .val (.ref b2), .val (.int (9 : Int32)), .val (.ref s9), .unset, .unset, .unset] [(.ref s9)])) rfl (hb hby at_104)
    have k695 : ∀ t, Steps p.tables e below (T694.setTop (mkF m 107 #[.val (.int p1), .val (.ref b2), .val (.int (9 : Int32)), .val (.ref s9), .unset, .unset, .unset] [(.ref s0), (.ref s9)])) t → Steps p.tables e below (s₁.setTop (entryFrame m #[(.int p1)] maxLocals)) t := fun t k => k693 t (st694 t k)
    have k696 : ∀ t, Steps p.tables e below (T694.setTop (mkF m 111 #[.val (.int p1), .val (.ref b2), .val (.int (9 : Int32)), .val (.ref s9), .unset, .unset, .unset] [(.ref s9)])) t → Steps p.tables e below (s₁.setTop (entryFrame m #[(.int p1)] maxLocals)) t := by
      intro t k
      refine k695 t ?_
      show Steps p.tables e below (T694.setTop (mkF m 107 #[.val (.int p1), .val (.ref b2), .val (.int (9 : Int32)), .val (.ref s9), .unset, .unset, .unset] [(.ref s0), (.ref s9)])) _
      refine Jvm.RoadKit.acmp (g := (mkF m 107 #[.val (.int p1), .val (.ref b2), .val (.int (9 : Int32)), .val (.ref s9), .unset, .unset, .unset] [(.ref s0), (.ref s9)])) X694 hx rfl rfl rfl (pc0 := 107) (pc' := 110) (same := false) rfl (hb hby at_107) rfl (decide_eq_false fun q => (own_ne oO9 oO0 (by decide)) (Value.ref.inj q)) (by decide) (by decide) ?_
      show Steps p.tables e below (T694.setTop (mkF m 110 #[.val (.int p1), .val (.ref b2), .val (.int (9 : Int32)), .val (.ref s9), .unset, .unset, .unset] [])) _
      refine XS.aloadN X694.here hx rfl (hb hby at_110) rfl rfl ?_
      exact k
    obtain ⟨T697, X697, e697, st697⟩ := getS2 X694 hx hZ hown (host := "") (Or.inl (hw _ (List.mem_of_getElem? (i := 6) rfl))) Via.refl e694 f447 (g := (mkF m 111 #[.val (.int p1), .val (.ref b2), .val (.int (9 : Int32)), .val (.ref s9), .unset, .unset, .unset] [(.ref s9)])) rfl (hb hby at_111)
    have k698 : ∀ t, Steps p.tables e below (T697.setTop (mkF m 114 #[.val (.int p1), .val (.ref b2), .val (.int (9 : Int32)), .val (.ref s9), .unset, .unset, .unset] [(.ref s1), (.ref s9)])) t → Steps p.tables e below (s₁.setTop (entryFrame m #[(.int p1)] maxLocals)) t := fun t k => k696 t (st697 t k)
    have k699 : ∀ t, Steps p.tables e below (T697.setTop (mkF m 118 #[.val (.int p1), .val (.ref b2), .val (.int (9 : Int32)), .val (.ref s9), .unset, .unset, .unset] [(.ref s9)])) t → Steps p.tables e below (s₁.setTop (entryFrame m #[(.int p1)] maxLocals)) t := by
      intro t k
      refine k698 t ?_
      show Steps p.tables e below (T697.setTop (mkF m 114 #[.val (.int p1), .val (.ref b2), .val (.int (9 : Int32)), .val (.ref s9), .unset, .unset, .unset] [(.ref s1), (.ref s9)])) _
      refine Jvm.RoadKit.acmp (g := (mkF m 114 #[.val (.int p1), .val (.ref b2), .val (.int (9 : Int32)), .val (.ref s9), .unset, .unset, .unset] [(.ref s1), (.ref s9)])) X697 hx rfl rfl rfl (pc0 := 114) (pc' := 117) (same := false) rfl (hb hby at_114) rfl (decide_eq_false fun q => (own_ne oO9 oO1 (by decide)) (Value.ref.inj q)) (by decide) (by decide) ?_
      show Steps p.tables e below (T697.setTop (mkF m 117 #[.val (.int p1), .val (.ref b2), .val (.int (9 : Int32)), .val (.ref s9), .unset, .unset, .unset] [])) _
      refine XS.aloadN X697.here hx rfl (hb hby at_117) rfl rfl ?_
      exact k
    obtain ⟨T700, X700, e700, st700⟩ := getS2 X697 hx hZ hown (host := "") (Or.inl (hw _ (List.mem_of_getElem? (i := 10) rfl))) Via.refl e697 f451 (g := (mkF m 118 #[.val (.int p1), .val (.ref b2), .val (.int (9 : Int32)), .val (.ref s9), .unset, .unset, .unset] [(.ref s9)])) rfl (hb hby at_118)
    have k701 : ∀ t, Steps p.tables e below (T700.setTop (mkF m 121 #[.val (.int p1), .val (.ref b2), .val (.int (9 : Int32)), .val (.ref s9), .unset, .unset, .unset] [(.ref s3), (.ref s9)])) t → Steps p.tables e below (s₁.setTop (entryFrame m #[(.int p1)] maxLocals)) t := fun t k => k699 t (st700 t k)
    have k702 : ∀ t, Steps p.tables e below (T700.setTop (mkF m 125 #[.val (.int p1), .val (.ref b2), .val (.int (9 : Int32)), .val (.ref s9), .unset, .unset, .unset] [(.ref s9)])) t → Steps p.tables e below (s₁.setTop (entryFrame m #[(.int p1)] maxLocals)) t := by
      intro t k
      refine k701 t ?_
      show Steps p.tables e below (T700.setTop (mkF m 121 #[.val (.int p1), .val (.ref b2), .val (.int (9 : Int32)), .val (.ref s9), .unset, .unset, .unset] [(.ref s3), (.ref s9)])) _
      refine Jvm.RoadKit.acmp (g := (mkF m 121 #[.val (.int p1), .val (.ref b2), .val (.int (9 : Int32)), .val (.ref s9), .unset, .unset, .unset] [(.ref s3), (.ref s9)])) X700 hx rfl rfl rfl (pc0 := 121) (pc' := 124) (same := false) rfl (hb hby at_121) rfl (decide_eq_false fun q => (own_ne oO9 oO3 (by decide)) (Value.ref.inj q)) (by decide) (by decide) ?_
      show Steps p.tables e below (T700.setTop (mkF m 124 #[.val (.int p1), .val (.ref b2), .val (.int (9 : Int32)), .val (.ref s9), .unset, .unset, .unset] [])) _
      refine XS.aloadN X700.here hx rfl (hb hby at_124) rfl rfl ?_
      exact k
    obtain ⟨T703, X703, e703, st703⟩ := getS2 X700 hx hZ hown (host := "") (Or.inl (hw _ (List.mem_of_getElem? (i := 16) rfl))) Via.refl e700 f457 (g := (mkF m 125 #[.val (.int p1), .val (.ref b2), .val (.int (9 : Int32)), .val (.ref s9), .unset, .unset, .unset] [(.ref s9)])) rfl (hb hby at_125)
    have k704 : ∀ t, Steps p.tables e below (T703.setTop (mkF m 128 #[.val (.int p1), .val (.ref b2), .val (.int (9 : Int32)), .val (.ref s9), .unset, .unset, .unset] [(.ref s6), (.ref s9)])) t → Steps p.tables e below (s₁.setTop (entryFrame m #[(.int p1)] maxLocals)) t := fun t k => k702 t (st703 t k)
    have k705 : ∀ t, Steps p.tables e below (T703.setTop (mkF m 132 #[.val (.int p1), .val (.ref b2), .val (.int (9 : Int32)), .val (.ref s9), .unset, .unset, .unset] [(.ref s9)])) t → Steps p.tables e below (s₁.setTop (entryFrame m #[(.int p1)] maxLocals)) t := by
      intro t k
      refine k704 t ?_
      show Steps p.tables e below (T703.setTop (mkF m 128 #[.val (.int p1), .val (.ref b2), .val (.int (9 : Int32)), .val (.ref s9), .unset, .unset, .unset] [(.ref s6), (.ref s9)])) _
      refine Jvm.RoadKit.acmp (g := (mkF m 128 #[.val (.int p1), .val (.ref b2), .val (.int (9 : Int32)), .val (.ref s9), .unset, .unset, .unset] [(.ref s6), (.ref s9)])) X703 hx rfl rfl rfl (pc0 := 128) (pc' := 131) (same := false) rfl (hb hby at_128) rfl (decide_eq_false fun q => (own_ne oO9 oO6 (by decide)) (Value.ref.inj q)) (by decide) (by decide) ?_
      show Steps p.tables e below (T703.setTop (mkF m 131 #[.val (.int p1), .val (.ref b2), .val (.int (9 : Int32)), .val (.ref s9), .unset, .unset, .unset] [])) _
      refine XS.aloadN X703.here hx rfl (hb hby at_131) rfl rfl ?_
      exact k
    obtain ⟨T706, X706, e706, st706⟩ := getS2 X703 hx hZ hown (host := "") (Or.inl (hw _ (List.mem_of_getElem? (i := 18) rfl))) Via.refl e703 f459 (g := (mkF m 132 #[.val (.int p1), .val (.ref b2), .val (.int (9 : Int32)), .val (.ref s9), .unset, .unset, .unset] [(.ref s9)])) rfl (hb hby at_132)
    have k707 : ∀ t, Steps p.tables e below (T706.setTop (mkF m 135 #[.val (.int p1), .val (.ref b2), .val (.int (9 : Int32)), .val (.ref s9), .unset, .unset, .unset] [(.ref s7), (.ref s9)])) t → Steps p.tables e below (s₁.setTop (entryFrame m #[(.int p1)] maxLocals)) t := fun t k => k705 t (st706 t k)
    have k708 : ∀ t, Steps p.tables e below (T706.setTop (mkF m 139 #[.val (.int p1), .val (.ref b2), .val (.int (9 : Int32)), .val (.ref s9), .unset, .unset, .unset] [(.ref s9)])) t → Steps p.tables e below (s₁.setTop (entryFrame m #[(.int p1)] maxLocals)) t := by
      intro t k
      refine k707 t ?_
      show Steps p.tables e below (T706.setTop (mkF m 135 #[.val (.int p1), .val (.ref b2), .val (.int (9 : Int32)), .val (.ref s9), .unset, .unset, .unset] [(.ref s7), (.ref s9)])) _
      refine Jvm.RoadKit.acmp (g := (mkF m 135 #[.val (.int p1), .val (.ref b2), .val (.int (9 : Int32)), .val (.ref s9), .unset, .unset, .unset] [(.ref s7), (.ref s9)])) X706 hx rfl rfl rfl (pc0 := 135) (pc' := 138) (same := false) rfl (hb hby at_135) rfl (decide_eq_false fun q => (own_ne oO9 oO7 (by decide)) (Value.ref.inj q)) (by decide) (by decide) ?_
      show Steps p.tables e below (T706.setTop (mkF m 138 #[.val (.int p1), .val (.ref b2), .val (.int (9 : Int32)), .val (.ref s9), .unset, .unset, .unset] [])) _
      refine XS.aloadN X706.here hx rfl (hb hby at_138) rfl rfl ?_
      exact k
    obtain ⟨T709, X709, e709, st709⟩ := getS2 X706 hx hZ hown (host := "") (Or.inl (hw _ (List.mem_of_getElem? (i := 28) rfl))) Via.refl e706 f469 (g := (mkF m 139 #[.val (.int p1), .val (.ref b2), .val (.int (9 : Int32)), .val (.ref s9), .unset, .unset, .unset] [(.ref s9)])) rfl (hb hby at_139)
    have k710 : ∀ t, Steps p.tables e below (T709.setTop (mkF m 142 #[.val (.int p1), .val (.ref b2), .val (.int (9 : Int32)), .val (.ref s9), .unset, .unset, .unset] [(.ref s12), (.ref s9)])) t → Steps p.tables e below (s₁.setTop (entryFrame m #[(.int p1)] maxLocals)) t := fun t k => k708 t (st709 t k)
    have k711 : ∀ t, Steps p.tables e below (T709.setTop (mkF m 165 #[.val (.int p1), .val (.ref b2), .val (.int (9 : Int32)), .val (.ref s9), .val (.int (0 : Int32)), .val (.int (1 : Int32)), .unset] [(.ref s9)])) t → Steps p.tables e below (s₁.setTop (entryFrame m #[(.int p1)] maxLocals)) t := by
      intro t k
      refine k710 t ?_
      show Steps p.tables e below (T709.setTop (mkF m 142 #[.val (.int p1), .val (.ref b2), .val (.int (9 : Int32)), .val (.ref s9), .unset, .unset, .unset] [(.ref s12), (.ref s9)])) _
      refine Jvm.RoadKit.acmp (g := (mkF m 142 #[.val (.int p1), .val (.ref b2), .val (.int (9 : Int32)), .val (.ref s9), .unset, .unset, .unset] [(.ref s12), (.ref s9)])) X709 hx rfl rfl rfl (pc0 := 142) (pc' := 149) (same := false) rfl (hb hby at_142) rfl (decide_eq_false fun q => (own_ne oO9 oO12 (by decide)) (Value.ref.inj q)) (by decide) (by decide) ?_
      show Steps p.tables e below (T709.setTop (mkF m 149 #[.val (.int p1), .val (.ref b2), .val (.int (9 : Int32)), .val (.ref s9), .unset, .unset, .unset] [])) _
      refine XS.iconst X709.here hx rfl (hb hby at_149) ?_
      show Steps p.tables e below (T709.setTop (mkF m 150 #[.val (.int p1), .val (.ref b2), .val (.int (9 : Int32)), .val (.ref s9), .unset, .unset, .unset] [(.int (0 : Int32))])) _
      refine XS.istore X709.here hx rfl (hb hby at_150) rfl (l' := #[.val (.int p1), .val (.ref b2), .val (.int (9 : Int32)), .val (.ref s9), .val (.int (0 : Int32)), .unset, .unset]) rfl ?_
      show Steps p.tables e below (T709.setTop (mkF m 152 #[.val (.int p1), .val (.ref b2), .val (.int (9 : Int32)), .val (.ref s9), .val (.int (0 : Int32)), .unset, .unset] [])) _
      refine XS.iload X709.here hx rfl (hb hby at_152) rfl ?_
      show Steps p.tables e below (T709.setTop (mkF m 154 #[.val (.int p1), .val (.ref b2), .val (.int (9 : Int32)), .val (.ref s9), .val (.int (0 : Int32)), .unset, .unset] [(.int (0 : Int32))])) _
      refine XS.ifNo X709.here hx rfl (hb hby at_154) rfl ((if0 _ _).trans (teq (rfl : (0 : Int32) = (0 : Int32))).2) ?_
      show Steps p.tables e below (T709.setTop (mkF m 157 #[.val (.int p1), .val (.ref b2), .val (.int (9 : Int32)), .val (.ref s9), .val (.int (0 : Int32)), .unset, .unset] [])) _
      refine XS.iconst X709.here hx rfl (hb hby at_157) ?_
      show Steps p.tables e below (T709.setTop (mkF m 158 #[.val (.int p1), .val (.ref b2), .val (.int (9 : Int32)), .val (.ref s9), .val (.int (0 : Int32)), .unset, .unset] [(.int (1 : Int32))])) _
      refine XS.goto X709.here hx rfl (pc0 := 158) (pc' := 162) rfl (hb hby at_158) (by decide) (by decide) ?_
      show Steps p.tables e below (T709.setTop (mkF m 162 #[.val (.int p1), .val (.ref b2), .val (.int (9 : Int32)), .val (.ref s9), .val (.int (0 : Int32)), .unset, .unset] [(.int (1 : Int32))])) _
      refine XS.istore X709.here hx rfl (hb hby at_162) rfl (l' := #[.val (.int p1), .val (.ref b2), .val (.int (9 : Int32)), .val (.ref s9), .val (.int (0 : Int32)), .val (.int (1 : Int32)), .unset]) rfl ?_
      show Steps p.tables e below (T709.setTop (mkF m 164 #[.val (.int p1), .val (.ref b2), .val (.int (9 : Int32)), .val (.ref s9), .val (.int (0 : Int32)), .val (.int (1 : Int32)), .unset] [])) _
      refine XS.aloadN X709.here hx rfl (hb hby at_164) rfl rfl ?_
      exact k
    obtain ⟨cq712, kq712, q712a, q712b, q712c⟩ := isOf hZ e709 f464
    obtain ⟨_, _, ⟨T712, L712, k712c, n712⟩, -, X712, ⟨Lc712, hQ712, l712, y712, z712⟩, st712⟩ := X709.virtualBack hx (y := (⟨"com/example/eager_path/eagerpath/LocationPath$Axis", "leavesSubtree", "()Z"⟩ : MethodName)) (z := (⟨"com/example/eager_path/eagerpath/LocationPath$Axis", "leavesSubtree", "()Z"⟩ : MethodName)) hown (mvT hZ (hw _ (List.mem_of_getElem? (i := 31) rfl))) (mvT hZ (hw _ (List.mem_of_getElem? (i := 32) rfl))) (notFace_of_selects (args := #[]) (mvT hZ (hw _ (List.mem_of_getElem? (i := 34) rfl)))) (mvT hZ (hw _ (List.mem_of_getElem? (i := 34) rfl))) (mvT hZ (hw _ (List.mem_of_getElem? (i := 33) rfl))) (by decide) (backOf (W := 0) (own_rmls l Z a0 hw [] s9 s2 s4 s5 s8 s9 s10 s11 h444 n0 Z444 f449 f453 f455 f461 f463 f465 f467) hZ (hw _ (List.mem_of_getElem? (i := 35) rfl)) (hw _ (List.mem_of_getElem? (i := 3) rfl)) (by decide) (by decide)) q712a q712c (g := (mkF m 165 #[.val (.int p1), .val (.ref b2), .val (.int (9 : Int32)), .val (.ref s9), .val (.int (0 : Int32)), .val (.int (1 : Int32)), .unset] [(.ref s9)])) rfl (by rw [hml]; rfl) (Steps.refl _) (argsL := []) (rest := []) (lenOf own_pd0 rfl) rfl (by show 2 * 0 + _ ≤ _; exact Nat.le_of_eq rfl) (hb hby at_165) (fun _ _ => ⟨rfl, e709, (by decide : 1 + 0 ≤ _), (by decide : 13 + 0 ≤ _)⟩)
    dsimp only [Pt.U, Pt.locs, Pt.cells, Pt.slots] at X712 l712 y712 z712 st712 hQ712
    subst l712 y712 z712
    have hv712 : (own_vls s9 s2 s4 s5 s8 s9 s10 s11) = (1 : Int32) := ((if_neg (own_ne oO9 oO2 (by decide))).trans ((if_neg (own_ne oO9 oO4 (by decide))).trans ((if_neg (own_ne oO9 oO5 (by decide))).trans ((if_neg (own_ne oO9 oO8 (by decide))).trans (if_pos rfl)))))
    obtain ⟨hr712, N712q, e712⟩ := hQ712
    rw [hv712] at hr712
    subst hr712
    have N712 := Fr.app N444 N712q
    have k713 : ∀ t, Steps p.tables e below (T712.setTop (mkF m 168 #[.val (.int p1), .val (.ref b2), .val (.int (9 : Int32)), .val (.ref s9), .val (.int (0 : Int32)), .val (.int (1 : Int32)), .unset] [(.int (1 : Int32))])) t → Steps p.tables e below (s₁.setTop (entryFrame m #[(.int p1)] maxLocals)) t := fun t k => k711 t (st712.trans k)
    have k714 : ∀ t, Steps p.tables e below (T712.setTop (mkF m 180 #[.val (.int p1), .val (.ref b2), .val (.int (9 : Int32)), .val (.ref s9), .val (.int (0 : Int32)), .val (.int (1 : Int32)), .val (.int (1 : Int32))] [(.ref s9)])) t → Steps p.tables e below (s₁.setTop (entryFrame m #[(.int p1)] maxLocals)) t := by
      intro t k
      refine k713 t ?_
      show Steps p.tables e below (T712.setTop (mkF m 168 #[.val (.int p1), .val (.ref b2), .val (.int (9 : Int32)), .val (.ref s9), .val (.int (0 : Int32)), .val (.int (1 : Int32)), .unset] [(.int (1 : Int32))])) _
      refine XS.istore X712.here hx rfl (hb hby at_168) rfl (l' := #[.val (.int p1), .val (.ref b2), .val (.int (9 : Int32)), .val (.ref s9), .val (.int (0 : Int32)), .val (.int (1 : Int32)), .val (.int (1 : Int32))]) rfl ?_
      show Steps p.tables e below (T712.setTop (mkF m 170 #[.val (.int p1), .val (.ref b2), .val (.int (9 : Int32)), .val (.ref s9), .val (.int (0 : Int32)), .val (.int (1 : Int32)), .val (.int (1 : Int32))] [])) _
      refine XS.iload X712.here hx rfl (hb hby at_170) rfl ?_
      show Steps p.tables e below (T712.setTop (mkF m 172 #[.val (.int p1), .val (.ref b2), .val (.int (9 : Int32)), .val (.ref s9), .val (.int (0 : Int32)), .val (.int (1 : Int32)), .val (.int (1 : Int32))] [(.int (1 : Int32))])) _
      refine XS.iload X712.here hx rfl (hb hby at_172) rfl ?_
      show Steps p.tables e below (T712.setTop (mkF m 174 #[.val (.int p1), .val (.ref b2), .val (.int (9 : Int32)), .val (.ref s9), .val (.int (0 : Int32)), .val (.int (1 : Int32)), .val (.int (1 : Int32))] [(.int (1 : Int32)), (.int (1 : Int32))])) _
      refine XS.icmpYes X712.here hx rfl (pc0 := 174) (pc' := 179) rfl (hb hby at_174) rfl (teq (rfl : (1 : Int32) = (1 : Int32))).1 (by decide) (by decide) ?_
      show Steps p.tables e below (T712.setTop (mkF m 179 #[.val (.int p1), .val (.ref b2), .val (.int (9 : Int32)), .val (.ref s9), .val (.int (0 : Int32)), .val (.int (1 : Int32)), .val (.int (1 : Int32))] [])) _
      refine XS.aloadN X712.here hx rfl (hb hby at_179) rfl rfl ?_
      exact k
    obtain ⟨cq715, kq715, q715a, q715b, q715c⟩ := isOf hZ e712 f464
    obtain ⟨_, _, ⟨T715, L715, k715c, n715⟩, -, X715, ⟨Lc715, hQ715, l715, y715, z715⟩, st715⟩ := X712.virtualBack hx (y := (⟨"com/example/eager_path/eagerpath/LocationPath$Axis", "reverse", "()Z"⟩ : MethodName)) (z := (⟨"com/example/eager_path/eagerpath/LocationPath$Axis", "reverse", "()Z"⟩ : MethodName)) hown (mvT hZ (hw _ (List.mem_of_getElem? (i := 43) rfl))) (mvT hZ (hw _ (List.mem_of_getElem? (i := 44) rfl))) (notFace_of_selects (args := #[]) (mvT hZ (hw _ (List.mem_of_getElem? (i := 46) rfl)))) (mvT hZ (hw _ (List.mem_of_getElem? (i := 46) rfl))) (mvT hZ (hw _ (List.mem_of_getElem? (i := 45) rfl))) (by decide) (backOf (W := 0) (own_rmrv l Z a0 hw [] s9 s4 s5 s10 s11 h444 n0 Z444 f453 f455 f465 f467) hZ (hw _ (List.mem_of_getElem? (i := 47) rfl)) (hw _ (List.mem_of_getElem? (i := 3) rfl)) (by decide) (by decide)) q715a q715c (g := (mkF m 180 #[.val (.int p1), .val (.ref b2), .val (.int (9 : Int32)), .val (.ref s9), .val (.int (0 : Int32)), .val (.int (1 : Int32)), .val (.int (1 : Int32))] [(.ref s9)])) rfl (by rw [hml]; rfl) (Steps.refl _) (argsL := []) (rest := []) (lenOf own_pd0 rfl) rfl (by show 2 * 0 + _ ≤ _; exact Nat.le_of_eq rfl) (hb hby at_180) (fun _ _ => ⟨rfl, e712, (by decide : 1 + 0 ≤ _), (by decide : 13 + 0 ≤ _)⟩)
    dsimp only [Pt.U, Pt.locs, Pt.cells, Pt.slots] at X715 l715 y715 z715 st715 hQ715
    subst l715 y715 z715
    have hv715 : (own_vrv s9 s4 s5 s10 s11) = (0 : Int32) := ((if_neg (own_ne oO9 oO4 (by decide))).trans ((if_neg (own_ne oO9 oO5 (by decide))).trans ((if_neg (own_ne oO9 oO10 (by decide))).trans (if_neg (own_ne oO9 oO11 (by decide))))))
    obtain ⟨hr715, N715q, e715⟩ := hQ715
    rw [hv715] at hr715
    subst hr715
    have N715 := Fr.app N712 N715q
    have k716 : ∀ t, Steps p.tables e below (T715.setTop (mkF m 183 #[.val (.int p1), .val (.ref b2), .val (.int (9 : Int32)), .val (.ref s9), .val (.int (0 : Int32)), .val (.int (1 : Int32)), .val (.int (1 : Int32))] [(.int (0 : Int32))])) t → Steps p.tables e below (s₁.setTop (entryFrame m #[(.int p1)] maxLocals)) t := fun t k => k714 t (st715.trans k)
    have k717 : ∀ t, Steps p.tables e below (T715.setTop (mkF m 194 #[.val (.int p1), .val (.ref b2), .val (.int (9 : Int32)), .val (.ref s9), .val (.int (0 : Int32)), .val (.int (1 : Int32)), .val (.int (1 : Int32))] [(.int (1 : Int32))])) t → Steps p.tables e below (s₁.setTop (entryFrame m #[(.int p1)] maxLocals)) t := by
      intro t k
      refine k716 t ?_
      show Steps p.tables e below (T715.setTop (mkF m 183 #[.val (.int p1), .val (.ref b2), .val (.int (9 : Int32)), .val (.ref s9), .val (.int (0 : Int32)), .val (.int (1 : Int32)), .val (.int (1 : Int32))] [(.int (0 : Int32))])) _
      refine XS.ifYes X715.here hx rfl (pc0 := 183) (pc' := 193) rfl (hb hby at_183) rfl ((if0 _ _).trans (teq (rfl : (0 : Int32) = (0 : Int32))).1) (by decide) (by decide) ?_
      show Steps p.tables e below (T715.setTop (mkF m 193 #[.val (.int p1), .val (.ref b2), .val (.int (9 : Int32)), .val (.ref s9), .val (.int (0 : Int32)), .val (.int (1 : Int32)), .val (.int (1 : Int32))] [])) _
      refine XS.iconst X715.here hx rfl (hb hby at_193) ?_
      exact k
    obtain ⟨fs, hr, hrun, hended, hW, hsame⟩ := X715.leave (v := (some (.int (1 : Int32)))) (fun h => by rw [Bd.returns] at h; cases h)
    refine ⟨_, _, k717 _ ?_, hrun, hended, _, _, rfl, ?_, ⟨_, rfl⟩, hW, hsame.mono (by decide) (by decide)⟩
    · exact retN X715 hx (t := .boolean) Bd.returns (by simp) (hb hby at_194) hr
    · exact ⟨rfl, N715⟩
  · have k718 : ∀ t, Steps p.tables e below (T444.setTop (mkF m 99 #[.val (.int p1), .val (.ref b2), .val (.int (10 : Int32)), .unset, .unset, .unset, .unset] [])) t → Steps p.tables e below (s₁.setTop (entryFrame m #[(.int p1)] maxLocals)) t := by have z := k472; rw [he] at z; exact z
    obtain ⟨cl719, Ar719, qa719, Sa719, Na719, Ha719, Ga719⟩ := id V444
    have hin720 : ¬ ((10 : Int32) < 0 ∨ cl719.slots.size ≤ ((10 : Int32)).toNatClampNeg) := inb_of Sa719 ⟨by decide, by decide⟩
    have hat721 : cl719.slots[((10 : Int32)).toNatClampNeg]? = some (.ref s10) := Ha719 10 (Nat.lt_of_not_le fun q => hin720 (Or.inr q))
    have k722 : ∀ t, Steps p.tables e below (T444.setTop (mkF m 104 #[.val (.int p1), .val (.ref b2), .val (.int (10 : Int32)), .val (.ref s10), .unset, .unset, .unset] [(.ref s10)])) t → Steps p.tables e below (s₁.setTop (entryFrame m #[(.int p1)] maxLocals)) t := by
      intro t k
      refine k718 t ?_
      show Steps p.tables e below (T444.setTop (mkF m 99 #[.val (.int p1), .val (.ref b2), .val (.int (10 : Int32)), .unset, .unset, .unset, .unset] [])) _
      refine XS.aloadN X444.here hx rfl (hb hby at_99) rfl rfl ?_
      show Steps p.tables e below (T444.setTop (mkF m 100 #[.val (.int p1), .val (.ref b2), .val (.int (10 : Int32)), .unset, .unset, .unset, .unset] [(.ref b2)])) _
      refine XS.iloadN X444.here hx rfl (hb hby at_100) rfl ?_
      show Steps p.tables e below (T444.setTop (mkF m 101 #[.val (.int p1), .val (.ref b2), .val (.int (10 : Int32)), .unset, .unset, .unset, .unset] [(.int (10 : Int32)), (.ref b2)])) _
      refine X444.aaload hx (j := (10 : Int32)) (v := (.ref s10)) (by rw [e444]; exact Ar719.1) (State.isArrayOf_alike hZ.alike Ar719.2.1) rfl Ar719.2.2 hin720 hat721 (g := (mkF m 101 #[.val (.int p1), .val (.ref b2), .val (.int (10 : Int32)), .unset, .unset, .unset, .unset] [(.int (10 : Int32)), (.ref b2)])) rfl rfl (hb hby at_101) _ ?_
      show Steps p.tables e below (T444.setTop (mkF m 102 #[.val (.int p1), .val (.ref b2), .val (.int (10 : Int32)), .unset, .unset, .unset, .unset] [(.ref s10)])) _
      refine XS.astoreN X444.here hx rfl (hb hby at_102) rfl rfl (l' := #[.val (.int p1), .val (.ref b2), .val (.int (10 : Int32)), .val (.ref s10), .unset, .unset, .unset]) rfl ?_
      show Steps p.tables e below (T444.setTop (mkF m 103 #[.val (.int p1), .val (.ref b2), .val (.int (10 : Int32)), .val (.ref s10), .unset, .unset, .unset] [])) _
      refine XS.aloadN X444.here hx rfl (hb hby at_103) rfl rfl ?_
      exact k
    obtain ⟨T723, X723, e723, st723⟩ := getS2 X444 hx hZ hown (host := "") (Or.inl (hw _ (List.mem_of_getElem? (i := 2) rfl))) Via.refl e444 f445 (g := (mkF m 104 #[.val (.int p1), .val (.ref b2), .val (.int (10 : Int32)), .val (.ref s10), .unset, .unset, .unset] [(.ref s10)])) rfl (hb hby at_104)
    have k724 : ∀ t, Steps p.tables e below (T723.setTop (mkF m 107 #[.val (.int p1), .val (.ref b2), .val (.int (10 : Int32)), .val (.ref s10), .unset, .unset, .unset] [(.ref s0), (.ref s10)])) t → Steps p.tables e below (s₁.setTop (entryFrame m #[(.int p1)] maxLocals)) t := fun t k => k722 t (st723 t k)
    have k725 : ∀ t, Steps p.tables e below (T723.setTop (mkF m 111 #[.val (.int p1), .val (.ref b2), .val (.int (10 : Int32)), .val (.ref s10), .unset, .unset, .unset] [(.ref s10)])) t → Steps p.tables e below (s₁.setTop (entryFrame m #[(.int p1)] maxLocals)) t := by
      intro t k
      refine k724 t ?_
      show Steps p.tables e below (T723.setTop (mkF m 107 #[.val (.int p1), .val (.ref b2), .val (.int (10 : Int32)), .val (.ref s10), .unset, .unset, .unset] [(.ref s0), (.ref s10)])) _
      refine Jvm.RoadKit.acmp (g := (mkF m 107 #[.val (.int p1), .val (.ref b2), .val (.int (10 : Int32)), .val (.ref s10), .unset, .unset, .unset] [(.ref s0), (.ref s10)])) X723 hx rfl rfl rfl (pc0 := 107) (pc' := 110) (same := false) rfl (hb hby at_107) rfl (decide_eq_false fun q => (own_ne oO10 oO0 (by decide)) (Value.ref.inj q)) (by decide) (by decide) ?_
      show Steps p.tables e below (T723.setTop (mkF m 110 #[.val (.int p1), .val (.ref b2), .val (.int (10 : Int32)), .val (.ref s10), .unset, .unset, .unset] [])) _
      refine XS.aloadN X723.here hx rfl (hb hby at_110) rfl rfl ?_
      exact k
    obtain ⟨T726, X726, e726, st726⟩ := getS2 X723 hx hZ hown (host := "") (Or.inl (hw _ (List.mem_of_getElem? (i := 6) rfl))) Via.refl e723 f447 (g := (mkF m 111 #[.val (.int p1), .val (.ref b2), .val (.int (10 : Int32)), .val (.ref s10), .unset, .unset, .unset] [(.ref s10)])) rfl (hb hby at_111)
    have k727 : ∀ t, Steps p.tables e below (T726.setTop (mkF m 114 #[.val (.int p1), .val (.ref b2), .val (.int (10 : Int32)), .val (.ref s10), .unset, .unset, .unset] [(.ref s1), (.ref s10)])) t → Steps p.tables e below (s₁.setTop (entryFrame m #[(.int p1)] maxLocals)) t := fun t k => k725 t (st726 t k)
    have k728 : ∀ t, Steps p.tables e below (T726.setTop (mkF m 118 #[.val (.int p1), .val (.ref b2), .val (.int (10 : Int32)), .val (.ref s10), .unset, .unset, .unset] [(.ref s10)])) t → Steps p.tables e below (s₁.setTop (entryFrame m #[(.int p1)] maxLocals)) t := by
      intro t k
      refine k727 t ?_
      show Steps p.tables e below (T726.setTop (mkF m 114 #[.val (.int p1), .val (.ref b2), .val (.int (10 : Int32)), .val (.ref s10), .unset, .unset, .unset] [(.ref s1), (.ref s10)])) _
      refine Jvm.RoadKit.acmp (g := (mkF m 114 #[.val (.int p1), .val (.ref b2), .val (.int (10 : Int32)), .val (.ref s10), .unset, .unset, .unset] [(.ref s1), (.ref s10)])) X726 hx rfl rfl rfl (pc0 := 114) (pc' := 117) (same := false) rfl (hb hby at_114) rfl (decide_eq_false fun q => (own_ne oO10 oO1 (by decide)) (Value.ref.inj q)) (by decide) (by decide) ?_
      show Steps p.tables e below (T726.setTop (mkF m 117 #[.val (.int p1), .val (.ref b2), .val (.int (10 : Int32)), .val (.ref s10), .unset, .unset, .unset] [])) _
      refine XS.aloadN X726.here hx rfl (hb hby at_117) rfl rfl ?_
      exact k
    obtain ⟨T729, X729, e729, st729⟩ := getS2 X726 hx hZ hown (host := "") (Or.inl (hw _ (List.mem_of_getElem? (i := 10) rfl))) Via.refl e726 f451 (g := (mkF m 118 #[.val (.int p1), .val (.ref b2), .val (.int (10 : Int32)), .val (.ref s10), .unset, .unset, .unset] [(.ref s10)])) rfl (hb hby at_118)
    have k730 : ∀ t, Steps p.tables e below (T729.setTop (mkF m 121 #[.val (.int p1), .val (.ref b2), .val (.int (10 : Int32)), .val (.ref s10), .unset, .unset, .unset] [(.ref s3), (.ref s10)])) t → Steps p.tables e below (s₁.setTop (entryFrame m #[(.int p1)] maxLocals)) t := fun t k => k728 t (st729 t k)
    have k731 : ∀ t, Steps p.tables e below (T729.setTop (mkF m 125 #[.val (.int p1), .val (.ref b2), .val (.int (10 : Int32)), .val (.ref s10), .unset, .unset, .unset] [(.ref s10)])) t → Steps p.tables e below (s₁.setTop (entryFrame m #[(.int p1)] maxLocals)) t := by
      intro t k
      refine k730 t ?_
      show Steps p.tables e below (T729.setTop (mkF m 121 #[.val (.int p1), .val (.ref b2), .val (.int (10 : Int32)), .val (.ref s10), .unset, .unset, .unset] [(.ref s3), (.ref s10)])) _
      refine Jvm.RoadKit.acmp (g := (mkF m 121 #[.val (.int p1), .val (.ref b2), .val (.int (10 : Int32)), .val (.ref s10), .unset, .unset, .unset] [(.ref s3), (.ref s10)])) X729 hx rfl rfl rfl (pc0 := 121) (pc' := 124) (same := false) rfl (hb hby at_121) rfl (decide_eq_false fun q => (own_ne oO10 oO3 (by decide)) (Value.ref.inj q)) (by decide) (by decide) ?_
      show Steps p.tables e below (T729.setTop (mkF m 124 #[.val (.int p1), .val (.ref b2), .val (.int (10 : Int32)), .val (.ref s10), .unset, .unset, .unset] [])) _
      refine XS.aloadN X729.here hx rfl (hb hby at_124) rfl rfl ?_
      exact k
    obtain ⟨T732, X732, e732, st732⟩ := getS2 X729 hx hZ hown (host := "") (Or.inl (hw _ (List.mem_of_getElem? (i := 16) rfl))) Via.refl e729 f457 (g := (mkF m 125 #[.val (.int p1), .val (.ref b2), .val (.int (10 : Int32)), .val (.ref s10), .unset, .unset, .unset] [(.ref s10)])) rfl (hb hby at_125)
    have k733 : ∀ t, Steps p.tables e below (T732.setTop (mkF m 128 #[.val (.int p1), .val (.ref b2), .val (.int (10 : Int32)), .val (.ref s10), .unset, .unset, .unset] [(.ref s6), (.ref s10)])) t → Steps p.tables e below (s₁.setTop (entryFrame m #[(.int p1)] maxLocals)) t := fun t k => k731 t (st732 t k)
    have k734 : ∀ t, Steps p.tables e below (T732.setTop (mkF m 132 #[.val (.int p1), .val (.ref b2), .val (.int (10 : Int32)), .val (.ref s10), .unset, .unset, .unset] [(.ref s10)])) t → Steps p.tables e below (s₁.setTop (entryFrame m #[(.int p1)] maxLocals)) t := by
      intro t k
      refine k733 t ?_
      show Steps p.tables e below (T732.setTop (mkF m 128 #[.val (.int p1), .val (.ref b2), .val (.int (10 : Int32)), .val (.ref s10), .unset, .unset, .unset] [(.ref s6), (.ref s10)])) _
      refine Jvm.RoadKit.acmp (g := (mkF m 128 #[.val (.int p1), .val (.ref b2), .val (.int (10 : Int32)), .val (.ref s10), .unset, .unset, .unset] [(.ref s6), (.ref s10)])) X732 hx rfl rfl rfl (pc0 := 128) (pc' := 131) (same := false) rfl (hb hby at_128) rfl (decide_eq_false fun q => (own_ne oO10 oO6 (by decide)) (Value.ref.inj q)) (by decide) (by decide) ?_
      show Steps p.tables e below (T732.setTop (mkF m 131 #[.val (.int p1), .val (.ref b2), .val (.int (10 : Int32)), .val (.ref s10), .unset, .unset, .unset] [])) _
      refine XS.aloadN X732.here hx rfl (hb hby at_131) rfl rfl ?_
      exact k
    obtain ⟨T735, X735, e735, st735⟩ := getS2 X732 hx hZ hown (host := "") (Or.inl (hw _ (List.mem_of_getElem? (i := 18) rfl))) Via.refl e732 f459 (g := (mkF m 132 #[.val (.int p1), .val (.ref b2), .val (.int (10 : Int32)), .val (.ref s10), .unset, .unset, .unset] [(.ref s10)])) rfl (hb hby at_132)
    have k736 : ∀ t, Steps p.tables e below (T735.setTop (mkF m 135 #[.val (.int p1), .val (.ref b2), .val (.int (10 : Int32)), .val (.ref s10), .unset, .unset, .unset] [(.ref s7), (.ref s10)])) t → Steps p.tables e below (s₁.setTop (entryFrame m #[(.int p1)] maxLocals)) t := fun t k => k734 t (st735 t k)
    have k737 : ∀ t, Steps p.tables e below (T735.setTop (mkF m 139 #[.val (.int p1), .val (.ref b2), .val (.int (10 : Int32)), .val (.ref s10), .unset, .unset, .unset] [(.ref s10)])) t → Steps p.tables e below (s₁.setTop (entryFrame m #[(.int p1)] maxLocals)) t := by
      intro t k
      refine k736 t ?_
      show Steps p.tables e below (T735.setTop (mkF m 135 #[.val (.int p1), .val (.ref b2), .val (.int (10 : Int32)), .val (.ref s10), .unset, .unset, .unset] [(.ref s7), (.ref s10)])) _
      refine Jvm.RoadKit.acmp (g := (mkF m 135 #[.val (.int p1), .val (.ref b2), .val (.int (10 : Int32)), .val (.ref s10), .unset, .unset, .unset] [(.ref s7), (.ref s10)])) X735 hx rfl rfl rfl (pc0 := 135) (pc' := 138) (same := false) rfl (hb hby at_135) rfl (decide_eq_false fun q => (own_ne oO10 oO7 (by decide)) (Value.ref.inj q)) (by decide) (by decide) ?_
      show Steps p.tables e below (T735.setTop (mkF m 138 #[.val (.int p1), .val (.ref b2), .val (.int (10 : Int32)), .val (.ref s10), .unset, .unset, .unset] [])) _
      refine XS.aloadN X735.here hx rfl (hb hby at_138) rfl rfl ?_
      exact k
    obtain ⟨T738, X738, e738, st738⟩ := getS2 X735 hx hZ hown (host := "") (Or.inl (hw _ (List.mem_of_getElem? (i := 28) rfl))) Via.refl e735 f469 (g := (mkF m 139 #[.val (.int p1), .val (.ref b2), .val (.int (10 : Int32)), .val (.ref s10), .unset, .unset, .unset] [(.ref s10)])) rfl (hb hby at_139)
    have k739 : ∀ t, Steps p.tables e below (T738.setTop (mkF m 142 #[.val (.int p1), .val (.ref b2), .val (.int (10 : Int32)), .val (.ref s10), .unset, .unset, .unset] [(.ref s12), (.ref s10)])) t → Steps p.tables e below (s₁.setTop (entryFrame m #[(.int p1)] maxLocals)) t := fun t k => k737 t (st738 t k)
    have k740 : ∀ t, Steps p.tables e below (T738.setTop (mkF m 165 #[.val (.int p1), .val (.ref b2), .val (.int (10 : Int32)), .val (.ref s10), .val (.int (0 : Int32)), .val (.int (1 : Int32)), .unset] [(.ref s10)])) t → Steps p.tables e below (s₁.setTop (entryFrame m #[(.int p1)] maxLocals)) t := by
      intro t k
      refine k739 t ?_
      show Steps p.tables e below (T738.setTop (mkF m 142 #[.val (.int p1), .val (.ref b2), .val (.int (10 : Int32)), .val (.ref s10), .unset, .unset, .unset] [(.ref s12), (.ref s10)])) _
      refine Jvm.RoadKit.acmp (g := (mkF m 142 #[.val (.int p1), .val (.ref b2), .val (.int (10 : Int32)), .val (.ref s10), .unset, .unset, .unset] [(.ref s12), (.ref s10)])) X738 hx rfl rfl rfl (pc0 := 142) (pc' := 149) (same := false) rfl (hb hby at_142) rfl (decide_eq_false fun q => (own_ne oO10 oO12 (by decide)) (Value.ref.inj q)) (by decide) (by decide) ?_
      show Steps p.tables e below (T738.setTop (mkF m 149 #[.val (.int p1), .val (.ref b2), .val (.int (10 : Int32)), .val (.ref s10), .unset, .unset, .unset] [])) _
      refine XS.iconst X738.here hx rfl (hb hby at_149) ?_
      show Steps p.tables e below (T738.setTop (mkF m 150 #[.val (.int p1), .val (.ref b2), .val (.int (10 : Int32)), .val (.ref s10), .unset, .unset, .unset] [(.int (0 : Int32))])) _
      refine XS.istore X738.here hx rfl (hb hby at_150) rfl (l' := #[.val (.int p1), .val (.ref b2), .val (.int (10 : Int32)), .val (.ref s10), .val (.int (0 : Int32)), .unset, .unset]) rfl ?_
      show Steps p.tables e below (T738.setTop (mkF m 152 #[.val (.int p1), .val (.ref b2), .val (.int (10 : Int32)), .val (.ref s10), .val (.int (0 : Int32)), .unset, .unset] [])) _
      refine XS.iload X738.here hx rfl (hb hby at_152) rfl ?_
      show Steps p.tables e below (T738.setTop (mkF m 154 #[.val (.int p1), .val (.ref b2), .val (.int (10 : Int32)), .val (.ref s10), .val (.int (0 : Int32)), .unset, .unset] [(.int (0 : Int32))])) _
      refine XS.ifNo X738.here hx rfl (hb hby at_154) rfl ((if0 _ _).trans (teq (rfl : (0 : Int32) = (0 : Int32))).2) ?_
      show Steps p.tables e below (T738.setTop (mkF m 157 #[.val (.int p1), .val (.ref b2), .val (.int (10 : Int32)), .val (.ref s10), .val (.int (0 : Int32)), .unset, .unset] [])) _
      refine XS.iconst X738.here hx rfl (hb hby at_157) ?_
      show Steps p.tables e below (T738.setTop (mkF m 158 #[.val (.int p1), .val (.ref b2), .val (.int (10 : Int32)), .val (.ref s10), .val (.int (0 : Int32)), .unset, .unset] [(.int (1 : Int32))])) _
      refine XS.goto X738.here hx rfl (pc0 := 158) (pc' := 162) rfl (hb hby at_158) (by decide) (by decide) ?_
      show Steps p.tables e below (T738.setTop (mkF m 162 #[.val (.int p1), .val (.ref b2), .val (.int (10 : Int32)), .val (.ref s10), .val (.int (0 : Int32)), .unset, .unset] [(.int (1 : Int32))])) _
      refine XS.istore X738.here hx rfl (hb hby at_162) rfl (l' := #[.val (.int p1), .val (.ref b2), .val (.int (10 : Int32)), .val (.ref s10), .val (.int (0 : Int32)), .val (.int (1 : Int32)), .unset]) rfl ?_
      show Steps p.tables e below (T738.setTop (mkF m 164 #[.val (.int p1), .val (.ref b2), .val (.int (10 : Int32)), .val (.ref s10), .val (.int (0 : Int32)), .val (.int (1 : Int32)), .unset] [])) _
      refine XS.aloadN X738.here hx rfl (hb hby at_164) rfl rfl ?_
      exact k
    obtain ⟨cq741, kq741, q741a, q741b, q741c⟩ := isOf hZ e738 f466
    obtain ⟨_, _, ⟨T741, L741, k741c, n741⟩, -, X741, ⟨Lc741, hQ741, l741, y741, z741⟩, st741⟩ := X738.virtualBack hx (y := (⟨"com/example/eager_path/eagerpath/LocationPath$Axis", "leavesSubtree", "()Z"⟩ : MethodName)) (z := (⟨"com/example/eager_path/eagerpath/LocationPath$Axis", "leavesSubtree", "()Z"⟩ : MethodName)) hown (mvT hZ (hw _ (List.mem_of_getElem? (i := 31) rfl))) (mvT hZ (hw _ (List.mem_of_getElem? (i := 32) rfl))) (notFace_of_selects (args := #[]) (mvT hZ (hw _ (List.mem_of_getElem? (i := 34) rfl)))) (mvT hZ (hw _ (List.mem_of_getElem? (i := 34) rfl))) (mvT hZ (hw _ (List.mem_of_getElem? (i := 33) rfl))) (by decide) (backOf (W := 0) (own_rmls l Z a0 hw [] s10 s2 s4 s5 s8 s9 s10 s11 h444 n0 Z444 f449 f453 f455 f461 f463 f465 f467) hZ (hw _ (List.mem_of_getElem? (i := 35) rfl)) (hw _ (List.mem_of_getElem? (i := 3) rfl)) (by decide) (by decide)) q741a q741c (g := (mkF m 165 #[.val (.int p1), .val (.ref b2), .val (.int (10 : Int32)), .val (.ref s10), .val (.int (0 : Int32)), .val (.int (1 : Int32)), .unset] [(.ref s10)])) rfl (by rw [hml]; rfl) (Steps.refl _) (argsL := []) (rest := []) (lenOf own_pd0 rfl) rfl (by show 2 * 0 + _ ≤ _; exact Nat.le_of_eq rfl) (hb hby at_165) (fun _ _ => ⟨rfl, e738, (by decide : 1 + 0 ≤ _), (by decide : 13 + 0 ≤ _)⟩)
    dsimp only [Pt.U, Pt.locs, Pt.cells, Pt.slots] at X741 l741 y741 z741 st741 hQ741
    subst l741 y741 z741
    have hv741 : (own_vls s10 s2 s4 s5 s8 s9 s10 s11) = (1 : Int32) := ((if_neg (own_ne oO10 oO2 (by decide))).trans ((if_neg (own_ne oO10 oO4 (by decide))).trans ((if_neg (own_ne oO10 oO5 (by decide))).trans ((if_neg (own_ne oO10 oO8 (by decide))).trans ((if_neg (own_ne oO10 oO9 (by decide))).trans (if_pos rfl))))))
    obtain ⟨hr741, N741q, e741⟩ := hQ741
    rw [hv741] at hr741
    subst hr741
    have N741 := Fr.app N444 N741q
    have k742 : ∀ t, Steps p.tables e below (T741.setTop (mkF m 168 #[.val (.int p1), .val (.ref b2), .val (.int (10 : Int32)), .val (.ref s10), .val (.int (0 : Int32)), .val (.int (1 : Int32)), .unset] [(.int (1 : Int32))])) t → Steps p.tables e below (s₁.setTop (entryFrame m #[(.int p1)] maxLocals)) t := fun t k => k740 t (st741.trans k)
    have k743 : ∀ t, Steps p.tables e below (T741.setTop (mkF m 180 #[.val (.int p1), .val (.ref b2), .val (.int (10 : Int32)), .val (.ref s10), .val (.int (0 : Int32)), .val (.int (1 : Int32)), .val (.int (1 : Int32))] [(.ref s10)])) t → Steps p.tables e below (s₁.setTop (entryFrame m #[(.int p1)] maxLocals)) t := by
      intro t k
      refine k742 t ?_
      show Steps p.tables e below (T741.setTop (mkF m 168 #[.val (.int p1), .val (.ref b2), .val (.int (10 : Int32)), .val (.ref s10), .val (.int (0 : Int32)), .val (.int (1 : Int32)), .unset] [(.int (1 : Int32))])) _
      refine XS.istore X741.here hx rfl (hb hby at_168) rfl (l' := #[.val (.int p1), .val (.ref b2), .val (.int (10 : Int32)), .val (.ref s10), .val (.int (0 : Int32)), .val (.int (1 : Int32)), .val (.int (1 : Int32))]) rfl ?_
      show Steps p.tables e below (T741.setTop (mkF m 170 #[.val (.int p1), .val (.ref b2), .val (.int (10 : Int32)), .val (.ref s10), .val (.int (0 : Int32)), .val (.int (1 : Int32)), .val (.int (1 : Int32))] [])) _
      refine XS.iload X741.here hx rfl (hb hby at_170) rfl ?_
      show Steps p.tables e below (T741.setTop (mkF m 172 #[.val (.int p1), .val (.ref b2), .val (.int (10 : Int32)), .val (.ref s10), .val (.int (0 : Int32)), .val (.int (1 : Int32)), .val (.int (1 : Int32))] [(.int (1 : Int32))])) _
      refine XS.iload X741.here hx rfl (hb hby at_172) rfl ?_
      show Steps p.tables e below (T741.setTop (mkF m 174 #[.val (.int p1), .val (.ref b2), .val (.int (10 : Int32)), .val (.ref s10), .val (.int (0 : Int32)), .val (.int (1 : Int32)), .val (.int (1 : Int32))] [(.int (1 : Int32)), (.int (1 : Int32))])) _
      refine XS.icmpYes X741.here hx rfl (pc0 := 174) (pc' := 179) rfl (hb hby at_174) rfl (teq (rfl : (1 : Int32) = (1 : Int32))).1 (by decide) (by decide) ?_
      show Steps p.tables e below (T741.setTop (mkF m 179 #[.val (.int p1), .val (.ref b2), .val (.int (10 : Int32)), .val (.ref s10), .val (.int (0 : Int32)), .val (.int (1 : Int32)), .val (.int (1 : Int32))] [])) _
      refine XS.aloadN X741.here hx rfl (hb hby at_179) rfl rfl ?_
      exact k
    obtain ⟨cq744, kq744, q744a, q744b, q744c⟩ := isOf hZ e741 f466
    obtain ⟨_, _, ⟨T744, L744, k744c, n744⟩, -, X744, ⟨Lc744, hQ744, l744, y744, z744⟩, st744⟩ := X741.virtualBack hx (y := (⟨"com/example/eager_path/eagerpath/LocationPath$Axis", "reverse", "()Z"⟩ : MethodName)) (z := (⟨"com/example/eager_path/eagerpath/LocationPath$Axis", "reverse", "()Z"⟩ : MethodName)) hown (mvT hZ (hw _ (List.mem_of_getElem? (i := 43) rfl))) (mvT hZ (hw _ (List.mem_of_getElem? (i := 44) rfl))) (notFace_of_selects (args := #[]) (mvT hZ (hw _ (List.mem_of_getElem? (i := 46) rfl)))) (mvT hZ (hw _ (List.mem_of_getElem? (i := 46) rfl))) (mvT hZ (hw _ (List.mem_of_getElem? (i := 45) rfl))) (by decide) (backOf (W := 0) (own_rmrv l Z a0 hw [] s10 s4 s5 s10 s11 h444 n0 Z444 f453 f455 f465 f467) hZ (hw _ (List.mem_of_getElem? (i := 47) rfl)) (hw _ (List.mem_of_getElem? (i := 3) rfl)) (by decide) (by decide)) q744a q744c (g := (mkF m 180 #[.val (.int p1), .val (.ref b2), .val (.int (10 : Int32)), .val (.ref s10), .val (.int (0 : Int32)), .val (.int (1 : Int32)), .val (.int (1 : Int32))] [(.ref s10)])) rfl (by rw [hml]; rfl) (Steps.refl _) (argsL := []) (rest := []) (lenOf own_pd0 rfl) rfl (by show 2 * 0 + _ ≤ _; exact Nat.le_of_eq rfl) (hb hby at_180) (fun _ _ => ⟨rfl, e741, (by decide : 1 + 0 ≤ _), (by decide : 13 + 0 ≤ _)⟩)
    dsimp only [Pt.U, Pt.locs, Pt.cells, Pt.slots] at X744 l744 y744 z744 st744 hQ744
    subst l744 y744 z744
    have hv744 : (own_vrv s10 s4 s5 s10 s11) = (1 : Int32) := ((if_neg (own_ne oO10 oO4 (by decide))).trans ((if_neg (own_ne oO10 oO5 (by decide))).trans (if_pos rfl)))
    obtain ⟨hr744, N744q, e744⟩ := hQ744
    rw [hv744] at hr744
    subst hr744
    have N744 := Fr.app N741 N744q
    have k745 : ∀ t, Steps p.tables e below (T744.setTop (mkF m 183 #[.val (.int p1), .val (.ref b2), .val (.int (10 : Int32)), .val (.ref s10), .val (.int (0 : Int32)), .val (.int (1 : Int32)), .val (.int (1 : Int32))] [(.int (1 : Int32))])) t → Steps p.tables e below (s₁.setTop (entryFrame m #[(.int p1)] maxLocals)) t := fun t k => k743 t (st744.trans k)
    have k746 : ∀ t, Steps p.tables e below (T744.setTop (mkF m 194 #[.val (.int p1), .val (.ref b2), .val (.int (10 : Int32)), .val (.ref s10), .val (.int (0 : Int32)), .val (.int (1 : Int32)), .val (.int (1 : Int32))] [(.int (1 : Int32))])) t → Steps p.tables e below (s₁.setTop (entryFrame m #[(.int p1)] maxLocals)) t := by
      intro t k
      refine k745 t ?_
      show Steps p.tables e below (T744.setTop (mkF m 183 #[.val (.int p1), .val (.ref b2), .val (.int (10 : Int32)), .val (.ref s10), .val (.int (0 : Int32)), .val (.int (1 : Int32)), .val (.int (1 : Int32))] [(.int (1 : Int32))])) _
      refine XS.ifNo X744.here hx rfl (hb hby at_183) rfl ((if0 _ _).trans (feq (by decide : ¬ ((1 : Int32) = (0 : Int32)))).1) ?_
      show Steps p.tables e below (T744.setTop (mkF m 186 #[.val (.int p1), .val (.ref b2), .val (.int (10 : Int32)), .val (.ref s10), .val (.int (0 : Int32)), .val (.int (1 : Int32)), .val (.int (1 : Int32))] [])) _
      refine XS.iload X744.here hx rfl (hb hby at_186) rfl ?_
      show Steps p.tables e below (T744.setTop (mkF m 188 #[.val (.int p1), .val (.ref b2), .val (.int (10 : Int32)), .val (.ref s10), .val (.int (0 : Int32)), .val (.int (1 : Int32)), .val (.int (1 : Int32))] [(.int (1 : Int32))])) _
      refine XS.ifYes X744.here hx rfl (pc0 := 188) (pc' := 193) rfl (hb hby at_188) rfl ((if0 _ _).trans (feq (by decide : ¬ ((1 : Int32) = (0 : Int32)))).2) (by decide) (by decide) ?_
      show Steps p.tables e below (T744.setTop (mkF m 193 #[.val (.int p1), .val (.ref b2), .val (.int (10 : Int32)), .val (.ref s10), .val (.int (0 : Int32)), .val (.int (1 : Int32)), .val (.int (1 : Int32))] [])) _
      refine XS.iconst X744.here hx rfl (hb hby at_193) ?_
      exact k
    obtain ⟨fs, hr, hrun, hended, hW, hsame⟩ := X744.leave (v := (some (.int (1 : Int32)))) (fun h => by rw [Bd.returns] at h; cases h)
    refine ⟨_, _, k746 _ ?_, hrun, hended, _, _, rfl, ?_, ⟨_, rfl⟩, hW, hsame.mono (by decide) (by decide)⟩
    · exact retN X744 hx (t := .boolean) Bd.returns (by simp) (hb hby at_194) hr
    · exact ⟨rfl, N744⟩
  · have k747 : ∀ t, Steps p.tables e below (T444.setTop (mkF m 99 #[.val (.int p1), .val (.ref b2), .val (.int (11 : Int32)), .unset, .unset, .unset, .unset] [])) t → Steps p.tables e below (s₁.setTop (entryFrame m #[(.int p1)] maxLocals)) t := by have z := k472; rw [he] at z; exact z
    obtain ⟨cl748, Ar748, qa748, Sa748, Na748, Ha748, Ga748⟩ := id V444
    have hin749 : ¬ ((11 : Int32) < 0 ∨ cl748.slots.size ≤ ((11 : Int32)).toNatClampNeg) := inb_of Sa748 ⟨by decide, by decide⟩
    have hat750 : cl748.slots[((11 : Int32)).toNatClampNeg]? = some (.ref s11) := Ha748 11 (Nat.lt_of_not_le fun q => hin749 (Or.inr q))
    have k751 : ∀ t, Steps p.tables e below (T444.setTop (mkF m 104 #[.val (.int p1), .val (.ref b2), .val (.int (11 : Int32)), .val (.ref s11), .unset, .unset, .unset] [(.ref s11)])) t → Steps p.tables e below (s₁.setTop (entryFrame m #[(.int p1)] maxLocals)) t := by
      intro t k
      refine k747 t ?_
      show Steps p.tables e below (T444.setTop (mkF m 99 #[.val (.int p1), .val (.ref b2), .val (.int (11 : Int32)), .unset, .unset, .unset, .unset] [])) _
      refine XS.aloadN X444.here hx rfl (hb hby at_99) rfl rfl ?_
      show Steps p.tables e below (T444.setTop (mkF m 100 #[.val (.int p1), .val (.ref b2), .val (.int (11 : Int32)), .unset, .unset, .unset, .unset] [(.ref b2)])) _
      refine XS.iloadN X444.here hx rfl (hb hby at_100) rfl ?_
      show Steps p.tables e below (T444.setTop (mkF m 101 #[.val (.int p1), .val (.ref b2), .val (.int (11 : Int32)), .unset, .unset, .unset, .unset] [(.int (11 : Int32)), (.ref b2)])) _
      refine X444.aaload hx (j := (11 : Int32)) (v := (.ref s11)) (by rw [e444]; exact Ar748.1) (State.isArrayOf_alike hZ.alike Ar748.2.1) rfl Ar748.2.2 hin749 hat750 (g := (mkF m 101 #[.val (.int p1), .val (.ref b2), .val (.int (11 : Int32)), .unset, .unset, .unset, .unset] [(.int (11 : Int32)), (.ref b2)])) rfl rfl (hb hby at_101) _ ?_
      show Steps p.tables e below (T444.setTop (mkF m 102 #[.val (.int p1), .val (.ref b2), .val (.int (11 : Int32)), .unset, .unset, .unset, .unset] [(.ref s11)])) _
      refine XS.astoreN X444.here hx rfl (hb hby at_102) rfl rfl (l' := #[.val (.int p1), .val (.ref b2), .val (.int (11 : Int32)), .val (.ref s11), .unset, .unset, .unset]) rfl ?_
      show Steps p.tables e below (T444.setTop (mkF m 103 #[.val (.int p1), .val (.ref b2), .val (.int (11 : Int32)), .val (.ref s11), .unset, .unset, .unset] [])) _
      refine XS.aloadN X444.here hx rfl (hb hby at_103) rfl rfl ?_
      exact k
    obtain ⟨T752, X752, e752, st752⟩ := getS2 X444 hx hZ hown (host := "") (Or.inl (hw _ (List.mem_of_getElem? (i := 2) rfl))) Via.refl e444 f445 (g := (mkF m 104 #[.val (.int p1), .val (.ref b2), .val (.int (11 : Int32)), .val (.ref s11), .unset, .unset, .unset] [(.ref s11)])) rfl (hb hby at_104)
    have k753 : ∀ t, Steps p.tables e below (T752.setTop (mkF m 107 #[.val (.int p1), .val (.ref b2), .val (.int (11 : Int32)), .val (.ref s11), .unset, .unset, .unset] [(.ref s0), (.ref s11)])) t → Steps p.tables e below (s₁.setTop (entryFrame m #[(.int p1)] maxLocals)) t := fun t k => k751 t (st752 t k)
    have k754 : ∀ t, Steps p.tables e below (T752.setTop (mkF m 111 #[.val (.int p1), .val (.ref b2), .val (.int (11 : Int32)), .val (.ref s11), .unset, .unset, .unset] [(.ref s11)])) t → Steps p.tables e below (s₁.setTop (entryFrame m #[(.int p1)] maxLocals)) t := by
      intro t k
      refine k753 t ?_
      show Steps p.tables e below (T752.setTop (mkF m 107 #[.val (.int p1), .val (.ref b2), .val (.int (11 : Int32)), .val (.ref s11), .unset, .unset, .unset] [(.ref s0), (.ref s11)])) _
      refine Jvm.RoadKit.acmp (g := (mkF m 107 #[.val (.int p1), .val (.ref b2), .val (.int (11 : Int32)), .val (.ref s11), .unset, .unset, .unset] [(.ref s0), (.ref s11)])) X752 hx rfl rfl rfl (pc0 := 107) (pc' := 110) (same := false) rfl (hb hby at_107) rfl (decide_eq_false fun q => (own_ne oO11 oO0 (by decide)) (Value.ref.inj q)) (by decide) (by decide) ?_
      show Steps p.tables e below (T752.setTop (mkF m 110 #[.val (.int p1), .val (.ref b2), .val (.int (11 : Int32)), .val (.ref s11), .unset, .unset, .unset] [])) _
      refine XS.aloadN X752.here hx rfl (hb hby at_110) rfl rfl ?_
      exact k
    obtain ⟨T755, X755, e755, st755⟩ := getS2 X752 hx hZ hown (host := "") (Or.inl (hw _ (List.mem_of_getElem? (i := 6) rfl))) Via.refl e752 f447 (g := (mkF m 111 #[.val (.int p1), .val (.ref b2), .val (.int (11 : Int32)), .val (.ref s11), .unset, .unset, .unset] [(.ref s11)])) rfl (hb hby at_111)
    have k756 : ∀ t, Steps p.tables e below (T755.setTop (mkF m 114 #[.val (.int p1), .val (.ref b2), .val (.int (11 : Int32)), .val (.ref s11), .unset, .unset, .unset] [(.ref s1), (.ref s11)])) t → Steps p.tables e below (s₁.setTop (entryFrame m #[(.int p1)] maxLocals)) t := fun t k => k754 t (st755 t k)
    have k757 : ∀ t, Steps p.tables e below (T755.setTop (mkF m 118 #[.val (.int p1), .val (.ref b2), .val (.int (11 : Int32)), .val (.ref s11), .unset, .unset, .unset] [(.ref s11)])) t → Steps p.tables e below (s₁.setTop (entryFrame m #[(.int p1)] maxLocals)) t := by
      intro t k
      refine k756 t ?_
      show Steps p.tables e below (T755.setTop (mkF m 114 #[.val (.int p1), .val (.ref b2), .val (.int (11 : Int32)), .val (.ref s11), .unset, .unset, .unset] [(.ref s1), (.ref s11)])) _
      refine Jvm.RoadKit.acmp (g := (mkF m 114 #[.val (.int p1), .val (.ref b2), .val (.int (11 : Int32)), .val (.ref s11), .unset, .unset, .unset] [(.ref s1), (.ref s11)])) X755 hx rfl rfl rfl (pc0 := 114) (pc' := 117) (same := false) rfl (hb hby at_114) rfl (decide_eq_false fun q => (own_ne oO11 oO1 (by decide)) (Value.ref.inj q)) (by decide) (by decide) ?_
      show Steps p.tables e below (T755.setTop (mkF m 117 #[.val (.int p1), .val (.ref b2), .val (.int (11 : Int32)), .val (.ref s11), .unset, .unset, .unset] [])) _
      refine XS.aloadN X755.here hx rfl (hb hby at_117) rfl rfl ?_
      exact k
    obtain ⟨T758, X758, e758, st758⟩ := getS2 X755 hx hZ hown (host := "") (Or.inl (hw _ (List.mem_of_getElem? (i := 10) rfl))) Via.refl e755 f451 (g := (mkF m 118 #[.val (.int p1), .val (.ref b2), .val (.int (11 : Int32)), .val (.ref s11), .unset, .unset, .unset] [(.ref s11)])) rfl (hb hby at_118)
    have k759 : ∀ t, Steps p.tables e below (T758.setTop (mkF m 121 #[.val (.int p1), .val (.ref b2), .val (.int (11 : Int32)), .val (.ref s11), .unset, .unset, .unset] [(.ref s3), (.ref s11)])) t → Steps p.tables e below (s₁.setTop (entryFrame m #[(.int p1)] maxLocals)) t := fun t k => k757 t (st758 t k)
    have k760 : ∀ t, Steps p.tables e below (T758.setTop (mkF m 125 #[.val (.int p1), .val (.ref b2), .val (.int (11 : Int32)), .val (.ref s11), .unset, .unset, .unset] [(.ref s11)])) t → Steps p.tables e below (s₁.setTop (entryFrame m #[(.int p1)] maxLocals)) t := by
      intro t k
      refine k759 t ?_
      show Steps p.tables e below (T758.setTop (mkF m 121 #[.val (.int p1), .val (.ref b2), .val (.int (11 : Int32)), .val (.ref s11), .unset, .unset, .unset] [(.ref s3), (.ref s11)])) _
      refine Jvm.RoadKit.acmp (g := (mkF m 121 #[.val (.int p1), .val (.ref b2), .val (.int (11 : Int32)), .val (.ref s11), .unset, .unset, .unset] [(.ref s3), (.ref s11)])) X758 hx rfl rfl rfl (pc0 := 121) (pc' := 124) (same := false) rfl (hb hby at_121) rfl (decide_eq_false fun q => (own_ne oO11 oO3 (by decide)) (Value.ref.inj q)) (by decide) (by decide) ?_
      show Steps p.tables e below (T758.setTop (mkF m 124 #[.val (.int p1), .val (.ref b2), .val (.int (11 : Int32)), .val (.ref s11), .unset, .unset, .unset] [])) _
      refine XS.aloadN X758.here hx rfl (hb hby at_124) rfl rfl ?_
      exact k
    obtain ⟨T761, X761, e761, st761⟩ := getS2 X758 hx hZ hown (host := "") (Or.inl (hw _ (List.mem_of_getElem? (i := 16) rfl))) Via.refl e758 f457 (g := (mkF m 125 #[.val (.int p1), .val (.ref b2), .val (.int (11 : Int32)), .val (.ref s11), .unset, .unset, .unset] [(.ref s11)])) rfl (hb hby at_125)
    have k762 : ∀ t, Steps p.tables e below (T761.setTop (mkF m 128 #[.val (.int p1), .val (.ref b2), .val (.int (11 : Int32)), .val (.ref s11), .unset, .unset, .unset] [(.ref s6), (.ref s11)])) t → Steps p.tables e below (s₁.setTop (entryFrame m #[(.int p1)] maxLocals)) t := fun t k => k760 t (st761 t k)
    have k763 : ∀ t, Steps p.tables e below (T761.setTop (mkF m 132 #[.val (.int p1), .val (.ref b2), .val (.int (11 : Int32)), .val (.ref s11), .unset, .unset, .unset] [(.ref s11)])) t → Steps p.tables e below (s₁.setTop (entryFrame m #[(.int p1)] maxLocals)) t := by
      intro t k
      refine k762 t ?_
      show Steps p.tables e below (T761.setTop (mkF m 128 #[.val (.int p1), .val (.ref b2), .val (.int (11 : Int32)), .val (.ref s11), .unset, .unset, .unset] [(.ref s6), (.ref s11)])) _
      refine Jvm.RoadKit.acmp (g := (mkF m 128 #[.val (.int p1), .val (.ref b2), .val (.int (11 : Int32)), .val (.ref s11), .unset, .unset, .unset] [(.ref s6), (.ref s11)])) X761 hx rfl rfl rfl (pc0 := 128) (pc' := 131) (same := false) rfl (hb hby at_128) rfl (decide_eq_false fun q => (own_ne oO11 oO6 (by decide)) (Value.ref.inj q)) (by decide) (by decide) ?_
      show Steps p.tables e below (T761.setTop (mkF m 131 #[.val (.int p1), .val (.ref b2), .val (.int (11 : Int32)), .val (.ref s11), .unset, .unset, .unset] [])) _
      refine XS.aloadN X761.here hx rfl (hb hby at_131) rfl rfl ?_
      exact k
    obtain ⟨T764, X764, e764, st764⟩ := getS2 X761 hx hZ hown (host := "") (Or.inl (hw _ (List.mem_of_getElem? (i := 18) rfl))) Via.refl e761 f459 (g := (mkF m 132 #[.val (.int p1), .val (.ref b2), .val (.int (11 : Int32)), .val (.ref s11), .unset, .unset, .unset] [(.ref s11)])) rfl (hb hby at_132)
    have k765 : ∀ t, Steps p.tables e below (T764.setTop (mkF m 135 #[.val (.int p1), .val (.ref b2), .val (.int (11 : Int32)), .val (.ref s11), .unset, .unset, .unset] [(.ref s7), (.ref s11)])) t → Steps p.tables e below (s₁.setTop (entryFrame m #[(.int p1)] maxLocals)) t := fun t k => k763 t (st764 t k)
    have k766 : ∀ t, Steps p.tables e below (T764.setTop (mkF m 139 #[.val (.int p1), .val (.ref b2), .val (.int (11 : Int32)), .val (.ref s11), .unset, .unset, .unset] [(.ref s11)])) t → Steps p.tables e below (s₁.setTop (entryFrame m #[(.int p1)] maxLocals)) t := by
      intro t k
      refine k765 t ?_
      show Steps p.tables e below (T764.setTop (mkF m 135 #[.val (.int p1), .val (.ref b2), .val (.int (11 : Int32)), .val (.ref s11), .unset, .unset, .unset] [(.ref s7), (.ref s11)])) _
      refine Jvm.RoadKit.acmp (g := (mkF m 135 #[.val (.int p1), .val (.ref b2), .val (.int (11 : Int32)), .val (.ref s11), .unset, .unset, .unset] [(.ref s7), (.ref s11)])) X764 hx rfl rfl rfl (pc0 := 135) (pc' := 138) (same := false) rfl (hb hby at_135) rfl (decide_eq_false fun q => (own_ne oO11 oO7 (by decide)) (Value.ref.inj q)) (by decide) (by decide) ?_
      show Steps p.tables e below (T764.setTop (mkF m 138 #[.val (.int p1), .val (.ref b2), .val (.int (11 : Int32)), .val (.ref s11), .unset, .unset, .unset] [])) _
      refine XS.aloadN X764.here hx rfl (hb hby at_138) rfl rfl ?_
      exact k
    obtain ⟨T767, X767, e767, st767⟩ := getS2 X764 hx hZ hown (host := "") (Or.inl (hw _ (List.mem_of_getElem? (i := 28) rfl))) Via.refl e764 f469 (g := (mkF m 139 #[.val (.int p1), .val (.ref b2), .val (.int (11 : Int32)), .val (.ref s11), .unset, .unset, .unset] [(.ref s11)])) rfl (hb hby at_139)
    have k768 : ∀ t, Steps p.tables e below (T767.setTop (mkF m 142 #[.val (.int p1), .val (.ref b2), .val (.int (11 : Int32)), .val (.ref s11), .unset, .unset, .unset] [(.ref s12), (.ref s11)])) t → Steps p.tables e below (s₁.setTop (entryFrame m #[(.int p1)] maxLocals)) t := fun t k => k766 t (st767 t k)
    have k769 : ∀ t, Steps p.tables e below (T767.setTop (mkF m 165 #[.val (.int p1), .val (.ref b2), .val (.int (11 : Int32)), .val (.ref s11), .val (.int (0 : Int32)), .val (.int (1 : Int32)), .unset] [(.ref s11)])) t → Steps p.tables e below (s₁.setTop (entryFrame m #[(.int p1)] maxLocals)) t := by
      intro t k
      refine k768 t ?_
      show Steps p.tables e below (T767.setTop (mkF m 142 #[.val (.int p1), .val (.ref b2), .val (.int (11 : Int32)), .val (.ref s11), .unset, .unset, .unset] [(.ref s12), (.ref s11)])) _
      refine Jvm.RoadKit.acmp (g := (mkF m 142 #[.val (.int p1), .val (.ref b2), .val (.int (11 : Int32)), .val (.ref s11), .unset, .unset, .unset] [(.ref s12), (.ref s11)])) X767 hx rfl rfl rfl (pc0 := 142) (pc' := 149) (same := false) rfl (hb hby at_142) rfl (decide_eq_false fun q => (own_ne oO11 oO12 (by decide)) (Value.ref.inj q)) (by decide) (by decide) ?_
      show Steps p.tables e below (T767.setTop (mkF m 149 #[.val (.int p1), .val (.ref b2), .val (.int (11 : Int32)), .val (.ref s11), .unset, .unset, .unset] [])) _
      refine XS.iconst X767.here hx rfl (hb hby at_149) ?_
      show Steps p.tables e below (T767.setTop (mkF m 150 #[.val (.int p1), .val (.ref b2), .val (.int (11 : Int32)), .val (.ref s11), .unset, .unset, .unset] [(.int (0 : Int32))])) _
      refine XS.istore X767.here hx rfl (hb hby at_150) rfl (l' := #[.val (.int p1), .val (.ref b2), .val (.int (11 : Int32)), .val (.ref s11), .val (.int (0 : Int32)), .unset, .unset]) rfl ?_
      show Steps p.tables e below (T767.setTop (mkF m 152 #[.val (.int p1), .val (.ref b2), .val (.int (11 : Int32)), .val (.ref s11), .val (.int (0 : Int32)), .unset, .unset] [])) _
      refine XS.iload X767.here hx rfl (hb hby at_152) rfl ?_
      show Steps p.tables e below (T767.setTop (mkF m 154 #[.val (.int p1), .val (.ref b2), .val (.int (11 : Int32)), .val (.ref s11), .val (.int (0 : Int32)), .unset, .unset] [(.int (0 : Int32))])) _
      refine XS.ifNo X767.here hx rfl (hb hby at_154) rfl ((if0 _ _).trans (teq (rfl : (0 : Int32) = (0 : Int32))).2) ?_
      show Steps p.tables e below (T767.setTop (mkF m 157 #[.val (.int p1), .val (.ref b2), .val (.int (11 : Int32)), .val (.ref s11), .val (.int (0 : Int32)), .unset, .unset] [])) _
      refine XS.iconst X767.here hx rfl (hb hby at_157) ?_
      show Steps p.tables e below (T767.setTop (mkF m 158 #[.val (.int p1), .val (.ref b2), .val (.int (11 : Int32)), .val (.ref s11), .val (.int (0 : Int32)), .unset, .unset] [(.int (1 : Int32))])) _
      refine XS.goto X767.here hx rfl (pc0 := 158) (pc' := 162) rfl (hb hby at_158) (by decide) (by decide) ?_
      show Steps p.tables e below (T767.setTop (mkF m 162 #[.val (.int p1), .val (.ref b2), .val (.int (11 : Int32)), .val (.ref s11), .val (.int (0 : Int32)), .unset, .unset] [(.int (1 : Int32))])) _
      refine XS.istore X767.here hx rfl (hb hby at_162) rfl (l' := #[.val (.int p1), .val (.ref b2), .val (.int (11 : Int32)), .val (.ref s11), .val (.int (0 : Int32)), .val (.int (1 : Int32)), .unset]) rfl ?_
      show Steps p.tables e below (T767.setTop (mkF m 164 #[.val (.int p1), .val (.ref b2), .val (.int (11 : Int32)), .val (.ref s11), .val (.int (0 : Int32)), .val (.int (1 : Int32)), .unset] [])) _
      refine XS.aloadN X767.here hx rfl (hb hby at_164) rfl rfl ?_
      exact k
    obtain ⟨cq770, kq770, q770a, q770b, q770c⟩ := isOf hZ e767 f468
    obtain ⟨_, _, ⟨T770, L770, k770c, n770⟩, -, X770, ⟨Lc770, hQ770, l770, y770, z770⟩, st770⟩ := X767.virtualBack hx (y := (⟨"com/example/eager_path/eagerpath/LocationPath$Axis", "leavesSubtree", "()Z"⟩ : MethodName)) (z := (⟨"com/example/eager_path/eagerpath/LocationPath$Axis", "leavesSubtree", "()Z"⟩ : MethodName)) hown (mvT hZ (hw _ (List.mem_of_getElem? (i := 31) rfl))) (mvT hZ (hw _ (List.mem_of_getElem? (i := 32) rfl))) (notFace_of_selects (args := #[]) (mvT hZ (hw _ (List.mem_of_getElem? (i := 34) rfl)))) (mvT hZ (hw _ (List.mem_of_getElem? (i := 34) rfl))) (mvT hZ (hw _ (List.mem_of_getElem? (i := 33) rfl))) (by decide) (backOf (W := 0) (own_rmls l Z a0 hw [] s11 s2 s4 s5 s8 s9 s10 s11 h444 n0 Z444 f449 f453 f455 f461 f463 f465 f467) hZ (hw _ (List.mem_of_getElem? (i := 35) rfl)) (hw _ (List.mem_of_getElem? (i := 3) rfl)) (by decide) (by decide)) q770a q770c (g := (mkF m 165 #[.val (.int p1), .val (.ref b2), .val (.int (11 : Int32)), .val (.ref s11), .val (.int (0 : Int32)), .val (.int (1 : Int32)), .unset] [(.ref s11)])) rfl (by rw [hml]; rfl) (Steps.refl _) (argsL := []) (rest := []) (lenOf own_pd0 rfl) rfl (by show 2 * 0 + _ ≤ _; exact Nat.le_of_eq rfl) (hb hby at_165) (fun _ _ => ⟨rfl, e767, (by decide : 1 + 0 ≤ _), (by decide : 13 + 0 ≤ _)⟩)
    dsimp only [Pt.U, Pt.locs, Pt.cells, Pt.slots] at X770 l770 y770 z770 st770 hQ770
    subst l770 y770 z770
    have hv770 : (own_vls s11 s2 s4 s5 s8 s9 s10 s11) = (1 : Int32) := ((if_neg (own_ne oO11 oO2 (by decide))).trans ((if_neg (own_ne oO11 oO4 (by decide))).trans ((if_neg (own_ne oO11 oO5 (by decide))).trans ((if_neg (own_ne oO11 oO8 (by decide))).trans ((if_neg (own_ne oO11 oO9 (by decide))).trans ((if_neg (own_ne oO11 oO10 (by decide))).trans (if_pos rfl)))))))
    obtain ⟨hr770, N770q, e770⟩ := hQ770
    rw [hv770] at hr770
    subst hr770
    have N770 := Fr.app N444 N770q
    have k771 : ∀ t, Steps p.tables e below (T770.setTop (mkF m 168 #[.val (.int p1), .val (.ref b2), .val (.int (11 : Int32)), .val (.ref s11), .val (.int (0 : Int32)), .val (.int (1 : Int32)), .unset] [(.int (1 : Int32))])) t → Steps p.tables e below (s₁.setTop (entryFrame m #[(.int p1)] maxLocals)) t := fun t k => k769 t (st770.trans k)
    have k772 : ∀ t, Steps p.tables e below (T770.setTop (mkF m 180 #[.val (.int p1), .val (.ref b2), .val (.int (11 : Int32)), .val (.ref s11), .val (.int (0 : Int32)), .val (.int (1 : Int32)), .val (.int (1 : Int32))] [(.ref s11)])) t → Steps p.tables e below (s₁.setTop (entryFrame m #[(.int p1)] maxLocals)) t := by
      intro t k
      refine k771 t ?_
      show Steps p.tables e below (T770.setTop (mkF m 168 #[.val (.int p1), .val (.ref b2), .val (.int (11 : Int32)), .val (.ref s11), .val (.int (0 : Int32)), .val (.int (1 : Int32)), .unset] [(.int (1 : Int32))])) _
      refine XS.istore X770.here hx rfl (hb hby at_168) rfl (l' := #[.val (.int p1), .val (.ref b2), .val (.int (11 : Int32)), .val (.ref s11), .val (.int (0 : Int32)), .val (.int (1 : Int32)), .val (.int (1 : Int32))]) rfl ?_
      show Steps p.tables e below (T770.setTop (mkF m 170 #[.val (.int p1), .val (.ref b2), .val (.int (11 : Int32)), .val (.ref s11), .val (.int (0 : Int32)), .val (.int (1 : Int32)), .val (.int (1 : Int32))] [])) _
      refine XS.iload X770.here hx rfl (hb hby at_170) rfl ?_
      show Steps p.tables e below (T770.setTop (mkF m 172 #[.val (.int p1), .val (.ref b2), .val (.int (11 : Int32)), .val (.ref s11), .val (.int (0 : Int32)), .val (.int (1 : Int32)), .val (.int (1 : Int32))] [(.int (1 : Int32))])) _
      refine XS.iload X770.here hx rfl (hb hby at_172) rfl ?_
      show Steps p.tables e below (T770.setTop (mkF m 174 #[.val (.int p1), .val (.ref b2), .val (.int (11 : Int32)), .val (.ref s11), .val (.int (0 : Int32)), .val (.int (1 : Int32)), .val (.int (1 : Int32))] [(.int (1 : Int32)), (.int (1 : Int32))])) _
      refine XS.icmpYes X770.here hx rfl (pc0 := 174) (pc' := 179) rfl (hb hby at_174) rfl (teq (rfl : (1 : Int32) = (1 : Int32))).1 (by decide) (by decide) ?_
      show Steps p.tables e below (T770.setTop (mkF m 179 #[.val (.int p1), .val (.ref b2), .val (.int (11 : Int32)), .val (.ref s11), .val (.int (0 : Int32)), .val (.int (1 : Int32)), .val (.int (1 : Int32))] [])) _
      refine XS.aloadN X770.here hx rfl (hb hby at_179) rfl rfl ?_
      exact k
    obtain ⟨cq773, kq773, q773a, q773b, q773c⟩ := isOf hZ e770 f468
    obtain ⟨_, _, ⟨T773, L773, k773c, n773⟩, -, X773, ⟨Lc773, hQ773, l773, y773, z773⟩, st773⟩ := X770.virtualBack hx (y := (⟨"com/example/eager_path/eagerpath/LocationPath$Axis", "reverse", "()Z"⟩ : MethodName)) (z := (⟨"com/example/eager_path/eagerpath/LocationPath$Axis", "reverse", "()Z"⟩ : MethodName)) hown (mvT hZ (hw _ (List.mem_of_getElem? (i := 43) rfl))) (mvT hZ (hw _ (List.mem_of_getElem? (i := 44) rfl))) (notFace_of_selects (args := #[]) (mvT hZ (hw _ (List.mem_of_getElem? (i := 46) rfl)))) (mvT hZ (hw _ (List.mem_of_getElem? (i := 46) rfl))) (mvT hZ (hw _ (List.mem_of_getElem? (i := 45) rfl))) (by decide) (backOf (W := 0) (own_rmrv l Z a0 hw [] s11 s4 s5 s10 s11 h444 n0 Z444 f453 f455 f465 f467) hZ (hw _ (List.mem_of_getElem? (i := 47) rfl)) (hw _ (List.mem_of_getElem? (i := 3) rfl)) (by decide) (by decide)) q773a q773c (g := (mkF m 180 #[.val (.int p1), .val (.ref b2), .val (.int (11 : Int32)), .val (.ref s11), .val (.int (0 : Int32)), .val (.int (1 : Int32)), .val (.int (1 : Int32))] [(.ref s11)])) rfl (by rw [hml]; rfl) (Steps.refl _) (argsL := []) (rest := []) (lenOf own_pd0 rfl) rfl (by show 2 * 0 + _ ≤ _; exact Nat.le_of_eq rfl) (hb hby at_180) (fun _ _ => ⟨rfl, e770, (by decide : 1 + 0 ≤ _), (by decide : 13 + 0 ≤ _)⟩)
    dsimp only [Pt.U, Pt.locs, Pt.cells, Pt.slots] at X773 l773 y773 z773 st773 hQ773
    subst l773 y773 z773
    have hv773 : (own_vrv s11 s4 s5 s10 s11) = (1 : Int32) := ((if_neg (own_ne oO11 oO4 (by decide))).trans ((if_neg (own_ne oO11 oO5 (by decide))).trans ((if_neg (own_ne oO11 oO10 (by decide))).trans (if_pos rfl))))
    obtain ⟨hr773, N773q, e773⟩ := hQ773
    rw [hv773] at hr773
    subst hr773
    have N773 := Fr.app N770 N773q
    have k774 : ∀ t, Steps p.tables e below (T773.setTop (mkF m 183 #[.val (.int p1), .val (.ref b2), .val (.int (11 : Int32)), .val (.ref s11), .val (.int (0 : Int32)), .val (.int (1 : Int32)), .val (.int (1 : Int32))] [(.int (1 : Int32))])) t → Steps p.tables e below (s₁.setTop (entryFrame m #[(.int p1)] maxLocals)) t := fun t k => k772 t (st773.trans k)
    have k775 : ∀ t, Steps p.tables e below (T773.setTop (mkF m 194 #[.val (.int p1), .val (.ref b2), .val (.int (11 : Int32)), .val (.ref s11), .val (.int (0 : Int32)), .val (.int (1 : Int32)), .val (.int (1 : Int32))] [(.int (1 : Int32))])) t → Steps p.tables e below (s₁.setTop (entryFrame m #[(.int p1)] maxLocals)) t := by
      intro t k
      refine k774 t ?_
      show Steps p.tables e below (T773.setTop (mkF m 183 #[.val (.int p1), .val (.ref b2), .val (.int (11 : Int32)), .val (.ref s11), .val (.int (0 : Int32)), .val (.int (1 : Int32)), .val (.int (1 : Int32))] [(.int (1 : Int32))])) _
      refine XS.ifNo X773.here hx rfl (hb hby at_183) rfl ((if0 _ _).trans (feq (by decide : ¬ ((1 : Int32) = (0 : Int32)))).1) ?_
      show Steps p.tables e below (T773.setTop (mkF m 186 #[.val (.int p1), .val (.ref b2), .val (.int (11 : Int32)), .val (.ref s11), .val (.int (0 : Int32)), .val (.int (1 : Int32)), .val (.int (1 : Int32))] [])) _
      refine XS.iload X773.here hx rfl (hb hby at_186) rfl ?_
      show Steps p.tables e below (T773.setTop (mkF m 188 #[.val (.int p1), .val (.ref b2), .val (.int (11 : Int32)), .val (.ref s11), .val (.int (0 : Int32)), .val (.int (1 : Int32)), .val (.int (1 : Int32))] [(.int (1 : Int32))])) _
      refine XS.ifYes X773.here hx rfl (pc0 := 188) (pc' := 193) rfl (hb hby at_188) rfl ((if0 _ _).trans (feq (by decide : ¬ ((1 : Int32) = (0 : Int32)))).2) (by decide) (by decide) ?_
      show Steps p.tables e below (T773.setTop (mkF m 193 #[.val (.int p1), .val (.ref b2), .val (.int (11 : Int32)), .val (.ref s11), .val (.int (0 : Int32)), .val (.int (1 : Int32)), .val (.int (1 : Int32))] [])) _
      refine XS.iconst X773.here hx rfl (hb hby at_193) ?_
      exact k
    obtain ⟨fs, hr, hrun, hended, hW, hsame⟩ := X773.leave (v := (some (.int (1 : Int32)))) (fun h => by rw [Bd.returns] at h; cases h)
    refine ⟨_, _, k775 _ ?_, hrun, hended, _, _, rfl, ?_, ⟨_, rfl⟩, hW, hsame.mono (by decide) (by decide)⟩
    · exact retN X773 hx (t := .boolean) Bd.returns (by simp) (hb hby at_194) hr
    · exact ⟨rfl, N773⟩
  · have k776 : ∀ t, Steps p.tables e below (T444.setTop (mkF m 99 #[.val (.int p1), .val (.ref b2), .val (.int (12 : Int32)), .unset, .unset, .unset, .unset] [])) t → Steps p.tables e below (s₁.setTop (entryFrame m #[(.int p1)] maxLocals)) t := by have z := k472; rw [he] at z; exact z
    obtain ⟨cl777, Ar777, qa777, Sa777, Na777, Ha777, Ga777⟩ := id V444
    have hin778 : ¬ ((12 : Int32) < 0 ∨ cl777.slots.size ≤ ((12 : Int32)).toNatClampNeg) := inb_of Sa777 ⟨by decide, by decide⟩
    have hat779 : cl777.slots[((12 : Int32)).toNatClampNeg]? = some (.ref s12) := Ha777 12 (Nat.lt_of_not_le fun q => hin778 (Or.inr q))
    have k780 : ∀ t, Steps p.tables e below (T444.setTop (mkF m 104 #[.val (.int p1), .val (.ref b2), .val (.int (12 : Int32)), .val (.ref s12), .unset, .unset, .unset] [(.ref s12)])) t → Steps p.tables e below (s₁.setTop (entryFrame m #[(.int p1)] maxLocals)) t := by
      intro t k
      refine k776 t ?_
      show Steps p.tables e below (T444.setTop (mkF m 99 #[.val (.int p1), .val (.ref b2), .val (.int (12 : Int32)), .unset, .unset, .unset, .unset] [])) _
      refine XS.aloadN X444.here hx rfl (hb hby at_99) rfl rfl ?_
      show Steps p.tables e below (T444.setTop (mkF m 100 #[.val (.int p1), .val (.ref b2), .val (.int (12 : Int32)), .unset, .unset, .unset, .unset] [(.ref b2)])) _
      refine XS.iloadN X444.here hx rfl (hb hby at_100) rfl ?_
      show Steps p.tables e below (T444.setTop (mkF m 101 #[.val (.int p1), .val (.ref b2), .val (.int (12 : Int32)), .unset, .unset, .unset, .unset] [(.int (12 : Int32)), (.ref b2)])) _
      refine X444.aaload hx (j := (12 : Int32)) (v := (.ref s12)) (by rw [e444]; exact Ar777.1) (State.isArrayOf_alike hZ.alike Ar777.2.1) rfl Ar777.2.2 hin778 hat779 (g := (mkF m 101 #[.val (.int p1), .val (.ref b2), .val (.int (12 : Int32)), .unset, .unset, .unset, .unset] [(.int (12 : Int32)), (.ref b2)])) rfl rfl (hb hby at_101) _ ?_
      show Steps p.tables e below (T444.setTop (mkF m 102 #[.val (.int p1), .val (.ref b2), .val (.int (12 : Int32)), .unset, .unset, .unset, .unset] [(.ref s12)])) _
      refine XS.astoreN X444.here hx rfl (hb hby at_102) rfl rfl (l' := #[.val (.int p1), .val (.ref b2), .val (.int (12 : Int32)), .val (.ref s12), .unset, .unset, .unset]) rfl ?_
      show Steps p.tables e below (T444.setTop (mkF m 103 #[.val (.int p1), .val (.ref b2), .val (.int (12 : Int32)), .val (.ref s12), .unset, .unset, .unset] [])) _
      refine XS.aloadN X444.here hx rfl (hb hby at_103) rfl rfl ?_
      exact k
    obtain ⟨T781, X781, e781, st781⟩ := getS2 X444 hx hZ hown (host := "") (Or.inl (hw _ (List.mem_of_getElem? (i := 2) rfl))) Via.refl e444 f445 (g := (mkF m 104 #[.val (.int p1), .val (.ref b2), .val (.int (12 : Int32)), .val (.ref s12), .unset, .unset, .unset] [(.ref s12)])) rfl (hb hby at_104)
    have k782 : ∀ t, Steps p.tables e below (T781.setTop (mkF m 107 #[.val (.int p1), .val (.ref b2), .val (.int (12 : Int32)), .val (.ref s12), .unset, .unset, .unset] [(.ref s0), (.ref s12)])) t → Steps p.tables e below (s₁.setTop (entryFrame m #[(.int p1)] maxLocals)) t := fun t k => k780 t (st781 t k)
    have k783 : ∀ t, Steps p.tables e below (T781.setTop (mkF m 111 #[.val (.int p1), .val (.ref b2), .val (.int (12 : Int32)), .val (.ref s12), .unset, .unset, .unset] [(.ref s12)])) t → Steps p.tables e below (s₁.setTop (entryFrame m #[(.int p1)] maxLocals)) t := by
      intro t k
      refine k782 t ?_
      show Steps p.tables e below (T781.setTop (mkF m 107 #[.val (.int p1), .val (.ref b2), .val (.int (12 : Int32)), .val (.ref s12), .unset, .unset, .unset] [(.ref s0), (.ref s12)])) _
      refine Jvm.RoadKit.acmp (g := (mkF m 107 #[.val (.int p1), .val (.ref b2), .val (.int (12 : Int32)), .val (.ref s12), .unset, .unset, .unset] [(.ref s0), (.ref s12)])) X781 hx rfl rfl rfl (pc0 := 107) (pc' := 110) (same := false) rfl (hb hby at_107) rfl (decide_eq_false fun q => (own_ne oO12 oO0 (by decide)) (Value.ref.inj q)) (by decide) (by decide) ?_
      show Steps p.tables e below (T781.setTop (mkF m 110 #[.val (.int p1), .val (.ref b2), .val (.int (12 : Int32)), .val (.ref s12), .unset, .unset, .unset] [])) _
      refine XS.aloadN X781.here hx rfl (hb hby at_110) rfl rfl ?_
      exact k
    obtain ⟨T784, X784, e784, st784⟩ := getS2 X781 hx hZ hown (host := "") (Or.inl (hw _ (List.mem_of_getElem? (i := 6) rfl))) Via.refl e781 f447 (g := (mkF m 111 #[.val (.int p1), .val (.ref b2), .val (.int (12 : Int32)), .val (.ref s12), .unset, .unset, .unset] [(.ref s12)])) rfl (hb hby at_111)
    have k785 : ∀ t, Steps p.tables e below (T784.setTop (mkF m 114 #[.val (.int p1), .val (.ref b2), .val (.int (12 : Int32)), .val (.ref s12), .unset, .unset, .unset] [(.ref s1), (.ref s12)])) t → Steps p.tables e below (s₁.setTop (entryFrame m #[(.int p1)] maxLocals)) t := fun t k => k783 t (st784 t k)
    have k786 : ∀ t, Steps p.tables e below (T784.setTop (mkF m 118 #[.val (.int p1), .val (.ref b2), .val (.int (12 : Int32)), .val (.ref s12), .unset, .unset, .unset] [(.ref s12)])) t → Steps p.tables e below (s₁.setTop (entryFrame m #[(.int p1)] maxLocals)) t := by
      intro t k
      refine k785 t ?_
      show Steps p.tables e below (T784.setTop (mkF m 114 #[.val (.int p1), .val (.ref b2), .val (.int (12 : Int32)), .val (.ref s12), .unset, .unset, .unset] [(.ref s1), (.ref s12)])) _
      refine Jvm.RoadKit.acmp (g := (mkF m 114 #[.val (.int p1), .val (.ref b2), .val (.int (12 : Int32)), .val (.ref s12), .unset, .unset, .unset] [(.ref s1), (.ref s12)])) X784 hx rfl rfl rfl (pc0 := 114) (pc' := 117) (same := false) rfl (hb hby at_114) rfl (decide_eq_false fun q => (own_ne oO12 oO1 (by decide)) (Value.ref.inj q)) (by decide) (by decide) ?_
      show Steps p.tables e below (T784.setTop (mkF m 117 #[.val (.int p1), .val (.ref b2), .val (.int (12 : Int32)), .val (.ref s12), .unset, .unset, .unset] [])) _
      refine XS.aloadN X784.here hx rfl (hb hby at_117) rfl rfl ?_
      exact k
    obtain ⟨T787, X787, e787, st787⟩ := getS2 X784 hx hZ hown (host := "") (Or.inl (hw _ (List.mem_of_getElem? (i := 10) rfl))) Via.refl e784 f451 (g := (mkF m 118 #[.val (.int p1), .val (.ref b2), .val (.int (12 : Int32)), .val (.ref s12), .unset, .unset, .unset] [(.ref s12)])) rfl (hb hby at_118)
    have k788 : ∀ t, Steps p.tables e below (T787.setTop (mkF m 121 #[.val (.int p1), .val (.ref b2), .val (.int (12 : Int32)), .val (.ref s12), .unset, .unset, .unset] [(.ref s3), (.ref s12)])) t → Steps p.tables e below (s₁.setTop (entryFrame m #[(.int p1)] maxLocals)) t := fun t k => k786 t (st787 t k)
    have k789 : ∀ t, Steps p.tables e below (T787.setTop (mkF m 125 #[.val (.int p1), .val (.ref b2), .val (.int (12 : Int32)), .val (.ref s12), .unset, .unset, .unset] [(.ref s12)])) t → Steps p.tables e below (s₁.setTop (entryFrame m #[(.int p1)] maxLocals)) t := by
      intro t k
      refine k788 t ?_
      show Steps p.tables e below (T787.setTop (mkF m 121 #[.val (.int p1), .val (.ref b2), .val (.int (12 : Int32)), .val (.ref s12), .unset, .unset, .unset] [(.ref s3), (.ref s12)])) _
      refine Jvm.RoadKit.acmp (g := (mkF m 121 #[.val (.int p1), .val (.ref b2), .val (.int (12 : Int32)), .val (.ref s12), .unset, .unset, .unset] [(.ref s3), (.ref s12)])) X787 hx rfl rfl rfl (pc0 := 121) (pc' := 124) (same := false) rfl (hb hby at_121) rfl (decide_eq_false fun q => (own_ne oO12 oO3 (by decide)) (Value.ref.inj q)) (by decide) (by decide) ?_
      show Steps p.tables e below (T787.setTop (mkF m 124 #[.val (.int p1), .val (.ref b2), .val (.int (12 : Int32)), .val (.ref s12), .unset, .unset, .unset] [])) _
      refine XS.aloadN X787.here hx rfl (hb hby at_124) rfl rfl ?_
      exact k
    obtain ⟨T790, X790, e790, st790⟩ := getS2 X787 hx hZ hown (host := "") (Or.inl (hw _ (List.mem_of_getElem? (i := 16) rfl))) Via.refl e787 f457 (g := (mkF m 125 #[.val (.int p1), .val (.ref b2), .val (.int (12 : Int32)), .val (.ref s12), .unset, .unset, .unset] [(.ref s12)])) rfl (hb hby at_125)
    have k791 : ∀ t, Steps p.tables e below (T790.setTop (mkF m 128 #[.val (.int p1), .val (.ref b2), .val (.int (12 : Int32)), .val (.ref s12), .unset, .unset, .unset] [(.ref s6), (.ref s12)])) t → Steps p.tables e below (s₁.setTop (entryFrame m #[(.int p1)] maxLocals)) t := fun t k => k789 t (st790 t k)
    have k792 : ∀ t, Steps p.tables e below (T790.setTop (mkF m 132 #[.val (.int p1), .val (.ref b2), .val (.int (12 : Int32)), .val (.ref s12), .unset, .unset, .unset] [(.ref s12)])) t → Steps p.tables e below (s₁.setTop (entryFrame m #[(.int p1)] maxLocals)) t := by
      intro t k
      refine k791 t ?_
      show Steps p.tables e below (T790.setTop (mkF m 128 #[.val (.int p1), .val (.ref b2), .val (.int (12 : Int32)), .val (.ref s12), .unset, .unset, .unset] [(.ref s6), (.ref s12)])) _
      refine Jvm.RoadKit.acmp (g := (mkF m 128 #[.val (.int p1), .val (.ref b2), .val (.int (12 : Int32)), .val (.ref s12), .unset, .unset, .unset] [(.ref s6), (.ref s12)])) X790 hx rfl rfl rfl (pc0 := 128) (pc' := 131) (same := false) rfl (hb hby at_128) rfl (decide_eq_false fun q => (own_ne oO12 oO6 (by decide)) (Value.ref.inj q)) (by decide) (by decide) ?_
      show Steps p.tables e below (T790.setTop (mkF m 131 #[.val (.int p1), .val (.ref b2), .val (.int (12 : Int32)), .val (.ref s12), .unset, .unset, .unset] [])) _
      refine XS.aloadN X790.here hx rfl (hb hby at_131) rfl rfl ?_
      exact k
    obtain ⟨T793, X793, e793, st793⟩ := getS2 X790 hx hZ hown (host := "") (Or.inl (hw _ (List.mem_of_getElem? (i := 18) rfl))) Via.refl e790 f459 (g := (mkF m 132 #[.val (.int p1), .val (.ref b2), .val (.int (12 : Int32)), .val (.ref s12), .unset, .unset, .unset] [(.ref s12)])) rfl (hb hby at_132)
    have k794 : ∀ t, Steps p.tables e below (T793.setTop (mkF m 135 #[.val (.int p1), .val (.ref b2), .val (.int (12 : Int32)), .val (.ref s12), .unset, .unset, .unset] [(.ref s7), (.ref s12)])) t → Steps p.tables e below (s₁.setTop (entryFrame m #[(.int p1)] maxLocals)) t := fun t k => k792 t (st793 t k)
    have k795 : ∀ t, Steps p.tables e below (T793.setTop (mkF m 139 #[.val (.int p1), .val (.ref b2), .val (.int (12 : Int32)), .val (.ref s12), .unset, .unset, .unset] [(.ref s12)])) t → Steps p.tables e below (s₁.setTop (entryFrame m #[(.int p1)] maxLocals)) t := by
      intro t k
      refine k794 t ?_
      show Steps p.tables e below (T793.setTop (mkF m 135 #[.val (.int p1), .val (.ref b2), .val (.int (12 : Int32)), .val (.ref s12), .unset, .unset, .unset] [(.ref s7), (.ref s12)])) _
      refine Jvm.RoadKit.acmp (g := (mkF m 135 #[.val (.int p1), .val (.ref b2), .val (.int (12 : Int32)), .val (.ref s12), .unset, .unset, .unset] [(.ref s7), (.ref s12)])) X793 hx rfl rfl rfl (pc0 := 135) (pc' := 138) (same := false) rfl (hb hby at_135) rfl (decide_eq_false fun q => (own_ne oO12 oO7 (by decide)) (Value.ref.inj q)) (by decide) (by decide) ?_
      show Steps p.tables e below (T793.setTop (mkF m 138 #[.val (.int p1), .val (.ref b2), .val (.int (12 : Int32)), .val (.ref s12), .unset, .unset, .unset] [])) _
      refine XS.aloadN X793.here hx rfl (hb hby at_138) rfl rfl ?_
      exact k
    obtain ⟨T796, X796, e796, st796⟩ := getS2 X793 hx hZ hown (host := "") (Or.inl (hw _ (List.mem_of_getElem? (i := 28) rfl))) Via.refl e793 f469 (g := (mkF m 139 #[.val (.int p1), .val (.ref b2), .val (.int (12 : Int32)), .val (.ref s12), .unset, .unset, .unset] [(.ref s12)])) rfl (hb hby at_139)
    have k797 : ∀ t, Steps p.tables e below (T796.setTop (mkF m 142 #[.val (.int p1), .val (.ref b2), .val (.int (12 : Int32)), .val (.ref s12), .unset, .unset, .unset] [(.ref s12), (.ref s12)])) t → Steps p.tables e below (s₁.setTop (entryFrame m #[(.int p1)] maxLocals)) t := fun t k => k795 t (st796 t k)
    have k798 : ∀ t, Steps p.tables e below (T796.setTop (mkF m 165 #[.val (.int p1), .val (.ref b2), .val (.int (12 : Int32)), .val (.ref s12), .val (.int (1 : Int32)), .val (.int (0 : Int32)), .unset] [(.ref s12)])) t → Steps p.tables e below (s₁.setTop (entryFrame m #[(.int p1)] maxLocals)) t := by
      intro t k
      refine k797 t ?_
      show Steps p.tables e below (T796.setTop (mkF m 142 #[.val (.int p1), .val (.ref b2), .val (.int (12 : Int32)), .val (.ref s12), .unset, .unset, .unset] [(.ref s12), (.ref s12)])) _
      refine Jvm.RoadKit.acmp (g := (mkF m 142 #[.val (.int p1), .val (.ref b2), .val (.int (12 : Int32)), .val (.ref s12), .unset, .unset, .unset] [(.ref s12), (.ref s12)])) X796 hx rfl rfl rfl (pc0 := 142) (pc' := 145) (same := true) rfl (hb hby at_142) rfl (decide_eq_true rfl) (by decide) (by decide) ?_
      show Steps p.tables e below (T796.setTop (mkF m 145 #[.val (.int p1), .val (.ref b2), .val (.int (12 : Int32)), .val (.ref s12), .unset, .unset, .unset] [])) _
      refine XS.iconst X796.here hx rfl (hb hby at_145) ?_
      show Steps p.tables e below (T796.setTop (mkF m 146 #[.val (.int p1), .val (.ref b2), .val (.int (12 : Int32)), .val (.ref s12), .unset, .unset, .unset] [(.int (1 : Int32))])) _
      refine XS.goto X796.here hx rfl (pc0 := 146) (pc' := 150) rfl (hb hby at_146) (by decide) (by decide) ?_
      show Steps p.tables e below (T796.setTop (mkF m 150 #[.val (.int p1), .val (.ref b2), .val (.int (12 : Int32)), .val (.ref s12), .unset, .unset, .unset] [(.int (1 : Int32))])) _
      refine XS.istore X796.here hx rfl (hb hby at_150) rfl (l' := #[.val (.int p1), .val (.ref b2), .val (.int (12 : Int32)), .val (.ref s12), .val (.int (1 : Int32)), .unset, .unset]) rfl ?_
      show Steps p.tables e below (T796.setTop (mkF m 152 #[.val (.int p1), .val (.ref b2), .val (.int (12 : Int32)), .val (.ref s12), .val (.int (1 : Int32)), .unset, .unset] [])) _
      refine XS.iload X796.here hx rfl (hb hby at_152) rfl ?_
      show Steps p.tables e below (T796.setTop (mkF m 154 #[.val (.int p1), .val (.ref b2), .val (.int (12 : Int32)), .val (.ref s12), .val (.int (1 : Int32)), .unset, .unset] [(.int (1 : Int32))])) _
      refine XS.ifYes X796.here hx rfl (pc0 := 154) (pc' := 161) rfl (hb hby at_154) rfl ((if0 _ _).trans (feq (by decide : ¬ ((1 : Int32) = (0 : Int32)))).2) (by decide) (by decide) ?_
      show Steps p.tables e below (T796.setTop (mkF m 161 #[.val (.int p1), .val (.ref b2), .val (.int (12 : Int32)), .val (.ref s12), .val (.int (1 : Int32)), .unset, .unset] [])) _
      refine XS.iconst X796.here hx rfl (hb hby at_161) ?_
      show Steps p.tables e below (T796.setTop (mkF m 162 #[.val (.int p1), .val (.ref b2), .val (.int (12 : Int32)), .val (.ref s12), .val (.int (1 : Int32)), .unset, .unset] [(.int (0 : Int32))])) _
      refine XS.istore X796.here hx rfl (hb hby at_162) rfl (l' := #[.val (.int p1), .val (.ref b2), .val (.int (12 : Int32)), .val (.ref s12), .val (.int (1 : Int32)), .val (.int (0 : Int32)), .unset]) rfl ?_
      show Steps p.tables e below (T796.setTop (mkF m 164 #[.val (.int p1), .val (.ref b2), .val (.int (12 : Int32)), .val (.ref s12), .val (.int (1 : Int32)), .val (.int (0 : Int32)), .unset] [])) _
      refine XS.aloadN X796.here hx rfl (hb hby at_164) rfl rfl ?_
      exact k
    obtain ⟨cq799, kq799, q799a, q799b, q799c⟩ := isOf hZ e796 f470
    obtain ⟨_, _, ⟨T799, L799, k799c, n799⟩, -, X799, ⟨Lc799, hQ799, l799, y799, z799⟩, st799⟩ := X796.virtualBack hx (y := (⟨"com/example/eager_path/eagerpath/LocationPath$Axis", "leavesSubtree", "()Z"⟩ : MethodName)) (z := (⟨"com/example/eager_path/eagerpath/LocationPath$Axis", "leavesSubtree", "()Z"⟩ : MethodName)) hown (mvT hZ (hw _ (List.mem_of_getElem? (i := 31) rfl))) (mvT hZ (hw _ (List.mem_of_getElem? (i := 32) rfl))) (notFace_of_selects (args := #[]) (mvT hZ (hw _ (List.mem_of_getElem? (i := 34) rfl)))) (mvT hZ (hw _ (List.mem_of_getElem? (i := 34) rfl))) (mvT hZ (hw _ (List.mem_of_getElem? (i := 33) rfl))) (by decide) (backOf (W := 0) (own_rmls l Z a0 hw [] s12 s2 s4 s5 s8 s9 s10 s11 h444 n0 Z444 f449 f453 f455 f461 f463 f465 f467) hZ (hw _ (List.mem_of_getElem? (i := 35) rfl)) (hw _ (List.mem_of_getElem? (i := 3) rfl)) (by decide) (by decide)) q799a q799c (g := (mkF m 165 #[.val (.int p1), .val (.ref b2), .val (.int (12 : Int32)), .val (.ref s12), .val (.int (1 : Int32)), .val (.int (0 : Int32)), .unset] [(.ref s12)])) rfl (by rw [hml]; rfl) (Steps.refl _) (argsL := []) (rest := []) (lenOf own_pd0 rfl) rfl (by show 2 * 0 + _ ≤ _; exact Nat.le_of_eq rfl) (hb hby at_165) (fun _ _ => ⟨rfl, e796, (by decide : 1 + 0 ≤ _), (by decide : 13 + 0 ≤ _)⟩)
    dsimp only [Pt.U, Pt.locs, Pt.cells, Pt.slots] at X799 l799 y799 z799 st799 hQ799
    subst l799 y799 z799
    have hv799 : (own_vls s12 s2 s4 s5 s8 s9 s10 s11) = (0 : Int32) := ((if_neg (own_ne oO12 oO2 (by decide))).trans ((if_neg (own_ne oO12 oO4 (by decide))).trans ((if_neg (own_ne oO12 oO5 (by decide))).trans ((if_neg (own_ne oO12 oO8 (by decide))).trans ((if_neg (own_ne oO12 oO9 (by decide))).trans ((if_neg (own_ne oO12 oO10 (by decide))).trans (if_neg (own_ne oO12 oO11 (by decide)))))))))
    obtain ⟨hr799, N799q, e799⟩ := hQ799
    rw [hv799] at hr799
    subst hr799
    have N799 := Fr.app N444 N799q
    have k800 : ∀ t, Steps p.tables e below (T799.setTop (mkF m 168 #[.val (.int p1), .val (.ref b2), .val (.int (12 : Int32)), .val (.ref s12), .val (.int (1 : Int32)), .val (.int (0 : Int32)), .unset] [(.int (0 : Int32))])) t → Steps p.tables e below (s₁.setTop (entryFrame m #[(.int p1)] maxLocals)) t := fun t k => k798 t (st799.trans k)
    have k801 : ∀ t, Steps p.tables e below (T799.setTop (mkF m 180 #[.val (.int p1), .val (.ref b2), .val (.int (12 : Int32)), .val (.ref s12), .val (.int (1 : Int32)), .val (.int (0 : Int32)), .val (.int (0 : Int32))] [(.ref s12)])) t → Steps p.tables e below (s₁.setTop (entryFrame m #[(.int p1)] maxLocals)) t := by
      intro t k
      refine k800 t ?_
      show Steps p.tables e below (T799.setTop (mkF m 168 #[.val (.int p1), .val (.ref b2), .val (.int (12 : Int32)), .val (.ref s12), .val (.int (1 : Int32)), .val (.int (0 : Int32)), .unset] [(.int (0 : Int32))])) _
      refine XS.istore X799.here hx rfl (hb hby at_168) rfl (l' := #[.val (.int p1), .val (.ref b2), .val (.int (12 : Int32)), .val (.ref s12), .val (.int (1 : Int32)), .val (.int (0 : Int32)), .val (.int (0 : Int32))]) rfl ?_
      show Steps p.tables e below (T799.setTop (mkF m 170 #[.val (.int p1), .val (.ref b2), .val (.int (12 : Int32)), .val (.ref s12), .val (.int (1 : Int32)), .val (.int (0 : Int32)), .val (.int (0 : Int32))] [])) _
      refine XS.iload X799.here hx rfl (hb hby at_170) rfl ?_
      show Steps p.tables e below (T799.setTop (mkF m 172 #[.val (.int p1), .val (.ref b2), .val (.int (12 : Int32)), .val (.ref s12), .val (.int (1 : Int32)), .val (.int (0 : Int32)), .val (.int (0 : Int32))] [(.int (0 : Int32))])) _
      refine XS.iload X799.here hx rfl (hb hby at_172) rfl ?_
      show Steps p.tables e below (T799.setTop (mkF m 174 #[.val (.int p1), .val (.ref b2), .val (.int (12 : Int32)), .val (.ref s12), .val (.int (1 : Int32)), .val (.int (0 : Int32)), .val (.int (0 : Int32))] [(.int (0 : Int32)), (.int (0 : Int32))])) _
      refine XS.icmpYes X799.here hx rfl (pc0 := 174) (pc' := 179) rfl (hb hby at_174) rfl (teq (rfl : (0 : Int32) = (0 : Int32))).1 (by decide) (by decide) ?_
      show Steps p.tables e below (T799.setTop (mkF m 179 #[.val (.int p1), .val (.ref b2), .val (.int (12 : Int32)), .val (.ref s12), .val (.int (1 : Int32)), .val (.int (0 : Int32)), .val (.int (0 : Int32))] [])) _
      refine XS.aloadN X799.here hx rfl (hb hby at_179) rfl rfl ?_
      exact k
    obtain ⟨cq802, kq802, q802a, q802b, q802c⟩ := isOf hZ e799 f470
    obtain ⟨_, _, ⟨T802, L802, k802c, n802⟩, -, X802, ⟨Lc802, hQ802, l802, y802, z802⟩, st802⟩ := X799.virtualBack hx (y := (⟨"com/example/eager_path/eagerpath/LocationPath$Axis", "reverse", "()Z"⟩ : MethodName)) (z := (⟨"com/example/eager_path/eagerpath/LocationPath$Axis", "reverse", "()Z"⟩ : MethodName)) hown (mvT hZ (hw _ (List.mem_of_getElem? (i := 43) rfl))) (mvT hZ (hw _ (List.mem_of_getElem? (i := 44) rfl))) (notFace_of_selects (args := #[]) (mvT hZ (hw _ (List.mem_of_getElem? (i := 46) rfl)))) (mvT hZ (hw _ (List.mem_of_getElem? (i := 46) rfl))) (mvT hZ (hw _ (List.mem_of_getElem? (i := 45) rfl))) (by decide) (backOf (W := 0) (own_rmrv l Z a0 hw [] s12 s4 s5 s10 s11 h444 n0 Z444 f453 f455 f465 f467) hZ (hw _ (List.mem_of_getElem? (i := 47) rfl)) (hw _ (List.mem_of_getElem? (i := 3) rfl)) (by decide) (by decide)) q802a q802c (g := (mkF m 180 #[.val (.int p1), .val (.ref b2), .val (.int (12 : Int32)), .val (.ref s12), .val (.int (1 : Int32)), .val (.int (0 : Int32)), .val (.int (0 : Int32))] [(.ref s12)])) rfl (by rw [hml]; rfl) (Steps.refl _) (argsL := []) (rest := []) (lenOf own_pd0 rfl) rfl (by show 2 * 0 + _ ≤ _; exact Nat.le_of_eq rfl) (hb hby at_180) (fun _ _ => ⟨rfl, e799, (by decide : 1 + 0 ≤ _), (by decide : 13 + 0 ≤ _)⟩)
    dsimp only [Pt.U, Pt.locs, Pt.cells, Pt.slots] at X802 l802 y802 z802 st802 hQ802
    subst l802 y802 z802
    have hv802 : (own_vrv s12 s4 s5 s10 s11) = (0 : Int32) := ((if_neg (own_ne oO12 oO4 (by decide))).trans ((if_neg (own_ne oO12 oO5 (by decide))).trans ((if_neg (own_ne oO12 oO10 (by decide))).trans (if_neg (own_ne oO12 oO11 (by decide))))))
    obtain ⟨hr802, N802q, e802⟩ := hQ802
    rw [hv802] at hr802
    subst hr802
    have N802 := Fr.app N799 N802q
    have k803 : ∀ t, Steps p.tables e below (T802.setTop (mkF m 183 #[.val (.int p1), .val (.ref b2), .val (.int (12 : Int32)), .val (.ref s12), .val (.int (1 : Int32)), .val (.int (0 : Int32)), .val (.int (0 : Int32))] [(.int (0 : Int32))])) t → Steps p.tables e below (s₁.setTop (entryFrame m #[(.int p1)] maxLocals)) t := fun t k => k801 t (st802.trans k)
    have k804 : ∀ t, Steps p.tables e below (T802.setTop (mkF m 194 #[.val (.int p1), .val (.ref b2), .val (.int (12 : Int32)), .val (.ref s12), .val (.int (1 : Int32)), .val (.int (0 : Int32)), .val (.int (0 : Int32))] [(.int (1 : Int32))])) t → Steps p.tables e below (s₁.setTop (entryFrame m #[(.int p1)] maxLocals)) t := by
      intro t k
      refine k803 t ?_
      show Steps p.tables e below (T802.setTop (mkF m 183 #[.val (.int p1), .val (.ref b2), .val (.int (12 : Int32)), .val (.ref s12), .val (.int (1 : Int32)), .val (.int (0 : Int32)), .val (.int (0 : Int32))] [(.int (0 : Int32))])) _
      refine XS.ifYes X802.here hx rfl (pc0 := 183) (pc' := 193) rfl (hb hby at_183) rfl ((if0 _ _).trans (teq (rfl : (0 : Int32) = (0 : Int32))).1) (by decide) (by decide) ?_
      show Steps p.tables e below (T802.setTop (mkF m 193 #[.val (.int p1), .val (.ref b2), .val (.int (12 : Int32)), .val (.ref s12), .val (.int (1 : Int32)), .val (.int (0 : Int32)), .val (.int (0 : Int32))] [])) _
      refine XS.iconst X802.here hx rfl (hb hby at_193) ?_
      exact k
    obtain ⟨fs, hr, hrun, hended, hW, hsame⟩ := X802.leave (v := (some (.int (1 : Int32)))) (fun h => by rw [Bd.returns] at h; cases h)
    refine ⟨_, _, k804 _ ?_, hrun, hended, _, _, rfl, ?_, ⟨_, rfl⟩, hW, hsame.mono (by decide) (by decide)⟩
    · exact retN X802 hx (t := .boolean) Bd.returns (by simp) (hb hby at_194) hr
    · exact ⟨rfl, N802⟩
set_option maxRecDepth 65536 in
set_option maxHeartbeats 40000000 in
theorem comes_1 {Post : Tables → Env → Array Value → State → Outcome → State → Prop} (hpost : ∀ tb e args s v u, (limb_1_1.after args s (.returned v) u = true ∧ limb_1_2.after args s (.returned v) u = true ∧ True) → FrameEnd s (.returned v) u (Jvm.fieldLocs frame_1_writes args s ++ Jvm.arrayLocs frame_1_arrays args s ++ Jvm.staticLocs frame_1_statics s) 16 128 → Post tb e args s (.returned v) u) :
    ArmFor flags0 classFile x code maxLocals ret World_1 tables_1 room_1 Calls_1 rest_1 Pre_1 Post := by
  intro l hfl _ _ p e ha hc hk s m args below hf hA hF happ hP
  obtain ⟨hcalls, hrest, hpre⟩ := hP
  obtain ⟨-, -, -, hnamed, -, -, -, hat⟩ := (Spec.applies_iff hf).mp happ
  obtain ⟨hg, hn⟩ := and_e (Cond.before_iff.mp (show (Jvm.Cond.and given_1 narrow_1).before args s = true from hpre))
  obtain ⟨hg0, hg⟩ := and_e hg
  have hi0 := hg
  obtain ⟨w0, rfl⟩ : ∃ w0 : Value, args = #[w0] := by
    have hs : args.size = 1 := by simpa [Cond.value, given_1] using hg0
    obtain ⟨L⟩ := args
    match L, hs with
    | [w0], _ => exact ⟨w0, rfl⟩
  have hw := fun d (hd : d ∈ tables_1) => atoms_spec (ws := Jvm.Cond.code x code maxLocals ret :: tables_1) hat d (List.mem_cons_of_mem _ hd)
  obtain ⟨p1, ev0⟩ := is_v hi0
  obtain rfl : w0 = (.int p1) := Option.some.inj ev0
  have own_eqint : ∀ {A : Array Value} {t : Term} {n : Int32}, (Cond.eq t (.int n)).value A s none s [] = some true → t.eval A s none [] s = some (.int n) := by
    intro A t n h
    obtain ⟨x, y, hx, hy, k1, k2⟩ := cmp_v (Or.inl h)
    obtain rfl : y = .int n := Option.some.inj (hy.symm.trans (Term.int_eval n))
    obtain ⟨z, rfl⟩ := k2
    rw [hx, gotT (Cond.eq_ints hx (Term.int_eval n)) h]
  obtain ⟨hn0, hn⟩ := and_e hn
  obtain ⟨hn1, hn⟩ := and_e hn
  obtain ⟨hn2, hn⟩ := and_e hn
  obtain ⟨hn3, hn⟩ := and_e hn
  obtain ⟨hn4, hn⟩ := and_e hn
  obtain ⟨hn5, hn⟩ := and_e hn
  obtain ⟨hn6, hn⟩ := and_e hn
  obtain ⟨hn7, hn⟩ := and_e hn
  obtain ⟨hn8, hn⟩ := and_e hn
  obtain ⟨hn9, hn⟩ := and_e hn
  obtain ⟨hn10, hn⟩ := and_e hn
  obtain ⟨hn11, hn⟩ := and_e hn
  obtain ⟨hn12, hn⟩ := and_e hn
  obtain ⟨hn13, hn⟩ := and_e hn
  obtain ⟨hn14, hn⟩ := and_e hn
  obtain ⟨hn15, hn⟩ := and_e hn
  obtain ⟨hn16, hn⟩ := and_e hn
  obtain ⟨hn17, hn⟩ := and_e hn
  obtain ⟨hn18, hn⟩ := and_e hn
  obtain ⟨hn19, hn⟩ := and_e hn
  obtain ⟨hn20, hn⟩ := and_e hn
  obtain ⟨hn21, hn⟩ := and_e hn
  obtain ⟨hn22, hn⟩ := and_e hn
  obtain ⟨hn23, hn⟩ := and_e hn
  obtain ⟨hn24, hn⟩ := and_e hn
  have hn25 := hn
  obtain ⟨s0, es0⟩ := exa_v hn0
  have S0 := Sta.start es0 (Or.inr ⟨(hw _ (List.mem_of_getElem? (i := 3) rfl)), (hw _ (List.mem_of_getElem? (i := 4) rfl))⟩)
  have E0 := Exa.start es0 hn0
  have O0 := Fld.start ((fld_at es0).symm.trans (own_eqint hn13))
  obtain ⟨s1, es1⟩ := exa_v hn1
  have S1 := Sta.start es1 (Or.inr ⟨(hw _ (List.mem_of_getElem? (i := 3) rfl)), (hw _ (List.mem_of_getElem? (i := 7) rfl))⟩)
  have E1 := Exa.start es1 hn1
  have O1 := Fld.start ((fld_at es1).symm.trans (own_eqint hn22))
  obtain ⟨s2, es2⟩ := exa_v hn2
  have S2 := Sta.start es2 (Or.inr ⟨(hw _ (List.mem_of_getElem? (i := 3) rfl)), (hw _ (List.mem_of_getElem? (i := 9) rfl))⟩)
  have E2 := Exa.start es2 hn2
  have O2 := Fld.start ((fld_at es2).symm.trans (own_eqint hn14))
  obtain ⟨s3, es3⟩ := exa_v hn3
  have S3 := Sta.start es3 (Or.inr ⟨(hw _ (List.mem_of_getElem? (i := 3) rfl)), (hw _ (List.mem_of_getElem? (i := 11) rfl))⟩)
  have E3 := Exa.start es3 hn3
  have O3 := Fld.start ((fld_at es3).symm.trans (own_eqint hn21))
  obtain ⟨s4, es4⟩ := exa_v hn4
  have S4 := Sta.start es4 (Or.inr ⟨(hw _ (List.mem_of_getElem? (i := 3) rfl)), (hw _ (List.mem_of_getElem? (i := 13) rfl))⟩)
  have E4 := Exa.start es4 hn4
  have O4 := Fld.start ((fld_at es4).symm.trans (own_eqint hn15))
  obtain ⟨s5, es5⟩ := exa_v hn5
  have S5 := Sta.start es5 (Or.inr ⟨(hw _ (List.mem_of_getElem? (i := 3) rfl)), (hw _ (List.mem_of_getElem? (i := 15) rfl))⟩)
  have E5 := Exa.start es5 hn5
  have O5 := Fld.start ((fld_at es5).symm.trans (own_eqint hn16))
  obtain ⟨s6, es6⟩ := exa_v hn6
  have S6 := Sta.start es6 (Or.inr ⟨(hw _ (List.mem_of_getElem? (i := 3) rfl)), (hw _ (List.mem_of_getElem? (i := 17) rfl))⟩)
  have E6 := Exa.start es6 hn6
  have O6 := Fld.start ((fld_at es6).symm.trans (own_eqint hn23))
  obtain ⟨s7, es7⟩ := exa_v hn7
  have S7 := Sta.start es7 (Or.inr ⟨(hw _ (List.mem_of_getElem? (i := 3) rfl)), (hw _ (List.mem_of_getElem? (i := 19) rfl))⟩)
  have E7 := Exa.start es7 hn7
  have O7 := Fld.start ((fld_at es7).symm.trans (own_eqint hn24))
  obtain ⟨s8, es8⟩ := exa_v hn8
  have S8 := Sta.start es8 (Or.inr ⟨(hw _ (List.mem_of_getElem? (i := 3) rfl)), (hw _ (List.mem_of_getElem? (i := 21) rfl))⟩)
  have E8 := Exa.start es8 hn8
  have O8 := Fld.start ((fld_at es8).symm.trans (own_eqint hn17))
  obtain ⟨s9, es9⟩ := exa_v hn9
  have S9 := Sta.start es9 (Or.inr ⟨(hw _ (List.mem_of_getElem? (i := 3) rfl)), (hw _ (List.mem_of_getElem? (i := 23) rfl))⟩)
  have E9 := Exa.start es9 hn9
  have O9 := Fld.start ((fld_at es9).symm.trans (own_eqint hn18))
  obtain ⟨s10, es10⟩ := exa_v hn10
  have S10 := Sta.start es10 (Or.inr ⟨(hw _ (List.mem_of_getElem? (i := 3) rfl)), (hw _ (List.mem_of_getElem? (i := 25) rfl))⟩)
  have E10 := Exa.start es10 hn10
  have O10 := Fld.start ((fld_at es10).symm.trans (own_eqint hn19))
  obtain ⟨s11, es11⟩ := exa_v hn11
  have S11 := Sta.start es11 (Or.inr ⟨(hw _ (List.mem_of_getElem? (i := 3) rfl)), (hw _ (List.mem_of_getElem? (i := 27) rfl))⟩)
  have E11 := Exa.start es11 hn11
  have O11 := Fld.start ((fld_at es11).symm.trans (own_eqint hn20))
  obtain ⟨s12, es12⟩ := exa_v hn12
  have S12 := Sta.start es12 (Or.inr ⟨(hw _ (List.mem_of_getElem? (i := 3) rfl)), (hw _ (List.mem_of_getElem? (i := 29) rfl))⟩)
  have E12 := Exa.start es12 hn12
  have O12 := Fld.start ((fld_at es12).symm.trans (own_eqint hn25))
  obtain ⟨n, o, h1, h2, h3, _, L, rfl, ⟨rfl, N⟩, hq⟩ := own_rm0 l s _ hw tables_1 p1 s0 s1 s2 s3 s4 s5 s6 s7 s8 s9 s10 s11 s12 s.heap s.heap.size (Nat.le_refl _) S0 E0 O0 S1 E1 O1 S2 E2 O2 S3 E3 O3 S4 E4 O4 S5 E5 O5 S6 E6 O6 S7 E7 O7 S8 E8 O8 S9 E9 O9 S10 E10 O10 S11 E11 O11 S12 E12 O12  p e ha hc hk s m _ below hf ((Spec.applies_iff_loose hf).mp happ).1 ⟨rfl, State.Warmed39.refl s, rfl⟩ trivial
  refine ⟨n, _, h1, h2, h3, hpost _ _ _ _ _ _ ⟨Cond.after_iff.mpr rfl, Cond.after_iff.mpr (eq_i res_at (Term.int_eval (1)) rfl), trivial⟩ ⟨hq.1, hq.2.1, (hq.2.2.sift fun y hy => Or.inr (N y hy)).mono (by decide) (by decide)⟩⟩
theorem main_1_1 : Claimed_1_1 := comes_1 fun _ _ _ _ _ _ h hF => ⟨h.1, hF⟩
theorem main_1_2 : Claimed_1_2 := comes_1 fun _ _ _ _ _ _ h hF => ⟨h.2.1, hF⟩
end Jvm.Pilot.@@N@@
namespace Jvm.Pilot.@@N@@
open Jvm Jvm.ClassFile Sem Op Lib Jvm.Free Jvm.Stand Jvm.Pilot.@@N@@.Jvm.D
/-! MADE BY PROGRAM (witnessworld.py) out of the Statement's table words and the real class files: 13 classes; the members and pool entries that the words name. The judged class is class 1, her method 1. -/
namespace start1
open Jvm.ClassFile
def u (s : String) : CpInfo := .utf8 (stringToUtf16 s)
/-- a pool by its gaps: so many unusable entries, then the entry; so many at the end -/
def gap : Nat → List CpInfo → List CpInfo
  | 0, r => r
  | n + 1, r => .unusable :: gap n r
def poolList (es : List (Nat × CpInfo)) (last : Nat) : List CpInfo := es.foldr (fun e r => gap e.1 (e.2 :: r)) (gap last [])
def pool (es : List (Nat × CpInfo)) (last : Nat) : Array CpInfo := ⟨poolList es last⟩
def fileOf (pool : Array CpInfo) (this : Nat) (attrs : Array Attribute := #[]) (ms : Array MethodInfo := #[]) (fl : Nat := 33) (sup : Nat := 0) (ifs : Array Nat := #[]) (fds : Array FieldInfo := #[]) : ClassFile where
  minorVersion := 0
  majorVersion := 65
  constantPool := pool
  accessFlags := fl
  thisClass := this
  superClass := sup
  interfaces := ifs
  fields := fds
  methods := ms
  attributes := attrs
def plain (name : String) (sup : Option ClassId) : Class where
  name := name
  kind := .ordinary
  loader := none
  accessFlags := 33
  super := sup
  interfaces := #[]
  cf := none
  fields := #[]
  methods := #[]
  instanceTypes := #[]
  staticTypes := #[]
  resolved := #[]
  callSites := []
  init := .initialized
  statics := none
  mirror := none

def pool0 : Array CpInfo := pool [(5, u "<init>"), (0, u "()V"), (1, .class_ 10), (1, u "java/lang/Object")] 113

def k0m0 : Method := { name := "<init>", desc := "()V", sig := { parameters := [], returnType := none }, accessFlags := 1, code := none }
/-- java/lang/Object -/
def k0 : Class := { plain "java/lang/Object" none with
  accessFlags := 33
  interfaces := #[]
  cf := some (fileOf pool0 8 #[] #[{ accessFlags := 1, nameIndex := 5, descriptorIndex := 6, attributes := #[] }] 33 0 #[] #[])
  fields := #[]
  methods := #[k0m0]
  instanceTypes := #[]
  staticTypes := #[]
  resolved := Array.replicate 124 none
  statics := none }

def pool1 : Array CpInfo := pool [(2, .class_ 4), (1, u "java/lang/Object"), (0, u "<init>"), (0, u "()V"), (0, .class_ 8), (0, u "com/example/eager_path/eagerpath/LocationPath$Axis"), (0, .fieldref 7 10), (0, .nameAndType 11 12), (0, u "CHILD"), (0, u "Lcom/example/eager_path/eagerpath/LocationPath$Axis;"), (0, .fieldref 7 14), (0, .nameAndType 15 12), (0, u "ATTRIBUTE"), (0, .fieldref 7 17), (0, .nameAndType 18 12), (0, u "PARENT"), (0, .fieldref 7 20), (0, .nameAndType 21 12), (0, u "SELF"), (0, .fieldref 7 23), (0, .nameAndType 24 12), (0, u "ANCESTOR"), (0, .fieldref 7 26), (0, .nameAndType 27 12), (0, u "ANCESTOR_OR_SELF"), (0, .fieldref 7 29), (0, .nameAndType 30 12), (0, u "DESCENDANT"), (0, .fieldref 7 32), (0, .nameAndType 33 12), (0, u "DESCENDANT_OR_SELF"), (0, .fieldref 7 35), (0, .nameAndType 36 12), (0, u "FOLLOWING"), (0, .fieldref 7 38), (0, .nameAndType 39 12), (0, u "FOLLOWING_SIBLING"), (0, .fieldref 7 41), (0, .nameAndType 42 12), (0, u "PRECEDING"), (0, .fieldref 7 44), (0, .nameAndType 45 12), (0, u "PRECEDING_SIBLING"), (0, .fieldref 7 47), (0, .nameAndType 48 12), (0, u "NAMESPACE"), (0, .integer 2147483647), (0, .methodref 7 51), (0, .nameAndType 52 53), (0, u "leavesSubtree"), (0, u "()Z"), (0, .methodref 7 55), (0, .nameAndType 56 53), (0, u "reverse"), (0, .class_ 58), (0, u "com/example/eager_path/eagerpath/AxisLeavesSubtreePinLaw"), (2, u "law"), (0, u "(I)Z")] 9

def k1m0 : Method := { name := "<init>", desc := "()V", sig := { parameters := [], returnType := none }, accessFlags := 2, code := none }
def k1c1 : Code := { maxStack := 4, maxLocals := 7, code := code, exceptionTable := #[], attributes := #[] }
def k1m1 : Method := { name := "law", desc := "(I)Z", sig := { parameters := [.int], returnType := some .boolean }, accessFlags := 9, code := some k1c1 }
/-- com/example/eager_path/eagerpath/AxisLeavesSubtreePinLaw -/
def k1 : Class := { plain "com/example/eager_path/eagerpath/AxisLeavesSubtreePinLaw" (some 0) with
  accessFlags := 49
  interfaces := #[]
  cf := some (fileOf pool1 57 #[] #[{ accessFlags := 2, nameIndex := 5, descriptorIndex := 6, attributes := #[] }, { accessFlags := 9, nameIndex := 61, descriptorIndex := 62, attributes := #[] }] 49 2 #[] #[])
  fields := #[]
  methods := #[k1m0, k1m1]
  instanceTypes := #[]
  staticTypes := #[]
  resolved := Array.replicate 72 none
  statics := none }

def pool2 : Array CpInfo := pool [(1, .class_ 2), (0, u "java/lang/constant/Constable"), (0, .class_ 4), (0, u "java/lang/Object")] 6

/-- java/lang/constant/Constable -/
def k2 : Class := { plain "java/lang/constant/Constable" (some 0) with
  accessFlags := 1537
  interfaces := #[]
  cf := some (fileOf pool2 1 #[] #[] 1537 3 #[] #[])
  fields := #[]
  methods := #[]
  instanceTypes := #[]
  staticTypes := #[]
  resolved := Array.replicate 11 none
  statics := none }

def pool3 : Array CpInfo := pool [(1, .class_ 2), (0, u "java/lang/Comparable"), (0, .class_ 4), (0, u "java/lang/Object")] 7

/-- java/lang/Comparable -/
def k3 : Class := { plain "java/lang/Comparable" (some 0) with
  accessFlags := 1537
  interfaces := #[]
  cf := some (fileOf pool3 1 #[] #[] 1537 3 #[] #[])
  fields := #[]
  methods := #[]
  instanceTypes := #[]
  staticTypes := #[]
  resolved := Array.replicate 12 none
  statics := none }

def pool4 : Array CpInfo := pool [(1, .class_ 2), (0, u "java/io/Serializable"), (0, .class_ 4), (0, u "java/lang/Object")] 2

/-- java/io/Serializable -/
def k4 : Class := { plain "java/io/Serializable" (some 0) with
  accessFlags := 1537
  interfaces := #[]
  cf := some (fileOf pool4 1 #[] #[] 1537 3 #[] #[])
  fields := #[]
  methods := #[]
  instanceTypes := #[]
  staticTypes := #[]
  resolved := Array.replicate 7 none
  statics := none }

def pool5 : Array CpInfo := pool [(2, .class_ 4), (1, u "java/lang/Enum"), (0, u "name"), (0, u "Ljava/lang/String;"), (2, u "ordinal"), (0, u "I"), (1, .class_ 14), (1, u "java/lang/Object"), (4, u "hash"), (86, .class_ 108), (1, u "java/lang/Enum$EnumDesc"), (2, .class_ 112), (0, u "java/lang/constant/Constable"), (0, .class_ 114), (0, u "java/lang/Comparable"), (0, .class_ 116), (0, u "java/io/Serializable")] 87

/-- java/lang/Enum -/
def k5 : Class := { plain "java/lang/Enum" (some 0) with
  accessFlags := 1057
  interfaces := #[2, 3, 4]
  cf := some (fileOf pool5 2 #[.nestMembers #[106]] #[] 1057 12 #[111, 113, 115] #[{ accessFlags := 18, nameIndex := 5, descriptorIndex := 6, attributes := #[] }, { accessFlags := 18, nameIndex := 9, descriptorIndex := 10, attributes := #[] }, { accessFlags := 2, nameIndex := 19, descriptorIndex := 10, attributes := #[] }])
  fields := #[{ name := "name", type := (.object "java/lang/String"), accessFlags := 18, slot := 0, constantValue := 0 }, { name := "ordinal", type := .int, accessFlags := 18, slot := 1, constantValue := 0 }, { name := "hash", type := .int, accessFlags := 2, slot := 2, constantValue := 0 }]
  methods := #[]
  instanceTypes := #[(.object "java/lang/String"), .int, .int]
  staticTypes := #[]
  resolved := Array.replicate 204 none
  statics := none }

def pool6 : Array CpInfo := pool [(1, .class_ 2), (0, u "com/example/eager_path/eagerpath/LocationPath$Axis"), (2, u "CHILD"), (0, u "Lcom/example/eager_path/eagerpath/LocationPath$Axis;"), (2, u "ATTRIBUTE"), (0, .fieldref 1 11), (0, .nameAndType 12 6), (0, u "PARENT"), (2, u "SELF"), (0, .fieldref 1 17), (0, .nameAndType 18 6), (0, u "ANCESTOR"), (0, .fieldref 1 20), (0, .nameAndType 21 6), (0, u "ANCESTOR_OR_SELF"), (2, u "DESCENDANT"), (2, u "DESCENDANT_OR_SELF"), (0, .fieldref 1 29), (0, .nameAndType 30 6), (0, u "FOLLOWING"), (0, .fieldref 1 32), (0, .nameAndType 33 6), (0, u "FOLLOWING_SIBLING"), (0, .fieldref 1 35), (0, .nameAndType 36 6), (0, u "PRECEDING"), (0, .fieldref 1 38), (0, .nameAndType 39 6), (0, u "PRECEDING_SIBLING"), (2, u "NAMESPACE"), (2, u "$VALUES"), (0, u "[Lcom/example/eager_path/eagerpath/LocationPath$Axis;"), (6, .class_ 55), (1, u "java/lang/Enum"), (8, u "written"), (0, u "Ljava/lang/String;"), (63, u "reverse"), (0, u "()Z"), (3, u "leavesSubtree"), (6, .class_ 142), (0, u "com/example/eager_path/eagerpath/LocationPath")] 2

def k6c0 : Code := { maxStack := 2, maxLocals := 1, code := prog_71_method_5_code, exceptionTable := #[], attributes := #[] }
def k6m0 : Method := { name := "reverse", desc := "()Z", sig := { parameters := [], returnType := some .boolean }, accessFlags := 0, code := some k6c0 }
def k6c1 : Code := { maxStack := 2, maxLocals := 1, code := prog_71_method_9_code, exceptionTable := #[], attributes := #[] }
def k6m1 : Method := { name := "leavesSubtree", desc := "()Z", sig := { parameters := [], returnType := some .boolean }, accessFlags := 0, code := some k6c1 }
/-- com/example/eager_path/eagerpath/LocationPath$Axis -/
def k6 : Class := { plain "com/example/eager_path/eagerpath/LocationPath$Axis" (some 5) with
  accessFlags := 16432
  interfaces := #[]
  cf := some (fileOf pool6 1 #[.nestHost 141] #[{ accessFlags := 0, nameIndex := 129, descriptorIndex := 130, attributes := #[] }, { accessFlags := 0, nameIndex := 134, descriptorIndex := 130, attributes := #[] }] 16432 53 #[] #[{ accessFlags := 16409, nameIndex := 5, descriptorIndex := 6, attributes := #[] }, { accessFlags := 16409, nameIndex := 9, descriptorIndex := 6, attributes := #[] }, { accessFlags := 16409, nameIndex := 12, descriptorIndex := 6, attributes := #[] }, { accessFlags := 16409, nameIndex := 15, descriptorIndex := 6, attributes := #[] }, { accessFlags := 16409, nameIndex := 18, descriptorIndex := 6, attributes := #[] }, { accessFlags := 16409, nameIndex := 21, descriptorIndex := 6, attributes := #[] }, { accessFlags := 16409, nameIndex := 24, descriptorIndex := 6, attributes := #[] }, { accessFlags := 16409, nameIndex := 27, descriptorIndex := 6, attributes := #[] }, { accessFlags := 16409, nameIndex := 30, descriptorIndex := 6, attributes := #[] }, { accessFlags := 16409, nameIndex := 33, descriptorIndex := 6, attributes := #[] }, { accessFlags := 16409, nameIndex := 36, descriptorIndex := 6, attributes := #[] }, { accessFlags := 16409, nameIndex := 39, descriptorIndex := 6, attributes := #[] }, { accessFlags := 16409, nameIndex := 42, descriptorIndex := 6, attributes := #[] }, { accessFlags := 16, nameIndex := 64, descriptorIndex := 65, attributes := #[] }, { accessFlags := 4122, nameIndex := 45, descriptorIndex := 46, attributes := #[] }])
  fields := #[{ name := "CHILD", type := (.object "com/example/eager_path/eagerpath/LocationPath$Axis"), accessFlags := 16409, slot := 0, constantValue := 0 }, { name := "ATTRIBUTE", type := (.object "com/example/eager_path/eagerpath/LocationPath$Axis"), accessFlags := 16409, slot := 1, constantValue := 0 }, { name := "PARENT", type := (.object "com/example/eager_path/eagerpath/LocationPath$Axis"), accessFlags := 16409, slot := 2, constantValue := 0 }, { name := "SELF", type := (.object "com/example/eager_path/eagerpath/LocationPath$Axis"), accessFlags := 16409, slot := 3, constantValue := 0 }, { name := "ANCESTOR", type := (.object "com/example/eager_path/eagerpath/LocationPath$Axis"), accessFlags := 16409, slot := 4, constantValue := 0 }, { name := "ANCESTOR_OR_SELF", type := (.object "com/example/eager_path/eagerpath/LocationPath$Axis"), accessFlags := 16409, slot := 5, constantValue := 0 }, { name := "DESCENDANT", type := (.object "com/example/eager_path/eagerpath/LocationPath$Axis"), accessFlags := 16409, slot := 6, constantValue := 0 }, { name := "DESCENDANT_OR_SELF", type := (.object "com/example/eager_path/eagerpath/LocationPath$Axis"), accessFlags := 16409, slot := 7, constantValue := 0 }, { name := "FOLLOWING", type := (.object "com/example/eager_path/eagerpath/LocationPath$Axis"), accessFlags := 16409, slot := 8, constantValue := 0 }, { name := "FOLLOWING_SIBLING", type := (.object "com/example/eager_path/eagerpath/LocationPath$Axis"), accessFlags := 16409, slot := 9, constantValue := 0 }, { name := "PRECEDING", type := (.object "com/example/eager_path/eagerpath/LocationPath$Axis"), accessFlags := 16409, slot := 10, constantValue := 0 }, { name := "PRECEDING_SIBLING", type := (.object "com/example/eager_path/eagerpath/LocationPath$Axis"), accessFlags := 16409, slot := 11, constantValue := 0 }, { name := "NAMESPACE", type := (.object "com/example/eager_path/eagerpath/LocationPath$Axis"), accessFlags := 16409, slot := 12, constantValue := 0 }, { name := "written", type := (.object "java/lang/String"), accessFlags := 16, slot := 3, constantValue := 0 }, { name := "$VALUES", type := (.array (.object "com/example/eager_path/eagerpath/LocationPath$Axis")), accessFlags := 4122, slot := 13, constantValue := 0 }]
  methods := #[k6m0, k6m1]
  instanceTypes := #[(.object "java/lang/String"), .int, .int, (.object "java/lang/String")]
  staticTypes := #[(.object "com/example/eager_path/eagerpath/LocationPath$Axis"), (.object "com/example/eager_path/eagerpath/LocationPath$Axis"), (.object "com/example/eager_path/eagerpath/LocationPath$Axis"), (.object "com/example/eager_path/eagerpath/LocationPath$Axis"), (.object "com/example/eager_path/eagerpath/LocationPath$Axis"), (.object "com/example/eager_path/eagerpath/LocationPath$Axis"), (.object "com/example/eager_path/eagerpath/LocationPath$Axis"), (.object "com/example/eager_path/eagerpath/LocationPath$Axis"), (.object "com/example/eager_path/eagerpath/LocationPath$Axis"), (.object "com/example/eager_path/eagerpath/LocationPath$Axis"), (.object "com/example/eager_path/eagerpath/LocationPath$Axis"), (.object "com/example/eager_path/eagerpath/LocationPath$Axis"), (.object "com/example/eager_path/eagerpath/LocationPath$Axis"), (.array (.object "com/example/eager_path/eagerpath/LocationPath$Axis"))]
  resolved := Array.replicate 145 none
  statics := some 0 }

def pool7 : Array CpInfo := pool [(1, u "java/lang/Cloneable"), (0, .class_ 1), (0, u "java/lang/Object"), (0, .class_ 3)] 3

/-- java/lang/Cloneable -/
def k7 : Class := { plain "java/lang/Cloneable" (some 0) with
  accessFlags := 1537
  interfaces := #[]
  cf := some (fileOf pool7 2 #[] #[] 1537 4 #[] #[])
  fields := #[]
  methods := #[]
  instanceTypes := #[]
  staticTypes := #[]
  resolved := Array.replicate 8 none
  statics := none }

/-- the primitive byte -/
def k8 : Class := { plain "byte" none with kind := .primitive 'B', accessFlags := 0x411 }
/-- [B -/
def k9 : Class := { plain "[B" (some 0) with kind := .array 8 .byte, interfaces := #[7, 4], accessFlags := 1041 }

/-- the primitive int -/
def k10 : Class := { plain "int" none with kind := .primitive 'I', accessFlags := 0x411 }
/-- [I -/
def k11 : Class := { plain "[I" (some 0) with kind := .array 10 .int, interfaces := #[7, 4], accessFlags := 1041 }

/-- [Lcom/example/eager_path/eagerpath/LocationPath$Axis; -/
def k12 : Class := { plain "[Lcom/example/eager_path/eagerpath/LocationPath$Axis;" (some 0) with kind := .array 6 (.object "com/example/eager_path/eagerpath/LocationPath$Axis"), interfaces := #[7, 4], accessFlags := 1041 }

def heap : Heap := #[{ cls := 6, slots := #[.ref 1, .ref 2, .ref 3, .ref 4, .ref 5, .ref 6, .ref 7, .ref 8, .ref 9, .ref 10, .ref 11, .ref 12, .ref 13, .null], vm := .statics 6 },
  { cls := 6, slots := #[.null, .int 0, .int 0, .null], vm := .none },
  { cls := 6, slots := #[.null, .int 1, .int 0, .null], vm := .none },
  { cls := 6, slots := #[.null, .int 2, .int 0, .null], vm := .none },
  { cls := 6, slots := #[.null, .int 3, .int 0, .null], vm := .none },
  { cls := 6, slots := #[.null, .int 4, .int 0, .null], vm := .none },
  { cls := 6, slots := #[.null, .int 5, .int 0, .null], vm := .none },
  { cls := 6, slots := #[.null, .int 6, .int 0, .null], vm := .none },
  { cls := 6, slots := #[.null, .int 7, .int 0, .null], vm := .none },
  { cls := 6, slots := #[.null, .int 8, .int 0, .null], vm := .none },
  { cls := 6, slots := #[.null, .int 9, .int 0, .null], vm := .none },
  { cls := 6, slots := #[.null, .int 10, .int 0, .null], vm := .none },
  { cls := 6, slots := #[.null, .int 11, .int 0, .null], vm := .none },
  { cls := 6, slots := #[.null, .int 12, .int 0, .null], vm := .none }]
def classes : Array Class := #[k0, k1, k2, k3, k4, k5, k6, k7, k8, k9, k10, k11, k12]
def interned : List (Array UInt16 × Addr) := []
def slotsUsed : Nat := 66
def theMethod : MethodId := ⟨1, 1⟩
def args0 : Array Value := #[.int 5]
def aboutOver (below : List Frame) : State where
  vm := { classes := classes, interned := interned.toArray }
  heap := heap
  slotsUsed := slotsUsed
  threads := #[{ frames := .invoking theMethod args0 :: below }]
def below0 : List Frame := [.native { method := ⟨0, 0⟩, args := #[] }]
def about1 : State := aboutOver below0
def p0 : Program := .bare "" "" ""
def e0 : Env := launch0.env 0 0 0
theorem w_frames : about1.frames = Frame.invoking theMethod args0 :: below0 := rfl
set_option maxRecDepth 65536 in
theorem w_args : argsFit about1.vm theMethod args0 = true := by decide +kernel
set_option maxRecDepth 65536 in
theorem w_heap : heapFits about1 = true := by decide +kernel
set_option maxRecDepth 65536 in
theorem w_runnable : about1.curStatus? = some .runnable := by decide +kernel
set_option maxRecDepth 65536 in
theorem w_alone : about1.alone = true := by decide +kernel
set_option maxRecDepth 65536 in
theorem w_named : about1.methodNamed? x = some theMethod := by decide +kernel
set_option maxRecDepth 65536 in
theorem w_hears : about1.hears theMethod below0 = true := by decide +kernel
set_option maxRecDepth 65536 in
theorem w_ripe : about1.ripe theMethod args0 below0 = true := by decide +kernel
theorem w_running : about1.status = .running := rfl
set_option maxRecDepth 65536 in
theorem w_room : about1.hasRoom e0.platform room_1 = true :=
  launch0.hasRoom_least _ room_1 (by decide +kernel) (by decide +kernel) (by decide +kernel) (by decide +kernel) (by decide +kernel) (by decide +kernel)
theorem allAtoms_all (ts : List Jvm.Cond) (a : Array Jvm.Value) (st : Jvm.State) : (allAtoms ts).before a st = ts.all (fun c => c.before a st) := by
  induction ts with
  | nil => rfl
  | cons c t ih =>
    show (Jvm.Cond.and c (allAtoms t)).before a st = _
    rw [Jvm.Cond.before_and, ih, List.all_cons]
def words1 : List Jvm.Cond := Jvm.Cond.code x code maxLocals ret :: tables_1
/-- a 'code' word, met by the world's own term for the bytes: nothing is compared byte by byte -/
theorem code_word {y : MethodName} {bytes : ByteArray} {mx : Nat} {rt : Option FieldType} {a : Array Value} {s : State} {m : MethodId} {meth : Method} {c : Code} (h1 : s.methodNamed? y = some m) (h2 : s.vm.method? m = some meth) (h3 : meth.code = some c) (h4 : c.code = bytes)
    (h5 : (c.maxLocals == mx && c.exceptionTable.isEmpty && decide (c.maxStack ≤ mostOperands) && decide (meth.sig.returnType = rt) && !meth.locks && decide (parseMethodDescriptor y.desc = some meth.sig)) = true) : (Jvm.Cond.code y bytes mx rt).before a s = true := by
  simp only [Bool.and_eq_true, beq_iff_eq, Bool.not_eq_true', decide_eq_true_eq] at h5
  obtain ⟨⟨⟨⟨⟨g1, g2⟩, g3⟩, g4⟩, g5⟩, g6⟩ := h5
  simp [Cond.before, Cond.holds, Cond.value, h1, h2, h3, h4, g1, g2, g3, g4, g5, g6]
def isCode : Jvm.Cond → Bool
  | .code _ _ _ _ => true
  | _ => false
theorem all_split {L : List Jvm.Cond} {P : Jvm.Cond → Bool} (h1 : L.all (fun c => isCode c || P c) = true) (h2 : ∀ c ∈ L.filter isCode, P c = true) : L.all P = true := by
  refine List.all_eq_true.mpr fun c hc => ?_
  have h := List.all_eq_true.mp h1 c hc
  rcases Bool.eq_false_or_eq_true (isCode c) with hi | hi
  · exact h2 c (List.mem_filter.mpr ⟨hc, hi⟩)
  · simpa [hi] using h
set_option maxRecDepth 65536 in
theorem w_c0 : (Jvm.Cond.code x code maxLocals ret).before args0 about1 = true := code_word (m := ⟨1, 1⟩) (meth := k1m1) (c := k1c1) (by decide +kernel) rfl rfl rfl (by decide +kernel)
set_option maxRecDepth 65536 in
theorem w_c1 : (Jvm.Cond.code ({ cls := "com/example/eager_path/eagerpath/LocationPath$Axis", name := "leavesSubtree", desc := "()Z" } : Jvm.MethodName) prog_71_method_9_code (1 : Nat) (Option.some Jvm.ClassFile.FieldType.boolean)).before args0 about1 = true := code_word (m := ⟨6, 1⟩) (meth := k6m1) (c := k6c1) (by decide +kernel) rfl rfl rfl (by decide +kernel)
set_option maxRecDepth 65536 in
theorem w_c2 : (Jvm.Cond.code ({ cls := "com/example/eager_path/eagerpath/LocationPath$Axis", name := "reverse", desc := "()Z" } : Jvm.MethodName) prog_71_method_5_code (1 : Nat) (Option.some Jvm.ClassFile.FieldType.boolean)).before args0 about1 = true := code_word (m := ⟨6, 0⟩) (meth := k6m0) (c := k6c0) (by decide +kernel) rfl rfl rfl (by decide +kernel)
def codes1 : List Jvm.Cond := [Jvm.Cond.code x code maxLocals ret, Jvm.Cond.code ({ cls := "com/example/eager_path/eagerpath/LocationPath$Axis", name := "leavesSubtree", desc := "()Z" } : Jvm.MethodName) prog_71_method_9_code (1 : Nat) (Option.some Jvm.ClassFile.FieldType.boolean), Jvm.Cond.code ({ cls := "com/example/eager_path/eagerpath/LocationPath$Axis", name := "reverse", desc := "()Z" } : Jvm.MethodName) prog_71_method_5_code (1 : Nat) (Option.some Jvm.ClassFile.FieldType.boolean)]
set_option maxRecDepth 65536 in
theorem codes_eq : words1.filter isCode = codes1 := rfl
theorem w_codes : ∀ c ∈ words1.filter isCode, c.before args0 about1 = true := by
  rw [codes_eq]
  intro c hc
  simp only [codes1, List.mem_cons, List.not_mem_nil, or_false] at hc
  rcases hc with rfl | rfl | rfl
  · exact w_c0
  · exact w_c1
  · exact w_c2
set_option maxRecDepth 65536 in
theorem w_t1 : (words1.take 24).all (fun c => isCode c || c.before args0 about1) = true := by decide +kernel
set_option maxRecDepth 65536 in
theorem w_t2 : ((words1.drop 24).take 24).all (fun c => isCode c || c.before args0 about1) = true := by decide +kernel
set_option maxRecDepth 65536 in
theorem w_t3 : ((words1.drop 24).drop 24).all (fun c => isCode c || c.before args0 about1) = true := by decide +kernel
theorem w_tables : (allAtoms (Jvm.Cond.code x code maxLocals ret :: tables_1)).before args0 about1 = true := by
  rw [allAtoms_all]
  show words1.all (fun c => c.before args0 about1) = true
  refine all_split ?_ w_codes
  rw [← List.take_append_drop 24 words1, List.all_append, w_t1, ← List.take_append_drop 24 (words1.drop 24), List.all_append, w_t2, w_t3]
  rfl
set_option maxRecDepth 65536 in
theorem w_case : (Jvm.Cond.and given_1 narrow_1).before args0 about1 = true := by decide +kernel
theorem w_applies : (headSpec (Jvm.Cond.code x code maxLocals ret :: tables_1) room_1).applies x e0.platform about1 = true :=
  (Spec.applies_iff w_frames).mpr ⟨w_running, w_runnable, w_alone, w_named, w_hears, w_ripe, w_room, w_tables⟩
theorem atStart : AtStart classFile x code maxLocals ret World_1 tables_1 room_1 Calls_1 rest_1 Pre_1 launch0 p0 e0 about1 theMethod args0 below0 :=
  ⟨lists_1, trivial, launch0.admits_env _ _ _, launch0.least_env, fairChoices_fair.cas, fairChoices_fair.clock, w_frames, w_args, w_heap, w_applies, trivial, trivial, w_case⟩
end start1
theorem witness_1 : WitnessClaimed_1 := ⟨start1.p0, start1.e0, start1.about1, start1.theMethod, start1.args0, start1.below0, start1.atStart⟩
end Jvm.Pilot.@@N@@
