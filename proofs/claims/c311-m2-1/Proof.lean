import JvmDerived
import JvmDerived.Pilot.@@N@@Statement
import JvmDerived.Pilot.@@N@@Code
set_option linter.unusedVariables false
set_option linter.unusedSimpArgs false

namespace Jvm.RoadKit
open Sem ClassFile Op Lib Jvm.Stand Jvm.Free Jvm.LawKit
section New
variable {p : Program} {l : Launch} {e : Env} {R : Room} {s : State} {m : MethodId} {args : Array Value} {below : List Frame} {meth : Method} {c : Code} {T : State} {locs : List Loc} {cells slots : Nat}
theorem retI (X : Stand p l e R s m args below meth c T locs cells slots) (hx : p.tables.exec = Jvm.exec) {pc : Nat} {Ls : Array Slot} {z : Int32} {rest : List Value} (hret : meth.sig.returnType = some .int) (hd : decode c.code pc = .ok (.ireturn, 1)) {fs : List Frame}
    (hl : ∀ (f : JFrame) (acts : List Action), f.method = m → f.locked = none → f.entered = [] → (doReturn e (T.setTop f) acts (some (.int z))).1 = T.setFrames fs) : Steps p.tables e below (T.setTop (mkF m pc Ls (.int z :: rest))) (T.setFrames fs) := by
  have hm' : T.vm.method? m = some meth := X.method'
  have hn : narrow .int (.int z) = .int z := rfl
  show Steps p.tables e below (T.setTop { method := m, pc := pc, locals := Ls, stack := _ :: rest, locked := none }) _
  jvm_step X.here [X.here.top, hx, hd, hm', hret, hn]
  first | (intro acts; rw [hl _ acts rfl rfl rfl]) | rw [hl _ _ rfl rfl rfl]
  exact Steps.refl _
end New
end Jvm.RoadKit
namespace Jvm.Pilot.@@N@@
open Jvm Jvm.ClassFile Sem Op Lib Jvm.Free Jvm.Stand Jvm.LawKit Jvm.RoadKit Bundle Jvm.Pilot.@@N@@.Jvm.D

def own_vfi (p1 : Int32) : Int32 :=
  if p1 = (0 : Int32) then (12 : Int32) else
  if p1 = (1 : Int32) then (6 : Int32) else
  if p1 = (2 : Int32) then (9 : Int32) else
  if p1 = (3 : Int32) then (8 : Int32) else
  if p1 = (4 : Int32) then (6 : Int32) else
  if p1 = (5 : Int32) then (3 : Int32) else
  if p1 = (6 : Int32) then (6 : Int32) else
  if p1 = (7 : Int32) then (4 : Int32) else
  if p1 = (8 : Int32) then (4 : Int32) else
  if p1 = (9 : Int32) then (4 : Int32) else
  if p1 = (10 : Int32) then (5 : Int32) else
  if p1 = (11 : Int32) then (3 : Int32) else
  if p1 = (12 : Int32) then (3 : Int32) else
  (2 : Int32)
theorem own_d2_0 : decode method_3_code 0 = .ok (.iload_n 0, 1) := by decide +kernel
theorem own_d2_1 : decode method_3_code 1 = .ok (.ifCond .ne 6, 3) := by decide +kernel
theorem own_d2_4 : decode method_3_code 4 = .ok (.bipush 12, 2) := by decide +kernel
theorem own_d2_6 : decode method_3_code 6 = .ok (.ireturn, 1) := by decide +kernel
theorem own_d2_7 : decode method_3_code 7 = .ok (.iload_n 0, 1) := by decide +kernel
theorem own_d2_8 : decode method_3_code 8 = .ok (.iconst 1, 1) := by decide +kernel
theorem own_d2_9 : decode method_3_code 9 = .ok (.if_icmp .ne 6, 3) := by decide +kernel
theorem own_d2_12 : decode method_3_code 12 = .ok (.bipush 6, 2) := by decide +kernel
theorem own_d2_14 : decode method_3_code 14 = .ok (.ireturn, 1) := by decide +kernel
theorem own_d2_15 : decode method_3_code 15 = .ok (.iload_n 0, 1) := by decide +kernel
theorem own_d2_16 : decode method_3_code 16 = .ok (.iconst 2, 1) := by decide +kernel
theorem own_d2_17 : decode method_3_code 17 = .ok (.if_icmp .ne 6, 3) := by decide +kernel
theorem own_d2_20 : decode method_3_code 20 = .ok (.bipush 9, 2) := by decide +kernel
theorem own_d2_22 : decode method_3_code 22 = .ok (.ireturn, 1) := by decide +kernel
theorem own_d2_23 : decode method_3_code 23 = .ok (.iload_n 0, 1) := by decide +kernel
theorem own_d2_24 : decode method_3_code 24 = .ok (.iconst 3, 1) := by decide +kernel
theorem own_d2_25 : decode method_3_code 25 = .ok (.if_icmp .ne 6, 3) := by decide +kernel
theorem own_d2_28 : decode method_3_code 28 = .ok (.bipush 8, 2) := by decide +kernel
theorem own_d2_30 : decode method_3_code 30 = .ok (.ireturn, 1) := by decide +kernel
theorem own_d2_31 : decode method_3_code 31 = .ok (.iload_n 0, 1) := by decide +kernel
theorem own_d2_32 : decode method_3_code 32 = .ok (.iconst 4, 1) := by decide +kernel
theorem own_d2_33 : decode method_3_code 33 = .ok (.if_icmp .ne 6, 3) := by decide +kernel
theorem own_d2_36 : decode method_3_code 36 = .ok (.bipush 6, 2) := by decide +kernel
theorem own_d2_38 : decode method_3_code 38 = .ok (.ireturn, 1) := by decide +kernel
theorem own_d2_39 : decode method_3_code 39 = .ok (.iload_n 0, 1) := by decide +kernel
theorem own_d2_40 : decode method_3_code 40 = .ok (.iconst 5, 1) := by decide +kernel
theorem own_d2_41 : decode method_3_code 41 = .ok (.if_icmp .ne 5, 3) := by decide +kernel
theorem own_d2_44 : decode method_3_code 44 = .ok (.iconst 3, 1) := by decide +kernel
theorem own_d2_45 : decode method_3_code 45 = .ok (.ireturn, 1) := by decide +kernel
theorem own_d2_46 : decode method_3_code 46 = .ok (.iload_n 0, 1) := by decide +kernel
theorem own_d2_47 : decode method_3_code 47 = .ok (.bipush 6, 2) := by decide +kernel
theorem own_d2_49 : decode method_3_code 49 = .ok (.if_icmp .ne 6, 3) := by decide +kernel
theorem own_d2_52 : decode method_3_code 52 = .ok (.bipush 6, 2) := by decide +kernel
theorem own_d2_54 : decode method_3_code 54 = .ok (.ireturn, 1) := by decide +kernel
theorem own_d2_55 : decode method_3_code 55 = .ok (.iload_n 0, 1) := by decide +kernel
theorem own_d2_56 : decode method_3_code 56 = .ok (.bipush 7, 2) := by decide +kernel
theorem own_d2_58 : decode method_3_code 58 = .ok (.if_icmp .ne 5, 3) := by decide +kernel
theorem own_d2_61 : decode method_3_code 61 = .ok (.iconst 4, 1) := by decide +kernel
theorem own_d2_62 : decode method_3_code 62 = .ok (.ireturn, 1) := by decide +kernel
theorem own_d2_63 : decode method_3_code 63 = .ok (.iload_n 0, 1) := by decide +kernel
theorem own_d2_64 : decode method_3_code 64 = .ok (.bipush 8, 2) := by decide +kernel
theorem own_d2_66 : decode method_3_code 66 = .ok (.if_icmp .ne 5, 3) := by decide +kernel
theorem own_d2_69 : decode method_3_code 69 = .ok (.iconst 4, 1) := by decide +kernel
theorem own_d2_70 : decode method_3_code 70 = .ok (.ireturn, 1) := by decide +kernel
theorem own_d2_71 : decode method_3_code 71 = .ok (.iload_n 0, 1) := by decide +kernel
theorem own_d2_72 : decode method_3_code 72 = .ok (.bipush 9, 2) := by decide +kernel
theorem own_d2_74 : decode method_3_code 74 = .ok (.if_icmp .ne 5, 3) := by decide +kernel
theorem own_d2_77 : decode method_3_code 77 = .ok (.iconst 4, 1) := by decide +kernel
theorem own_d2_78 : decode method_3_code 78 = .ok (.ireturn, 1) := by decide +kernel
theorem own_d2_79 : decode method_3_code 79 = .ok (.iload_n 0, 1) := by decide +kernel
theorem own_d2_80 : decode method_3_code 80 = .ok (.bipush 10, 2) := by decide +kernel
theorem own_d2_82 : decode method_3_code 82 = .ok (.if_icmp .ne 5, 3) := by decide +kernel
theorem own_d2_85 : decode method_3_code 85 = .ok (.iconst 5, 1) := by decide +kernel
theorem own_d2_86 : decode method_3_code 86 = .ok (.ireturn, 1) := by decide +kernel
theorem own_d2_87 : decode method_3_code 87 = .ok (.iload_n 0, 1) := by decide +kernel
theorem own_d2_88 : decode method_3_code 88 = .ok (.bipush 11, 2) := by decide +kernel
theorem own_d2_90 : decode method_3_code 90 = .ok (.if_icmp .ne 5, 3) := by decide +kernel
theorem own_d2_93 : decode method_3_code 93 = .ok (.iconst 3, 1) := by decide +kernel
theorem own_d2_94 : decode method_3_code 94 = .ok (.ireturn, 1) := by decide +kernel
theorem own_d2_95 : decode method_3_code 95 = .ok (.iload_n 0, 1) := by decide +kernel
theorem own_d2_96 : decode method_3_code 96 = .ok (.bipush 12, 2) := by decide +kernel
theorem own_d2_98 : decode method_3_code 98 = .ok (.if_icmp .ne 5, 3) := by decide +kernel
theorem own_d2_101 : decode method_3_code 101 = .ok (.iconst 3, 1) := by decide +kernel
theorem own_d2_102 : decode method_3_code 102 = .ok (.ireturn, 1) := by decide +kernel
theorem own_d2_103 : decode method_3_code 103 = .ok (.iconst 2, 1) := by decide +kernel
theorem own_d2_104 : decode method_3_code 104 = .ok (.ireturn, 1) := by decide +kernel
theorem own_pn0 : plainName "com/example/even_keel/evenkeel/protocol/ApiKeyIsFlexiblePinLaw" = true := by first | (simp [plainName, overriddenIn]; done) | decide +kernel
theorem own_effi (m : MethodId) (x0 : Int32) : entryFrame m #[(.int x0)] 1 = mkF m 0 #[.val (.int x0)] [] := by first | (simp [entryFrame, mkF, argsToLocals, Value.category]; done) | rfl
def own_Qfi (Z : State) (p1 : Int32) (h0 : Heap) (n0 : Nat) (v : Option Value) (h : Heap) (L : List Loc) : Prop := v = some (.int (own_vfi p1)) ∧ Fr n0 L ∧ h = h0
set_option maxRecDepth 65536 in
set_option maxHeartbeats 40000000 in
theorem own_rmfi (l : Launch) (Z : State) (a0 : Array Value) (hw : ∀ d ∈ tables_1, d.before a0 Z = true) (ws : List Jvm.Cond) (p1 : Int32) (h0 : Heap) (n0 : Nat) (Z0 : n0 ≤ h0.size) :
    MetFree l (⟨"com/example/even_keel/evenkeel/protocol/ApiKeyIsFlexiblePinLaw", "first", "(I)I"⟩ : MethodName) (head1 (Jvm.Cond.code (⟨"com/example/even_keel/evenkeel/protocol/ApiKeyIsFlexiblePinLaw", "first", "(I)I"⟩ : MethodName) method_3_code 1 (some .int) :: ws) ({ frames := 0, cells := 0, slots := 0, locals := 0 } : Room)) (fun aa U => aa = #[(.int p1)] ∧ Z.Warmed39 U.vm ∧ U.heap = h0) (fun _ _ _ _ _ => True) (fun _ U o U' => ∃ v L, o = .returned v ∧ own_Qfi Z p1 h0 n0 v U'.heap L ∧ FrameEnd U o U' L ({ frames := 0, cells := 0, slots := 0, locals := 0 } : Room).cells ({ frames := 0, cells := 0, slots := 0, locals := 0 } : Room).slots) := by
  refine MetFree.of_bodySF (plainFor_of_name own_pn0) hisR ?_
  intro p e s m args below meth c s₁ Bd hml0 hP hK
  obtain ⟨rfl, hZ, hh⟩ := hP
  have hx := Bd.exec
  have hby := Bd.bytes
  have hml : c.maxLocals = 1 := hml0
  have hown : s.vm.findClass "com/example/even_keel/evenkeel/protocol/ApiKeyIsFlexiblePinLaw" = some m.cls := findClass_of_methodNamed Bd.named
  have hnm := (name_of_methodNamed Bd.named Bd.method).1
  have X0 : Stand p l e ({ frames := 0, cells := 0, slots := 0, locals := 0 } : Room) s m #[(.int p1)] below meth c s₁ [] 0 0 := Stand.of_body Bd
  have e0 : s₁.heap = h0 := by rw [← hh, Bd.state]; rfl
  have N0 := Fr.nil n0
  have pre0 : ∀ t, Steps p.tables e below (s₁.setTop (mkF m 0 #[.val (.int p1)] [])) t → Steps p.tables e below (s₁.setTop (entryFrame m #[(.int p1)] 1)) t := fun t k => castTop (own_effi m p1) k
  have k1 : ∀ t, Steps p.tables e below (s₁.setTop (mkF m 1 #[.val (.int p1)] [(.int p1)])) t → Steps p.tables e below (s₁.setTop (entryFrame m #[(.int p1)] 1)) t := by
    intro t k
    refine pre0 t ?_
    show Steps p.tables e below (s₁.setTop (mkF m 0 #[.val (.int p1)] [])) _
    refine XS.iloadN X0.here hx rfl (hb hby own_d2_0) rfl ?_
    exact k
  by_cases hc1_2 : p1 = (0 : Int32)
  · have k3 : ∀ t, Steps p.tables e below (s₁.setTop (mkF m 6 #[.val (.int p1)] [(.int (12 : Int32))])) t → Steps p.tables e below (s₁.setTop (entryFrame m #[(.int p1)] 1)) t := by
      intro t k
      refine k1 t ?_
      show Steps p.tables e below (s₁.setTop (mkF m 1 #[.val (.int p1)] [(.int p1)])) _
      refine XS.ifNo X0.here hx rfl (hb hby own_d2_1) rfl ((if0 _ _).trans (teq hc1_2).2) ?_
      show Steps p.tables e below (s₁.setTop (mkF m 4 #[.val (.int p1)] [])) _
      refine XS.bipush X0.here hx rfl (hb hby own_d2_4) ?_
      exact k
    obtain ⟨fs, hr, hrun, hended, hW, hsame⟩ := X0.leave (v := (some (.int (12 : Int32)))) (fun h => by rw [Bd.returns] at h; cases h)
    refine ⟨_, _, k3 _ ?_, hrun, hended, _, _, rfl, ?_, ⟨_, rfl⟩, hW, hsame.mono (by decide) (by decide)⟩
    · exact retI X0 hx Bd.returns (hb hby own_d2_6) hr
    · have hv : (own_vfi p1) = (12 : Int32) := (if_pos hc1_2)
      exact ⟨congrArg (fun z => some (Value.int z)) hv.symm, N0, e0⟩
  · have k4 : ∀ t, Steps p.tables e below (s₁.setTop (mkF m 9 #[.val (.int p1)] [(.int (1 : Int32)), (.int p1)])) t → Steps p.tables e below (s₁.setTop (entryFrame m #[(.int p1)] 1)) t := by
      intro t k
      refine k1 t ?_
      show Steps p.tables e below (s₁.setTop (mkF m 1 #[.val (.int p1)] [(.int p1)])) _
      refine XS.ifYes X0.here hx rfl (pc0 := 1) (pc' := 7) rfl (hb hby own_d2_1) rfl ((if0 _ _).trans (feq hc1_2).2) (by decide) (by decide) ?_
      show Steps p.tables e below (s₁.setTop (mkF m 7 #[.val (.int p1)] [])) _
      refine XS.iloadN X0.here hx rfl (hb hby own_d2_7) rfl ?_
      show Steps p.tables e below (s₁.setTop (mkF m 8 #[.val (.int p1)] [(.int p1)])) _
      refine XS.iconst X0.here hx rfl (hb hby own_d2_8) ?_
      exact k
    by_cases hc9_5 : p1 = (1 : Int32)
    · have k6 : ∀ t, Steps p.tables e below (s₁.setTop (mkF m 14 #[.val (.int p1)] [(.int (6 : Int32))])) t → Steps p.tables e below (s₁.setTop (entryFrame m #[(.int p1)] 1)) t := by
        intro t k
        refine k4 t ?_
        show Steps p.tables e below (s₁.setTop (mkF m 9 #[.val (.int p1)] [(.int (1 : Int32)), (.int p1)])) _
        refine XS.icmpNo X0.here hx rfl (hb hby own_d2_9) rfl (teq hc9_5).2 ?_
        show Steps p.tables e below (s₁.setTop (mkF m 12 #[.val (.int p1)] [])) _
        refine XS.bipush X0.here hx rfl (hb hby own_d2_12) ?_
        exact k
      obtain ⟨fs, hr, hrun, hended, hW, hsame⟩ := X0.leave (v := (some (.int (6 : Int32)))) (fun h => by rw [Bd.returns] at h; cases h)
      refine ⟨_, _, k6 _ ?_, hrun, hended, _, _, rfl, ?_, ⟨_, rfl⟩, hW, hsame.mono (by decide) (by decide)⟩
      · exact retI X0 hx Bd.returns (hb hby own_d2_14) hr
      · have hv : (own_vfi p1) = (6 : Int32) := ((if_neg hc1_2).trans (if_pos hc9_5))
        exact ⟨congrArg (fun z => some (Value.int z)) hv.symm, N0, e0⟩
    · have k7 : ∀ t, Steps p.tables e below (s₁.setTop (mkF m 17 #[.val (.int p1)] [(.int (2 : Int32)), (.int p1)])) t → Steps p.tables e below (s₁.setTop (entryFrame m #[(.int p1)] 1)) t := by
        intro t k
        refine k4 t ?_
        show Steps p.tables e below (s₁.setTop (mkF m 9 #[.val (.int p1)] [(.int (1 : Int32)), (.int p1)])) _
        refine XS.icmpYes X0.here hx rfl (pc0 := 9) (pc' := 15) rfl (hb hby own_d2_9) rfl (feq hc9_5).2 (by decide) (by decide) ?_
        show Steps p.tables e below (s₁.setTop (mkF m 15 #[.val (.int p1)] [])) _
        refine XS.iloadN X0.here hx rfl (hb hby own_d2_15) rfl ?_
        show Steps p.tables e below (s₁.setTop (mkF m 16 #[.val (.int p1)] [(.int p1)])) _
        refine XS.iconst X0.here hx rfl (hb hby own_d2_16) ?_
        exact k
      by_cases hc17_8 : p1 = (2 : Int32)
      · have k9 : ∀ t, Steps p.tables e below (s₁.setTop (mkF m 22 #[.val (.int p1)] [(.int (9 : Int32))])) t → Steps p.tables e below (s₁.setTop (entryFrame m #[(.int p1)] 1)) t := by
          intro t k
          refine k7 t ?_
          show Steps p.tables e below (s₁.setTop (mkF m 17 #[.val (.int p1)] [(.int (2 : Int32)), (.int p1)])) _
          refine XS.icmpNo X0.here hx rfl (hb hby own_d2_17) rfl (teq hc17_8).2 ?_
          show Steps p.tables e below (s₁.setTop (mkF m 20 #[.val (.int p1)] [])) _
          refine XS.bipush X0.here hx rfl (hb hby own_d2_20) ?_
          exact k
        obtain ⟨fs, hr, hrun, hended, hW, hsame⟩ := X0.leave (v := (some (.int (9 : Int32)))) (fun h => by rw [Bd.returns] at h; cases h)
        refine ⟨_, _, k9 _ ?_, hrun, hended, _, _, rfl, ?_, ⟨_, rfl⟩, hW, hsame.mono (by decide) (by decide)⟩
        · exact retI X0 hx Bd.returns (hb hby own_d2_22) hr
        · have hv : (own_vfi p1) = (9 : Int32) := ((if_neg hc1_2).trans ((if_neg hc9_5).trans (if_pos hc17_8)))
          exact ⟨congrArg (fun z => some (Value.int z)) hv.symm, N0, e0⟩
      · have k10 : ∀ t, Steps p.tables e below (s₁.setTop (mkF m 25 #[.val (.int p1)] [(.int (3 : Int32)), (.int p1)])) t → Steps p.tables e below (s₁.setTop (entryFrame m #[(.int p1)] 1)) t := by
          intro t k
          refine k7 t ?_
          show Steps p.tables e below (s₁.setTop (mkF m 17 #[.val (.int p1)] [(.int (2 : Int32)), (.int p1)])) _
          refine XS.icmpYes X0.here hx rfl (pc0 := 17) (pc' := 23) rfl (hb hby own_d2_17) rfl (feq hc17_8).2 (by decide) (by decide) ?_
          show Steps p.tables e below (s₁.setTop (mkF m 23 #[.val (.int p1)] [])) _
          refine XS.iloadN X0.here hx rfl (hb hby own_d2_23) rfl ?_
          show Steps p.tables e below (s₁.setTop (mkF m 24 #[.val (.int p1)] [(.int p1)])) _
          refine XS.iconst X0.here hx rfl (hb hby own_d2_24) ?_
          exact k
        by_cases hc25_11 : p1 = (3 : Int32)
        · have k12 : ∀ t, Steps p.tables e below (s₁.setTop (mkF m 30 #[.val (.int p1)] [(.int (8 : Int32))])) t → Steps p.tables e below (s₁.setTop (entryFrame m #[(.int p1)] 1)) t := by
            intro t k
            refine k10 t ?_
            show Steps p.tables e below (s₁.setTop (mkF m 25 #[.val (.int p1)] [(.int (3 : Int32)), (.int p1)])) _
            refine XS.icmpNo X0.here hx rfl (hb hby own_d2_25) rfl (teq hc25_11).2 ?_
            show Steps p.tables e below (s₁.setTop (mkF m 28 #[.val (.int p1)] [])) _
            refine XS.bipush X0.here hx rfl (hb hby own_d2_28) ?_
            exact k
          obtain ⟨fs, hr, hrun, hended, hW, hsame⟩ := X0.leave (v := (some (.int (8 : Int32)))) (fun h => by rw [Bd.returns] at h; cases h)
          refine ⟨_, _, k12 _ ?_, hrun, hended, _, _, rfl, ?_, ⟨_, rfl⟩, hW, hsame.mono (by decide) (by decide)⟩
          · exact retI X0 hx Bd.returns (hb hby own_d2_30) hr
          · have hv : (own_vfi p1) = (8 : Int32) := ((if_neg hc1_2).trans ((if_neg hc9_5).trans ((if_neg hc17_8).trans (if_pos hc25_11))))
            exact ⟨congrArg (fun z => some (Value.int z)) hv.symm, N0, e0⟩
        · have k13 : ∀ t, Steps p.tables e below (s₁.setTop (mkF m 33 #[.val (.int p1)] [(.int (4 : Int32)), (.int p1)])) t → Steps p.tables e below (s₁.setTop (entryFrame m #[(.int p1)] 1)) t := by
            intro t k
            refine k10 t ?_
            show Steps p.tables e below (s₁.setTop (mkF m 25 #[.val (.int p1)] [(.int (3 : Int32)), (.int p1)])) _
            refine XS.icmpYes X0.here hx rfl (pc0 := 25) (pc' := 31) rfl (hb hby own_d2_25) rfl (feq hc25_11).2 (by decide) (by decide) ?_
            show Steps p.tables e below (s₁.setTop (mkF m 31 #[.val (.int p1)] [])) _
            refine XS.iloadN X0.here hx rfl (hb hby own_d2_31) rfl ?_
            show Steps p.tables e below (s₁.setTop (mkF m 32 #[.val (.int p1)] [(.int p1)])) _
            refine XS.iconst X0.here hx rfl (hb hby own_d2_32) ?_
            exact k
          by_cases hc33_14 : p1 = (4 : Int32)
          · have k15 : ∀ t, Steps p.tables e below (s₁.setTop (mkF m 38 #[.val (.int p1)] [(.int (6 : Int32))])) t → Steps p.tables e below (s₁.setTop (entryFrame m #[(.int p1)] 1)) t := by
              intro t k
              refine k13 t ?_
              show Steps p.tables e below (s₁.setTop (mkF m 33 #[.val (.int p1)] [(.int (4 : Int32)), (.int p1)])) _
              refine XS.icmpNo X0.here hx rfl (hb hby own_d2_33) rfl (teq hc33_14).2 ?_
              show Steps p.tables e below (s₁.setTop (mkF m 36 #[.val (.int p1)] [])) _
              refine XS.bipush X0.here hx rfl (hb hby own_d2_36) ?_
              exact k
            obtain ⟨fs, hr, hrun, hended, hW, hsame⟩ := X0.leave (v := (some (.int (6 : Int32)))) (fun h => by rw [Bd.returns] at h; cases h)
            refine ⟨_, _, k15 _ ?_, hrun, hended, _, _, rfl, ?_, ⟨_, rfl⟩, hW, hsame.mono (by decide) (by decide)⟩
            · exact retI X0 hx Bd.returns (hb hby own_d2_38) hr
            · have hv : (own_vfi p1) = (6 : Int32) := ((if_neg hc1_2).trans ((if_neg hc9_5).trans ((if_neg hc17_8).trans ((if_neg hc25_11).trans (if_pos hc33_14)))))
              exact ⟨congrArg (fun z => some (Value.int z)) hv.symm, N0, e0⟩
          · have k16 : ∀ t, Steps p.tables e below (s₁.setTop (mkF m 41 #[.val (.int p1)] [(.int (5 : Int32)), (.int p1)])) t → Steps p.tables e below (s₁.setTop (entryFrame m #[(.int p1)] 1)) t := by
              intro t k
              refine k13 t ?_
              show Steps p.tables e below (s₁.setTop (mkF m 33 #[.val (.int p1)] [(.int (4 : Int32)), (.int p1)])) _
              refine XS.icmpYes X0.here hx rfl (pc0 := 33) (pc' := 39) rfl (hb hby own_d2_33) rfl (feq hc33_14).2 (by decide) (by decide) ?_
              show Steps p.tables e below (s₁.setTop (mkF m 39 #[.val (.int p1)] [])) _
              refine XS.iloadN X0.here hx rfl (hb hby own_d2_39) rfl ?_
              show Steps p.tables e below (s₁.setTop (mkF m 40 #[.val (.int p1)] [(.int p1)])) _
              refine XS.iconst X0.here hx rfl (hb hby own_d2_40) ?_
              exact k
            by_cases hc41_17 : p1 = (5 : Int32)
            · have k18 : ∀ t, Steps p.tables e below (s₁.setTop (mkF m 45 #[.val (.int p1)] [(.int (3 : Int32))])) t → Steps p.tables e below (s₁.setTop (entryFrame m #[(.int p1)] 1)) t := by
                intro t k
                refine k16 t ?_
                show Steps p.tables e below (s₁.setTop (mkF m 41 #[.val (.int p1)] [(.int (5 : Int32)), (.int p1)])) _
                refine XS.icmpNo X0.here hx rfl (hb hby own_d2_41) rfl (teq hc41_17).2 ?_
                show Steps p.tables e below (s₁.setTop (mkF m 44 #[.val (.int p1)] [])) _
                refine XS.iconst X0.here hx rfl (hb hby own_d2_44) ?_
                exact k
              obtain ⟨fs, hr, hrun, hended, hW, hsame⟩ := X0.leave (v := (some (.int (3 : Int32)))) (fun h => by rw [Bd.returns] at h; cases h)
              refine ⟨_, _, k18 _ ?_, hrun, hended, _, _, rfl, ?_, ⟨_, rfl⟩, hW, hsame.mono (by decide) (by decide)⟩
              · exact retI X0 hx Bd.returns (hb hby own_d2_45) hr
              · have hv : (own_vfi p1) = (3 : Int32) := ((if_neg hc1_2).trans ((if_neg hc9_5).trans ((if_neg hc17_8).trans ((if_neg hc25_11).trans ((if_neg hc33_14).trans (if_pos hc41_17))))))
                exact ⟨congrArg (fun z => some (Value.int z)) hv.symm, N0, e0⟩
            · have k19 : ∀ t, Steps p.tables e below (s₁.setTop (mkF m 49 #[.val (.int p1)] [(.int (6 : Int32)), (.int p1)])) t → Steps p.tables e below (s₁.setTop (entryFrame m #[(.int p1)] 1)) t := by
                intro t k
                refine k16 t ?_
                show Steps p.tables e below (s₁.setTop (mkF m 41 #[.val (.int p1)] [(.int (5 : Int32)), (.int p1)])) _
                refine XS.icmpYes X0.here hx rfl (pc0 := 41) (pc' := 46) rfl (hb hby own_d2_41) rfl (feq hc41_17).2 (by decide) (by decide) ?_
                show Steps p.tables e below (s₁.setTop (mkF m 46 #[.val (.int p1)] [])) _
                refine XS.iloadN X0.here hx rfl (hb hby own_d2_46) rfl ?_
                show Steps p.tables e below (s₁.setTop (mkF m 47 #[.val (.int p1)] [(.int p1)])) _
                refine XS.bipush X0.here hx rfl (hb hby own_d2_47) ?_
                exact k
              by_cases hc49_20 : p1 = (6 : Int32)
              · have k21 : ∀ t, Steps p.tables e below (s₁.setTop (mkF m 54 #[.val (.int p1)] [(.int (6 : Int32))])) t → Steps p.tables e below (s₁.setTop (entryFrame m #[(.int p1)] 1)) t := by
                  intro t k
                  refine k19 t ?_
                  show Steps p.tables e below (s₁.setTop (mkF m 49 #[.val (.int p1)] [(.int (6 : Int32)), (.int p1)])) _
                  refine XS.icmpNo X0.here hx rfl (hb hby own_d2_49) rfl (teq hc49_20).2 ?_
                  show Steps p.tables e below (s₁.setTop (mkF m 52 #[.val (.int p1)] [])) _
                  refine XS.bipush X0.here hx rfl (hb hby own_d2_52) ?_
                  exact k
                obtain ⟨fs, hr, hrun, hended, hW, hsame⟩ := X0.leave (v := (some (.int (6 : Int32)))) (fun h => by rw [Bd.returns] at h; cases h)
                refine ⟨_, _, k21 _ ?_, hrun, hended, _, _, rfl, ?_, ⟨_, rfl⟩, hW, hsame.mono (by decide) (by decide)⟩
                · exact retI X0 hx Bd.returns (hb hby own_d2_54) hr
                · have hv : (own_vfi p1) = (6 : Int32) := ((if_neg hc1_2).trans ((if_neg hc9_5).trans ((if_neg hc17_8).trans ((if_neg hc25_11).trans ((if_neg hc33_14).trans ((if_neg hc41_17).trans (if_pos hc49_20)))))))
                  exact ⟨congrArg (fun z => some (Value.int z)) hv.symm, N0, e0⟩
              · have k22 : ∀ t, Steps p.tables e below (s₁.setTop (mkF m 58 #[.val (.int p1)] [(.int (7 : Int32)), (.int p1)])) t → Steps p.tables e below (s₁.setTop (entryFrame m #[(.int p1)] 1)) t := by
                  intro t k
                  refine k19 t ?_
                  show Steps p.tables e below (s₁.setTop (mkF m 49 #[.val (.int p1)] [(.int (6 : Int32)), (.int p1)])) _
                  refine XS.icmpYes X0.here hx rfl (pc0 := 49) (pc' := 55) rfl (hb hby own_d2_49) rfl (feq hc49_20).2 (by decide) (by decide) ?_
                  show Steps p.tables e below (s₁.setTop (mkF m 55 #[.val (.int p1)] [])) _
                  refine XS.iloadN X0.here hx rfl (hb hby own_d2_55) rfl ?_
                  show Steps p.tables e below (s₁.setTop (mkF m 56 #[.val (.int p1)] [(.int p1)])) _
                  refine XS.bipush X0.here hx rfl (hb hby own_d2_56) ?_
                  exact k
                by_cases hc58_23 : p1 = (7 : Int32)
                · have k24 : ∀ t, Steps p.tables e below (s₁.setTop (mkF m 62 #[.val (.int p1)] [(.int (4 : Int32))])) t → Steps p.tables e below (s₁.setTop (entryFrame m #[(.int p1)] 1)) t := by
                    intro t k
                    refine k22 t ?_
                    show Steps p.tables e below (s₁.setTop (mkF m 58 #[.val (.int p1)] [(.int (7 : Int32)), (.int p1)])) _
                    refine XS.icmpNo X0.here hx rfl (hb hby own_d2_58) rfl (teq hc58_23).2 ?_
                    show Steps p.tables e below (s₁.setTop (mkF m 61 #[.val (.int p1)] [])) _
                    refine XS.iconst X0.here hx rfl (hb hby own_d2_61) ?_
                    exact k
                  obtain ⟨fs, hr, hrun, hended, hW, hsame⟩ := X0.leave (v := (some (.int (4 : Int32)))) (fun h => by rw [Bd.returns] at h; cases h)
                  refine ⟨_, _, k24 _ ?_, hrun, hended, _, _, rfl, ?_, ⟨_, rfl⟩, hW, hsame.mono (by decide) (by decide)⟩
                  · exact retI X0 hx Bd.returns (hb hby own_d2_62) hr
                  · have hv : (own_vfi p1) = (4 : Int32) := ((if_neg hc1_2).trans ((if_neg hc9_5).trans ((if_neg hc17_8).trans ((if_neg hc25_11).trans ((if_neg hc33_14).trans ((if_neg hc41_17).trans ((if_neg hc49_20).trans (if_pos hc58_23))))))))
                    exact ⟨congrArg (fun z => some (Value.int z)) hv.symm, N0, e0⟩
                · have k25 : ∀ t, Steps p.tables e below (s₁.setTop (mkF m 66 #[.val (.int p1)] [(.int (8 : Int32)), (.int p1)])) t → Steps p.tables e below (s₁.setTop (entryFrame m #[(.int p1)] 1)) t := by
                    intro t k
                    refine k22 t ?_
                    show Steps p.tables e below (s₁.setTop (mkF m 58 #[.val (.int p1)] [(.int (7 : Int32)), (.int p1)])) _
                    refine XS.icmpYes X0.here hx rfl (pc0 := 58) (pc' := 63) rfl (hb hby own_d2_58) rfl (feq hc58_23).2 (by decide) (by decide) ?_
                    show Steps p.tables e below (s₁.setTop (mkF m 63 #[.val (.int p1)] [])) _
                    refine XS.iloadN X0.here hx rfl (hb hby own_d2_63) rfl ?_
                    show Steps p.tables e below (s₁.setTop (mkF m 64 #[.val (.int p1)] [(.int p1)])) _
                    refine XS.bipush X0.here hx rfl (hb hby own_d2_64) ?_
                    exact k
                  by_cases hc66_26 : p1 = (8 : Int32)
                  · have k27 : ∀ t, Steps p.tables e below (s₁.setTop (mkF m 70 #[.val (.int p1)] [(.int (4 : Int32))])) t → Steps p.tables e below (s₁.setTop (entryFrame m #[(.int p1)] 1)) t := by
                      intro t k
                      refine k25 t ?_
                      show Steps p.tables e below (s₁.setTop (mkF m 66 #[.val (.int p1)] [(.int (8 : Int32)), (.int p1)])) _
                      refine XS.icmpNo X0.here hx rfl (hb hby own_d2_66) rfl (teq hc66_26).2 ?_
                      show Steps p.tables e below (s₁.setTop (mkF m 69 #[.val (.int p1)] [])) _
                      refine XS.iconst X0.here hx rfl (hb hby own_d2_69) ?_
                      exact k
                    obtain ⟨fs, hr, hrun, hended, hW, hsame⟩ := X0.leave (v := (some (.int (4 : Int32)))) (fun h => by rw [Bd.returns] at h; cases h)
                    refine ⟨_, _, k27 _ ?_, hrun, hended, _, _, rfl, ?_, ⟨_, rfl⟩, hW, hsame.mono (by decide) (by decide)⟩
                    · exact retI X0 hx Bd.returns (hb hby own_d2_70) hr
                    · have hv : (own_vfi p1) = (4 : Int32) := ((if_neg hc1_2).trans ((if_neg hc9_5).trans ((if_neg hc17_8).trans ((if_neg hc25_11).trans ((if_neg hc33_14).trans ((if_neg hc41_17).trans ((if_neg hc49_20).trans ((if_neg hc58_23).trans (if_pos hc66_26)))))))))
                      exact ⟨congrArg (fun z => some (Value.int z)) hv.symm, N0, e0⟩
                  · have k28 : ∀ t, Steps p.tables e below (s₁.setTop (mkF m 74 #[.val (.int p1)] [(.int (9 : Int32)), (.int p1)])) t → Steps p.tables e below (s₁.setTop (entryFrame m #[(.int p1)] 1)) t := by
                      intro t k
                      refine k25 t ?_
                      show Steps p.tables e below (s₁.setTop (mkF m 66 #[.val (.int p1)] [(.int (8 : Int32)), (.int p1)])) _
                      refine XS.icmpYes X0.here hx rfl (pc0 := 66) (pc' := 71) rfl (hb hby own_d2_66) rfl (feq hc66_26).2 (by decide) (by decide) ?_
                      show Steps p.tables e below (s₁.setTop (mkF m 71 #[.val (.int p1)] [])) _
                      refine XS.iloadN X0.here hx rfl (hb hby own_d2_71) rfl ?_
                      show Steps p.tables e below (s₁.setTop (mkF m 72 #[.val (.int p1)] [(.int p1)])) _
                      refine XS.bipush X0.here hx rfl (hb hby own_d2_72) ?_
                      exact k
                    by_cases hc74_29 : p1 = (9 : Int32)
                    · have k30 : ∀ t, Steps p.tables e below (s₁.setTop (mkF m 78 #[.val (.int p1)] [(.int (4 : Int32))])) t → Steps p.tables e below (s₁.setTop (entryFrame m #[(.int p1)] 1)) t := by
                        intro t k
                        refine k28 t ?_
                        show Steps p.tables e below (s₁.setTop (mkF m 74 #[.val (.int p1)] [(.int (9 : Int32)), (.int p1)])) _
                        refine XS.icmpNo X0.here hx rfl (hb hby own_d2_74) rfl (teq hc74_29).2 ?_
                        show Steps p.tables e below (s₁.setTop (mkF m 77 #[.val (.int p1)] [])) _
                        refine XS.iconst X0.here hx rfl (hb hby own_d2_77) ?_
                        exact k
                      obtain ⟨fs, hr, hrun, hended, hW, hsame⟩ := X0.leave (v := (some (.int (4 : Int32)))) (fun h => by rw [Bd.returns] at h; cases h)
                      refine ⟨_, _, k30 _ ?_, hrun, hended, _, _, rfl, ?_, ⟨_, rfl⟩, hW, hsame.mono (by decide) (by decide)⟩
                      · exact retI X0 hx Bd.returns (hb hby own_d2_78) hr
                      · have hv : (own_vfi p1) = (4 : Int32) := ((if_neg hc1_2).trans ((if_neg hc9_5).trans ((if_neg hc17_8).trans ((if_neg hc25_11).trans ((if_neg hc33_14).trans ((if_neg hc41_17).trans ((if_neg hc49_20).trans ((if_neg hc58_23).trans ((if_neg hc66_26).trans (if_pos hc74_29))))))))))
                        exact ⟨congrArg (fun z => some (Value.int z)) hv.symm, N0, e0⟩
                    · have k31 : ∀ t, Steps p.tables e below (s₁.setTop (mkF m 82 #[.val (.int p1)] [(.int (10 : Int32)), (.int p1)])) t → Steps p.tables e below (s₁.setTop (entryFrame m #[(.int p1)] 1)) t := by
                        intro t k
                        refine k28 t ?_
                        show Steps p.tables e below (s₁.setTop (mkF m 74 #[.val (.int p1)] [(.int (9 : Int32)), (.int p1)])) _
                        refine XS.icmpYes X0.here hx rfl (pc0 := 74) (pc' := 79) rfl (hb hby own_d2_74) rfl (feq hc74_29).2 (by decide) (by decide) ?_
                        show Steps p.tables e below (s₁.setTop (mkF m 79 #[.val (.int p1)] [])) _
                        refine XS.iloadN X0.here hx rfl (hb hby own_d2_79) rfl ?_
                        show Steps p.tables e below (s₁.setTop (mkF m 80 #[.val (.int p1)] [(.int p1)])) _
                        refine XS.bipush X0.here hx rfl (hb hby own_d2_80) ?_
                        exact k
                      by_cases hc82_32 : p1 = (10 : Int32)
                      · have k33 : ∀ t, Steps p.tables e below (s₁.setTop (mkF m 86 #[.val (.int p1)] [(.int (5 : Int32))])) t → Steps p.tables e below (s₁.setTop (entryFrame m #[(.int p1)] 1)) t := by
                          intro t k
                          refine k31 t ?_
                          show Steps p.tables e below (s₁.setTop (mkF m 82 #[.val (.int p1)] [(.int (10 : Int32)), (.int p1)])) _
                          refine XS.icmpNo X0.here hx rfl (hb hby own_d2_82) rfl (teq hc82_32).2 ?_
                          show Steps p.tables e below (s₁.setTop (mkF m 85 #[.val (.int p1)] [])) _
                          refine XS.iconst X0.here hx rfl (hb hby own_d2_85) ?_
                          exact k
                        obtain ⟨fs, hr, hrun, hended, hW, hsame⟩ := X0.leave (v := (some (.int (5 : Int32)))) (fun h => by rw [Bd.returns] at h; cases h)
                        refine ⟨_, _, k33 _ ?_, hrun, hended, _, _, rfl, ?_, ⟨_, rfl⟩, hW, hsame.mono (by decide) (by decide)⟩
                        · exact retI X0 hx Bd.returns (hb hby own_d2_86) hr
                        · have hv : (own_vfi p1) = (5 : Int32) := ((if_neg hc1_2).trans ((if_neg hc9_5).trans ((if_neg hc17_8).trans ((if_neg hc25_11).trans ((if_neg hc33_14).trans ((if_neg hc41_17).trans ((if_neg hc49_20).trans ((if_neg hc58_23).trans ((if_neg hc66_26).trans ((if_neg hc74_29).trans (if_pos hc82_32)))))))))))
                          exact ⟨congrArg (fun z => some (Value.int z)) hv.symm, N0, e0⟩
                      · have k34 : ∀ t, Steps p.tables e below (s₁.setTop (mkF m 90 #[.val (.int p1)] [(.int (11 : Int32)), (.int p1)])) t → Steps p.tables e below (s₁.setTop (entryFrame m #[(.int p1)] 1)) t := by
                          intro t k
                          refine k31 t ?_
                          show Steps p.tables e below (s₁.setTop (mkF m 82 #[.val (.int p1)] [(.int (10 : Int32)), (.int p1)])) _
                          refine XS.icmpYes X0.here hx rfl (pc0 := 82) (pc' := 87) rfl (hb hby own_d2_82) rfl (feq hc82_32).2 (by decide) (by decide) ?_
                          show Steps p.tables e below (s₁.setTop (mkF m 87 #[.val (.int p1)] [])) _
                          refine XS.iloadN X0.here hx rfl (hb hby own_d2_87) rfl ?_
                          show Steps p.tables e below (s₁.setTop (mkF m 88 #[.val (.int p1)] [(.int p1)])) _
                          refine XS.bipush X0.here hx rfl (hb hby own_d2_88) ?_
                          exact k
                        by_cases hc90_35 : p1 = (11 : Int32)
                        · have k36 : ∀ t, Steps p.tables e below (s₁.setTop (mkF m 94 #[.val (.int p1)] [(.int (3 : Int32))])) t → Steps p.tables e below (s₁.setTop (entryFrame m #[(.int p1)] 1)) t := by
                            intro t k
                            refine k34 t ?_
                            show Steps p.tables e below (s₁.setTop (mkF m 90 #[.val (.int p1)] [(.int (11 : Int32)), (.int p1)])) _
                            refine XS.icmpNo X0.here hx rfl (hb hby own_d2_90) rfl (teq hc90_35).2 ?_
                            show Steps p.tables e below (s₁.setTop (mkF m 93 #[.val (.int p1)] [])) _
                            refine XS.iconst X0.here hx rfl (hb hby own_d2_93) ?_
                            exact k
                          obtain ⟨fs, hr, hrun, hended, hW, hsame⟩ := X0.leave (v := (some (.int (3 : Int32)))) (fun h => by rw [Bd.returns] at h; cases h)
                          refine ⟨_, _, k36 _ ?_, hrun, hended, _, _, rfl, ?_, ⟨_, rfl⟩, hW, hsame.mono (by decide) (by decide)⟩
                          · exact retI X0 hx Bd.returns (hb hby own_d2_94) hr
                          · have hv : (own_vfi p1) = (3 : Int32) := ((if_neg hc1_2).trans ((if_neg hc9_5).trans ((if_neg hc17_8).trans ((if_neg hc25_11).trans ((if_neg hc33_14).trans ((if_neg hc41_17).trans ((if_neg hc49_20).trans ((if_neg hc58_23).trans ((if_neg hc66_26).trans ((if_neg hc74_29).trans ((if_neg hc82_32).trans (if_pos hc90_35))))))))))))
                            exact ⟨congrArg (fun z => some (Value.int z)) hv.symm, N0, e0⟩
                        · have k37 : ∀ t, Steps p.tables e below (s₁.setTop (mkF m 98 #[.val (.int p1)] [(.int (12 : Int32)), (.int p1)])) t → Steps p.tables e below (s₁.setTop (entryFrame m #[(.int p1)] 1)) t := by
                            intro t k
                            refine k34 t ?_
                            show Steps p.tables e below (s₁.setTop (mkF m 90 #[.val (.int p1)] [(.int (11 : Int32)), (.int p1)])) _
                            refine XS.icmpYes X0.here hx rfl (pc0 := 90) (pc' := 95) rfl (hb hby own_d2_90) rfl (feq hc90_35).2 (by decide) (by decide) ?_
                            show Steps p.tables e below (s₁.setTop (mkF m 95 #[.val (.int p1)] [])) _
                            refine XS.iloadN X0.here hx rfl (hb hby own_d2_95) rfl ?_
                            show Steps p.tables e below (s₁.setTop (mkF m 96 #[.val (.int p1)] [(.int p1)])) _
                            refine XS.bipush X0.here hx rfl (hb hby own_d2_96) ?_
                            exact k
                          by_cases hc98_38 : p1 = (12 : Int32)
                          · have k39 : ∀ t, Steps p.tables e below (s₁.setTop (mkF m 102 #[.val (.int p1)] [(.int (3 : Int32))])) t → Steps p.tables e below (s₁.setTop (entryFrame m #[(.int p1)] 1)) t := by
                              intro t k
                              refine k37 t ?_
                              show Steps p.tables e below (s₁.setTop (mkF m 98 #[.val (.int p1)] [(.int (12 : Int32)), (.int p1)])) _
                              refine XS.icmpNo X0.here hx rfl (hb hby own_d2_98) rfl (teq hc98_38).2 ?_
                              show Steps p.tables e below (s₁.setTop (mkF m 101 #[.val (.int p1)] [])) _
                              refine XS.iconst X0.here hx rfl (hb hby own_d2_101) ?_
                              exact k
                            obtain ⟨fs, hr, hrun, hended, hW, hsame⟩ := X0.leave (v := (some (.int (3 : Int32)))) (fun h => by rw [Bd.returns] at h; cases h)
                            refine ⟨_, _, k39 _ ?_, hrun, hended, _, _, rfl, ?_, ⟨_, rfl⟩, hW, hsame.mono (by decide) (by decide)⟩
                            · exact retI X0 hx Bd.returns (hb hby own_d2_102) hr
                            · have hv : (own_vfi p1) = (3 : Int32) := ((if_neg hc1_2).trans ((if_neg hc9_5).trans ((if_neg hc17_8).trans ((if_neg hc25_11).trans ((if_neg hc33_14).trans ((if_neg hc41_17).trans ((if_neg hc49_20).trans ((if_neg hc58_23).trans ((if_neg hc66_26).trans ((if_neg hc74_29).trans ((if_neg hc82_32).trans ((if_neg hc90_35).trans (if_pos hc98_38)))))))))))))
                              exact ⟨congrArg (fun z => some (Value.int z)) hv.symm, N0, e0⟩
                          · have k40 : ∀ t, Steps p.tables e below (s₁.setTop (mkF m 104 #[.val (.int p1)] [(.int (2 : Int32))])) t → Steps p.tables e below (s₁.setTop (entryFrame m #[(.int p1)] 1)) t := by
                              intro t k
                              refine k37 t ?_
                              show Steps p.tables e below (s₁.setTop (mkF m 98 #[.val (.int p1)] [(.int (12 : Int32)), (.int p1)])) _
                              refine XS.icmpYes X0.here hx rfl (pc0 := 98) (pc' := 103) rfl (hb hby own_d2_98) rfl (feq hc98_38).2 (by decide) (by decide) ?_
                              show Steps p.tables e below (s₁.setTop (mkF m 103 #[.val (.int p1)] [])) _
                              refine XS.iconst X0.here hx rfl (hb hby own_d2_103) ?_
                              exact k
                            obtain ⟨fs, hr, hrun, hended, hW, hsame⟩ := X0.leave (v := (some (.int (2 : Int32)))) (fun h => by rw [Bd.returns] at h; cases h)
                            refine ⟨_, _, k40 _ ?_, hrun, hended, _, _, rfl, ?_, ⟨_, rfl⟩, hW, hsame.mono (by decide) (by decide)⟩
                            · exact retI X0 hx Bd.returns (hb hby own_d2_104) hr
                            · have hv : (own_vfi p1) = (2 : Int32) := ((if_neg hc1_2).trans ((if_neg hc9_5).trans ((if_neg hc17_8).trans ((if_neg hc25_11).trans ((if_neg hc33_14).trans ((if_neg hc41_17).trans ((if_neg hc49_20).trans ((if_neg hc58_23).trans ((if_neg hc66_26).trans ((if_neg hc74_29).trans ((if_neg hc82_32).trans ((if_neg hc90_35).trans (if_neg hc98_38)))))))))))))
                              exact ⟨congrArg (fun z => some (Value.int z)) hv.symm, N0, e0⟩
theorem own_d1_0 : decode method_2_code 0 = .ok (.iload_n 0, 1) := by decide +kernel
theorem own_d1_1 : decode method_2_code 1 = .ok (.ifCond .ne 7, 3) := by decide +kernel
theorem own_d1_4 : decode method_2_code 4 = .ok (.getstatic 7, 3) := by decide +kernel
theorem own_d1_7 : decode method_2_code 7 = .ok (.areturn, 1) := by decide +kernel
theorem own_d1_8 : decode method_2_code 8 = .ok (.iload_n 0, 1) := by decide +kernel
theorem own_d1_9 : decode method_2_code 9 = .ok (.iconst 1, 1) := by decide +kernel
theorem own_d1_10 : decode method_2_code 10 = .ok (.if_icmp .ne 7, 3) := by decide +kernel
theorem own_d1_13 : decode method_2_code 13 = .ok (.getstatic 13, 3) := by decide +kernel
theorem own_d1_16 : decode method_2_code 16 = .ok (.areturn, 1) := by decide +kernel
theorem own_d1_17 : decode method_2_code 17 = .ok (.iload_n 0, 1) := by decide +kernel
theorem own_d1_18 : decode method_2_code 18 = .ok (.iconst 2, 1) := by decide +kernel
theorem own_d1_19 : decode method_2_code 19 = .ok (.if_icmp .ne 7, 3) := by decide +kernel
theorem own_d1_22 : decode method_2_code 22 = .ok (.getstatic 16, 3) := by decide +kernel
theorem own_d1_25 : decode method_2_code 25 = .ok (.areturn, 1) := by decide +kernel
theorem own_d1_26 : decode method_2_code 26 = .ok (.iload_n 0, 1) := by decide +kernel
theorem own_d1_27 : decode method_2_code 27 = .ok (.iconst 3, 1) := by decide +kernel
theorem own_d1_28 : decode method_2_code 28 = .ok (.if_icmp .ne 7, 3) := by decide +kernel
theorem own_d1_31 : decode method_2_code 31 = .ok (.getstatic 19, 3) := by decide +kernel
theorem own_d1_34 : decode method_2_code 34 = .ok (.areturn, 1) := by decide +kernel
theorem own_d1_35 : decode method_2_code 35 = .ok (.iload_n 0, 1) := by decide +kernel
theorem own_d1_36 : decode method_2_code 36 = .ok (.iconst 4, 1) := by decide +kernel
theorem own_d1_37 : decode method_2_code 37 = .ok (.if_icmp .ne 7, 3) := by decide +kernel
theorem own_d1_40 : decode method_2_code 40 = .ok (.getstatic 22, 3) := by decide +kernel
theorem own_d1_43 : decode method_2_code 43 = .ok (.areturn, 1) := by decide +kernel
theorem own_d1_44 : decode method_2_code 44 = .ok (.iload_n 0, 1) := by decide +kernel
theorem own_d1_45 : decode method_2_code 45 = .ok (.iconst 5, 1) := by decide +kernel
theorem own_d1_46 : decode method_2_code 46 = .ok (.if_icmp .ne 7, 3) := by decide +kernel
theorem own_d1_49 : decode method_2_code 49 = .ok (.getstatic 25, 3) := by decide +kernel
theorem own_d1_52 : decode method_2_code 52 = .ok (.areturn, 1) := by decide +kernel
theorem own_d1_53 : decode method_2_code 53 = .ok (.iload_n 0, 1) := by decide +kernel
theorem own_d1_54 : decode method_2_code 54 = .ok (.bipush 6, 2) := by decide +kernel
theorem own_d1_56 : decode method_2_code 56 = .ok (.if_icmp .ne 7, 3) := by decide +kernel
theorem own_d1_59 : decode method_2_code 59 = .ok (.getstatic 28, 3) := by decide +kernel
theorem own_d1_62 : decode method_2_code 62 = .ok (.areturn, 1) := by decide +kernel
theorem own_d1_63 : decode method_2_code 63 = .ok (.iload_n 0, 1) := by decide +kernel
theorem own_d1_64 : decode method_2_code 64 = .ok (.bipush 7, 2) := by decide +kernel
theorem own_d1_66 : decode method_2_code 66 = .ok (.if_icmp .ne 7, 3) := by decide +kernel
theorem own_d1_69 : decode method_2_code 69 = .ok (.getstatic 31, 3) := by decide +kernel
theorem own_d1_72 : decode method_2_code 72 = .ok (.areturn, 1) := by decide +kernel
theorem own_d1_73 : decode method_2_code 73 = .ok (.iload_n 0, 1) := by decide +kernel
theorem own_d1_74 : decode method_2_code 74 = .ok (.bipush 8, 2) := by decide +kernel
theorem own_d1_76 : decode method_2_code 76 = .ok (.if_icmp .ne 7, 3) := by decide +kernel
theorem own_d1_79 : decode method_2_code 79 = .ok (.getstatic 34, 3) := by decide +kernel
theorem own_d1_82 : decode method_2_code 82 = .ok (.areturn, 1) := by decide +kernel
theorem own_d1_83 : decode method_2_code 83 = .ok (.iload_n 0, 1) := by decide +kernel
theorem own_d1_84 : decode method_2_code 84 = .ok (.bipush 9, 2) := by decide +kernel
theorem own_d1_86 : decode method_2_code 86 = .ok (.if_icmp .ne 7, 3) := by decide +kernel
theorem own_d1_89 : decode method_2_code 89 = .ok (.getstatic 37, 3) := by decide +kernel
theorem own_d1_92 : decode method_2_code 92 = .ok (.areturn, 1) := by decide +kernel
theorem own_d1_93 : decode method_2_code 93 = .ok (.iload_n 0, 1) := by decide +kernel
theorem own_d1_94 : decode method_2_code 94 = .ok (.bipush 10, 2) := by decide +kernel
theorem own_d1_96 : decode method_2_code 96 = .ok (.if_icmp .ne 7, 3) := by decide +kernel
theorem own_d1_99 : decode method_2_code 99 = .ok (.getstatic 40, 3) := by decide +kernel
theorem own_d1_102 : decode method_2_code 102 = .ok (.areturn, 1) := by decide +kernel
theorem own_d1_103 : decode method_2_code 103 = .ok (.iload_n 0, 1) := by decide +kernel
theorem own_d1_104 : decode method_2_code 104 = .ok (.bipush 11, 2) := by decide +kernel
theorem own_d1_106 : decode method_2_code 106 = .ok (.if_icmp .ne 7, 3) := by decide +kernel
theorem own_d1_109 : decode method_2_code 109 = .ok (.getstatic 43, 3) := by decide +kernel
theorem own_d1_112 : decode method_2_code 112 = .ok (.areturn, 1) := by decide +kernel
theorem own_d1_113 : decode method_2_code 113 = .ok (.iload_n 0, 1) := by decide +kernel
theorem own_d1_114 : decode method_2_code 114 = .ok (.bipush 12, 2) := by decide +kernel
theorem own_d1_116 : decode method_2_code 116 = .ok (.if_icmp .ne 7, 3) := by decide +kernel
theorem own_d1_119 : decode method_2_code 119 = .ok (.getstatic 46, 3) := by decide +kernel
theorem own_d1_122 : decode method_2_code 122 = .ok (.areturn, 1) := by decide +kernel
theorem own_d1_123 : decode method_2_code 123 = .ok (.getstatic 49, 3) := by decide +kernel
theorem own_d1_126 : decode method_2_code 126 = .ok (.areturn, 1) := by decide +kernel
theorem own_efpk (m : MethodId) (x0 : Int32) : entryFrame m #[(.int x0)] 1 = mkF m 0 #[.val (.int x0)] [] := by first | (simp [entryFrame, mkF, argsToLocals, Value.category]; done) | rfl
def own_Qpk (Z : State) (p1 : Int32) (s0 : Addr) (s1 : Addr) (s2 : Addr) (s3 : Addr) (s4 : Addr) (s5 : Addr) (s6 : Addr) (s7 : Addr) (s8 : Addr) (s9 : Addr) (s10 : Addr) (s11 : Addr) (s12 : Addr) (s13 : Addr) (h0 : Heap) (n0 : Nat) (v : Option Value) (h : Heap) (L : List Loc) : Prop := ∃ a, v = some (.ref a) ∧ Fr n0 L ∧ h = h0 ∧ Exa Z h0 a "com/example/even_keel/evenkeel/protocol/ApiKey" ∧ Fld Z h0 a "com/example/even_keel/evenkeel/protocol/ApiKey" "firstFlexibleVersion" "S" (.int (own_vfi p1))
set_option maxRecDepth 65536 in
set_option maxHeartbeats 40000000 in
theorem own_rmpk (l : Launch) (Z : State) (a0 : Array Value) (hw : ∀ d ∈ tables_1, d.before a0 Z = true) (ws : List Jvm.Cond) (p1 : Int32) (s0 : Addr) (s1 : Addr) (s2 : Addr) (s3 : Addr) (s4 : Addr) (s5 : Addr) (s6 : Addr) (s7 : Addr) (s8 : Addr) (s9 : Addr) (s10 : Addr) (s11 : Addr) (s12 : Addr) (s13 : Addr) (h0 : Heap) (n0 : Nat) (Z0 : n0 ≤ h0.size) (S0 : Sta Z h0 "com/example/even_keel/evenkeel/protocol/ApiKey" "FETCH" "Lcom/example/even_keel/evenkeel/protocol/ApiKey;" (.ref s0)) (E0 : Exa Z h0 s0 "com/example/even_keel/evenkeel/protocol/ApiKey") (F0 : Fld Z h0 s0 "com/example/even_keel/evenkeel/protocol/ApiKey" "firstFlexibleVersion" "S" (.int (12 : Int32))) (S1 : Sta Z h0 "com/example/even_keel/evenkeel/protocol/ApiKey" "LIST_OFFSETS" "Lcom/example/even_keel/evenkeel/protocol/ApiKey;" (.ref s1)) (E1 : Exa Z h0 s1 "com/example/even_keel/evenkeel/protocol/ApiKey") (F1 : Fld Z h0 s1 "com/example/even_keel/evenkeel/protocol/ApiKey" "firstFlexibleVersion" "S" (.int (6 : Int32))) (S2 : Sta Z h0 "com/example/even_keel/evenkeel/protocol/ApiKey" "METADATA" "Lcom/example/even_keel/evenkeel/protocol/ApiKey;" (.ref s2)) (E2 : Exa Z h0 s2 "com/example/even_keel/evenkeel/protocol/ApiKey") (F2 : Fld Z h0 s2 "com/example/even_keel/evenkeel/protocol/ApiKey" "firstFlexibleVersion" "S" (.int (9 : Int32))) (S3 : Sta Z h0 "com/example/even_keel/evenkeel/protocol/ApiKey" "OFFSET_COMMIT" "Lcom/example/even_keel/evenkeel/protocol/ApiKey;" (.ref s3)) (E3 : Exa Z h0 s3 "com/example/even_keel/evenkeel/protocol/ApiKey") (F3 : Fld Z h0 s3 "com/example/even_keel/evenkeel/protocol/ApiKey" "firstFlexibleVersion" "S" (.int (8 : Int32))) (S4 : Sta Z h0 "com/example/even_keel/evenkeel/protocol/ApiKey" "OFFSET_FETCH" "Lcom/example/even_keel/evenkeel/protocol/ApiKey;" (.ref s4)) (E4 : Exa Z h0 s4 "com/example/even_keel/evenkeel/protocol/ApiKey") (F4 : Fld Z h0 s4 "com/example/even_keel/evenkeel/protocol/ApiKey" "firstFlexibleVersion" "S" (.int (6 : Int32))) (S5 : Sta Z h0 "com/example/even_keel/evenkeel/protocol/ApiKey" "FIND_COORDINATOR" "Lcom/example/even_keel/evenkeel/protocol/ApiKey;" (.ref s5)) (E5 : Exa Z h0 s5 "com/example/even_keel/evenkeel/protocol/ApiKey") (F5 : Fld Z h0 s5 "com/example/even_keel/evenkeel/protocol/ApiKey" "firstFlexibleVersion" "S" (.int (3 : Int32))) (S6 : Sta Z h0 "com/example/even_keel/evenkeel/protocol/ApiKey" "JOIN_GROUP" "Lcom/example/even_keel/evenkeel/protocol/ApiKey;" (.ref s6)) (E6 : Exa Z h0 s6 "com/example/even_keel/evenkeel/protocol/ApiKey") (F6 : Fld Z h0 s6 "com/example/even_keel/evenkeel/protocol/ApiKey" "firstFlexibleVersion" "S" (.int (6 : Int32))) (S7 : Sta Z h0 "com/example/even_keel/evenkeel/protocol/ApiKey" "HEARTBEAT" "Lcom/example/even_keel/evenkeel/protocol/ApiKey;" (.ref s7)) (E7 : Exa Z h0 s7 "com/example/even_keel/evenkeel/protocol/ApiKey") (F7 : Fld Z h0 s7 "com/example/even_keel/evenkeel/protocol/ApiKey" "firstFlexibleVersion" "S" (.int (4 : Int32))) (S8 : Sta Z h0 "com/example/even_keel/evenkeel/protocol/ApiKey" "LEAVE_GROUP" "Lcom/example/even_keel/evenkeel/protocol/ApiKey;" (.ref s8)) (E8 : Exa Z h0 s8 "com/example/even_keel/evenkeel/protocol/ApiKey") (F8 : Fld Z h0 s8 "com/example/even_keel/evenkeel/protocol/ApiKey" "firstFlexibleVersion" "S" (.int (4 : Int32))) (S9 : Sta Z h0 "com/example/even_keel/evenkeel/protocol/ApiKey" "SYNC_GROUP" "Lcom/example/even_keel/evenkeel/protocol/ApiKey;" (.ref s9)) (E9 : Exa Z h0 s9 "com/example/even_keel/evenkeel/protocol/ApiKey") (F9 : Fld Z h0 s9 "com/example/even_keel/evenkeel/protocol/ApiKey" "firstFlexibleVersion" "S" (.int (4 : Int32))) (S10 : Sta Z h0 "com/example/even_keel/evenkeel/protocol/ApiKey" "DESCRIBE_GROUPS" "Lcom/example/even_keel/evenkeel/protocol/ApiKey;" (.ref s10)) (E10 : Exa Z h0 s10 "com/example/even_keel/evenkeel/protocol/ApiKey") (F10 : Fld Z h0 s10 "com/example/even_keel/evenkeel/protocol/ApiKey" "firstFlexibleVersion" "S" (.int (5 : Int32))) (S11 : Sta Z h0 "com/example/even_keel/evenkeel/protocol/ApiKey" "LIST_GROUPS" "Lcom/example/even_keel/evenkeel/protocol/ApiKey;" (.ref s11)) (E11 : Exa Z h0 s11 "com/example/even_keel/evenkeel/protocol/ApiKey") (F11 : Fld Z h0 s11 "com/example/even_keel/evenkeel/protocol/ApiKey" "firstFlexibleVersion" "S" (.int (3 : Int32))) (S12 : Sta Z h0 "com/example/even_keel/evenkeel/protocol/ApiKey" "API_VERSIONS" "Lcom/example/even_keel/evenkeel/protocol/ApiKey;" (.ref s12)) (E12 : Exa Z h0 s12 "com/example/even_keel/evenkeel/protocol/ApiKey") (F12 : Fld Z h0 s12 "com/example/even_keel/evenkeel/protocol/ApiKey" "firstFlexibleVersion" "S" (.int (3 : Int32))) (S13 : Sta Z h0 "com/example/even_keel/evenkeel/protocol/ApiKey" "DELETE_GROUPS" "Lcom/example/even_keel/evenkeel/protocol/ApiKey;" (.ref s13)) (E13 : Exa Z h0 s13 "com/example/even_keel/evenkeel/protocol/ApiKey") (F13 : Fld Z h0 s13 "com/example/even_keel/evenkeel/protocol/ApiKey" "firstFlexibleVersion" "S" (.int (2 : Int32))) :
    MetFree l (⟨"com/example/even_keel/evenkeel/protocol/ApiKeyIsFlexiblePinLaw", "pick", "(I)Lcom/example/even_keel/evenkeel/protocol/ApiKey;"⟩ : MethodName) (head1 (Jvm.Cond.code (⟨"com/example/even_keel/evenkeel/protocol/ApiKeyIsFlexiblePinLaw", "pick", "(I)Lcom/example/even_keel/evenkeel/protocol/ApiKey;"⟩ : MethodName) method_2_code 1 (some (.object "com/example/even_keel/evenkeel/protocol/ApiKey")) :: ws) ({ frames := 0, cells := 0, slots := 0, locals := 0 } : Room)) (fun aa U => aa = #[(.int p1)] ∧ Z.Warmed39 U.vm ∧ U.heap = h0) (fun _ _ _ _ _ => True) (fun _ U o U' => ∃ v L, o = .returned v ∧ own_Qpk Z p1 s0 s1 s2 s3 s4 s5 s6 s7 s8 s9 s10 s11 s12 s13 h0 n0 v U'.heap L ∧ FrameEnd U o U' L ({ frames := 0, cells := 0, slots := 0, locals := 0 } : Room).cells ({ frames := 0, cells := 0, slots := 0, locals := 0 } : Room).slots) := by
  refine MetFree.of_bodySF (plainFor_of_name own_pn0) hisR ?_
  intro p e s m args below meth c s₁ Bd hml0 hP hK
  obtain ⟨rfl, hZ, hh⟩ := hP
  have hx := Bd.exec
  have hby := Bd.bytes
  have hml : c.maxLocals = 1 := hml0
  have hown : s.vm.findClass "com/example/even_keel/evenkeel/protocol/ApiKeyIsFlexiblePinLaw" = some m.cls := findClass_of_methodNamed Bd.named
  have hnm := (name_of_methodNamed Bd.named Bd.method).1
  have X0 : Stand p l e ({ frames := 0, cells := 0, slots := 0, locals := 0 } : Room) s m #[(.int p1)] below meth c s₁ [] 0 0 := Stand.of_body Bd
  have e0 : s₁.heap = h0 := by rw [← hh, Bd.state]; rfl
  have N0 := Fr.nil n0
  have pre0 : ∀ t, Steps p.tables e below (s₁.setTop (mkF m 0 #[.val (.int p1)] [])) t → Steps p.tables e below (s₁.setTop (entryFrame m #[(.int p1)] 1)) t := fun t k => castTop (own_efpk m p1) k
  have k1 : ∀ t, Steps p.tables e below (s₁.setTop (mkF m 1 #[.val (.int p1)] [(.int p1)])) t → Steps p.tables e below (s₁.setTop (entryFrame m #[(.int p1)] 1)) t := by
    intro t k
    refine pre0 t ?_
    show Steps p.tables e below (s₁.setTop (mkF m 0 #[.val (.int p1)] [])) _
    refine XS.iloadN X0.here hx rfl (hb hby own_d1_0) rfl ?_
    exact k
  by_cases hc1_2 : p1 = (0 : Int32)
  · have k3 : ∀ t, Steps p.tables e below (s₁.setTop (mkF m 4 #[.val (.int p1)] [])) t → Steps p.tables e below (s₁.setTop (entryFrame m #[(.int p1)] 1)) t := by
      intro t k
      refine k1 t ?_
      show Steps p.tables e below (s₁.setTop (mkF m 1 #[.val (.int p1)] [(.int p1)])) _
      refine XS.ifNo X0.here hx rfl (hb hby own_d1_1) rfl ((if0 _ _).trans (teq hc1_2).2) ?_
      exact k
    obtain ⟨T4, X4, e4, st4⟩ := getS2 X0 hx hZ hown (host := "") (Or.inl (hw _ (List.mem_of_getElem? (i := 5) rfl))) Via.refl e0 S0 (g := (mkF m 4 #[.val (.int p1)] [])) rfl (hb hby own_d1_4)
    have k5 : ∀ t, Steps p.tables e below (T4.setTop (mkF m 7 #[.val (.int p1)] [(.ref s0)])) t → Steps p.tables e below (s₁.setTop (entryFrame m #[(.int p1)] 1)) t := fun t k => k3 t (st4 t k)
    obtain ⟨fs, hr, hrun, hended, hW, hsame⟩ := X4.leave (v := (some (.ref s0))) (fun h => by rw [Bd.returns] at h; cases h)
    refine ⟨_, _, k5 _ ?_, hrun, hended, _, _, rfl, ?_, ⟨_, rfl⟩, hW, hsame.mono (by decide) (by decide)⟩
    · exact retOut X4 hx Bd.returns rfl (Or.inr (Or.inr (Or.inr (Or.inr ⟨rfl, rfl, rfl⟩)))) (hb hby own_d1_7) hr
    · have hv : own_vfi p1 = (12 : Int32) := (if_pos hc1_2)
      exact ⟨_, rfl, N0, e4, E0, by rw [hv]; exact F0⟩
  · have k6 : ∀ t, Steps p.tables e below (s₁.setTop (mkF m 10 #[.val (.int p1)] [(.int (1 : Int32)), (.int p1)])) t → Steps p.tables e below (s₁.setTop (entryFrame m #[(.int p1)] 1)) t := by
      intro t k
      refine k1 t ?_
      show Steps p.tables e below (s₁.setTop (mkF m 1 #[.val (.int p1)] [(.int p1)])) _
      refine XS.ifYes X0.here hx rfl (pc0 := 1) (pc' := 8) rfl (hb hby own_d1_1) rfl ((if0 _ _).trans (feq hc1_2).2) (by decide) (by decide) ?_
      show Steps p.tables e below (s₁.setTop (mkF m 8 #[.val (.int p1)] [])) _
      refine XS.iloadN X0.here hx rfl (hb hby own_d1_8) rfl ?_
      show Steps p.tables e below (s₁.setTop (mkF m 9 #[.val (.int p1)] [(.int p1)])) _
      refine XS.iconst X0.here hx rfl (hb hby own_d1_9) ?_
      exact k
    by_cases hc10_7 : p1 = (1 : Int32)
    · have k8 : ∀ t, Steps p.tables e below (s₁.setTop (mkF m 13 #[.val (.int p1)] [])) t → Steps p.tables e below (s₁.setTop (entryFrame m #[(.int p1)] 1)) t := by
        intro t k
        refine k6 t ?_
        show Steps p.tables e below (s₁.setTop (mkF m 10 #[.val (.int p1)] [(.int (1 : Int32)), (.int p1)])) _
        refine XS.icmpNo X0.here hx rfl (hb hby own_d1_10) rfl (teq hc10_7).2 ?_
        exact k
      obtain ⟨T9, X9, e9, st9⟩ := getS2 X0 hx hZ hown (host := "") (Or.inl (hw _ (List.mem_of_getElem? (i := 36) rfl))) Via.refl e0 S1 (g := (mkF m 13 #[.val (.int p1)] [])) rfl (hb hby own_d1_13)
      have k10 : ∀ t, Steps p.tables e below (T9.setTop (mkF m 16 #[.val (.int p1)] [(.ref s1)])) t → Steps p.tables e below (s₁.setTop (entryFrame m #[(.int p1)] 1)) t := fun t k => k8 t (st9 t k)
      obtain ⟨fs, hr, hrun, hended, hW, hsame⟩ := X9.leave (v := (some (.ref s1))) (fun h => by rw [Bd.returns] at h; cases h)
      refine ⟨_, _, k10 _ ?_, hrun, hended, _, _, rfl, ?_, ⟨_, rfl⟩, hW, hsame.mono (by decide) (by decide)⟩
      · exact retOut X9 hx Bd.returns rfl (Or.inr (Or.inr (Or.inr (Or.inr ⟨rfl, rfl, rfl⟩)))) (hb hby own_d1_16) hr
      · have hv : own_vfi p1 = (6 : Int32) := ((if_neg hc1_2).trans (if_pos hc10_7))
        exact ⟨_, rfl, N0, e9, E1, by rw [hv]; exact F1⟩
    · have k11 : ∀ t, Steps p.tables e below (s₁.setTop (mkF m 19 #[.val (.int p1)] [(.int (2 : Int32)), (.int p1)])) t → Steps p.tables e below (s₁.setTop (entryFrame m #[(.int p1)] 1)) t := by
        intro t k
        refine k6 t ?_
        show Steps p.tables e below (s₁.setTop (mkF m 10 #[.val (.int p1)] [(.int (1 : Int32)), (.int p1)])) _
        refine XS.icmpYes X0.here hx rfl (pc0 := 10) (pc' := 17) rfl (hb hby own_d1_10) rfl (feq hc10_7).2 (by decide) (by decide) ?_
        show Steps p.tables e below (s₁.setTop (mkF m 17 #[.val (.int p1)] [])) _
        refine XS.iloadN X0.here hx rfl (hb hby own_d1_17) rfl ?_
        show Steps p.tables e below (s₁.setTop (mkF m 18 #[.val (.int p1)] [(.int p1)])) _
        refine XS.iconst X0.here hx rfl (hb hby own_d1_18) ?_
        exact k
      by_cases hc19_12 : p1 = (2 : Int32)
      · have k13 : ∀ t, Steps p.tables e below (s₁.setTop (mkF m 22 #[.val (.int p1)] [])) t → Steps p.tables e below (s₁.setTop (entryFrame m #[(.int p1)] 1)) t := by
          intro t k
          refine k11 t ?_
          show Steps p.tables e below (s₁.setTop (mkF m 19 #[.val (.int p1)] [(.int (2 : Int32)), (.int p1)])) _
          refine XS.icmpNo X0.here hx rfl (hb hby own_d1_19) rfl (teq hc19_12).2 ?_
          exact k
        obtain ⟨T14, X14, e14, st14⟩ := getS2 X0 hx hZ hown (host := "") (Or.inl (hw _ (List.mem_of_getElem? (i := 38) rfl))) Via.refl e0 S2 (g := (mkF m 22 #[.val (.int p1)] [])) rfl (hb hby own_d1_22)
        have k15 : ∀ t, Steps p.tables e below (T14.setTop (mkF m 25 #[.val (.int p1)] [(.ref s2)])) t → Steps p.tables e below (s₁.setTop (entryFrame m #[(.int p1)] 1)) t := fun t k => k13 t (st14 t k)
        obtain ⟨fs, hr, hrun, hended, hW, hsame⟩ := X14.leave (v := (some (.ref s2))) (fun h => by rw [Bd.returns] at h; cases h)
        refine ⟨_, _, k15 _ ?_, hrun, hended, _, _, rfl, ?_, ⟨_, rfl⟩, hW, hsame.mono (by decide) (by decide)⟩
        · exact retOut X14 hx Bd.returns rfl (Or.inr (Or.inr (Or.inr (Or.inr ⟨rfl, rfl, rfl⟩)))) (hb hby own_d1_25) hr
        · have hv : own_vfi p1 = (9 : Int32) := ((if_neg hc1_2).trans ((if_neg hc10_7).trans (if_pos hc19_12)))
          exact ⟨_, rfl, N0, e14, E2, by rw [hv]; exact F2⟩
      · have k16 : ∀ t, Steps p.tables e below (s₁.setTop (mkF m 28 #[.val (.int p1)] [(.int (3 : Int32)), (.int p1)])) t → Steps p.tables e below (s₁.setTop (entryFrame m #[(.int p1)] 1)) t := by
          intro t k
          refine k11 t ?_
          show Steps p.tables e below (s₁.setTop (mkF m 19 #[.val (.int p1)] [(.int (2 : Int32)), (.int p1)])) _
          refine XS.icmpYes X0.here hx rfl (pc0 := 19) (pc' := 26) rfl (hb hby own_d1_19) rfl (feq hc19_12).2 (by decide) (by decide) ?_
          show Steps p.tables e below (s₁.setTop (mkF m 26 #[.val (.int p1)] [])) _
          refine XS.iloadN X0.here hx rfl (hb hby own_d1_26) rfl ?_
          show Steps p.tables e below (s₁.setTop (mkF m 27 #[.val (.int p1)] [(.int p1)])) _
          refine XS.iconst X0.here hx rfl (hb hby own_d1_27) ?_
          exact k
        by_cases hc28_17 : p1 = (3 : Int32)
        · have k18 : ∀ t, Steps p.tables e below (s₁.setTop (mkF m 31 #[.val (.int p1)] [])) t → Steps p.tables e below (s₁.setTop (entryFrame m #[(.int p1)] 1)) t := by
            intro t k
            refine k16 t ?_
            show Steps p.tables e below (s₁.setTop (mkF m 28 #[.val (.int p1)] [(.int (3 : Int32)), (.int p1)])) _
            refine XS.icmpNo X0.here hx rfl (hb hby own_d1_28) rfl (teq hc28_17).2 ?_
            exact k
          obtain ⟨T19, X19, e19, st19⟩ := getS2 X0 hx hZ hown (host := "") (Or.inl (hw _ (List.mem_of_getElem? (i := 32) rfl))) Via.refl e0 S3 (g := (mkF m 31 #[.val (.int p1)] [])) rfl (hb hby own_d1_31)
          have k20 : ∀ t, Steps p.tables e below (T19.setTop (mkF m 34 #[.val (.int p1)] [(.ref s3)])) t → Steps p.tables e below (s₁.setTop (entryFrame m #[(.int p1)] 1)) t := fun t k => k18 t (st19 t k)
          obtain ⟨fs, hr, hrun, hended, hW, hsame⟩ := X19.leave (v := (some (.ref s3))) (fun h => by rw [Bd.returns] at h; cases h)
          refine ⟨_, _, k20 _ ?_, hrun, hended, _, _, rfl, ?_, ⟨_, rfl⟩, hW, hsame.mono (by decide) (by decide)⟩
          · exact retOut X19 hx Bd.returns rfl (Or.inr (Or.inr (Or.inr (Or.inr ⟨rfl, rfl, rfl⟩)))) (hb hby own_d1_34) hr
          · have hv : own_vfi p1 = (8 : Int32) := ((if_neg hc1_2).trans ((if_neg hc10_7).trans ((if_neg hc19_12).trans (if_pos hc28_17))))
            exact ⟨_, rfl, N0, e19, E3, by rw [hv]; exact F3⟩
        · have k21 : ∀ t, Steps p.tables e below (s₁.setTop (mkF m 37 #[.val (.int p1)] [(.int (4 : Int32)), (.int p1)])) t → Steps p.tables e below (s₁.setTop (entryFrame m #[(.int p1)] 1)) t := by
            intro t k
            refine k16 t ?_
            show Steps p.tables e below (s₁.setTop (mkF m 28 #[.val (.int p1)] [(.int (3 : Int32)), (.int p1)])) _
            refine XS.icmpYes X0.here hx rfl (pc0 := 28) (pc' := 35) rfl (hb hby own_d1_28) rfl (feq hc28_17).2 (by decide) (by decide) ?_
            show Steps p.tables e below (s₁.setTop (mkF m 35 #[.val (.int p1)] [])) _
            refine XS.iloadN X0.here hx rfl (hb hby own_d1_35) rfl ?_
            show Steps p.tables e below (s₁.setTop (mkF m 36 #[.val (.int p1)] [(.int p1)])) _
            refine XS.iconst X0.here hx rfl (hb hby own_d1_36) ?_
            exact k
          by_cases hc37_22 : p1 = (4 : Int32)
          · have k23 : ∀ t, Steps p.tables e below (s₁.setTop (mkF m 40 #[.val (.int p1)] [])) t → Steps p.tables e below (s₁.setTop (entryFrame m #[(.int p1)] 1)) t := by
              intro t k
              refine k21 t ?_
              show Steps p.tables e below (s₁.setTop (mkF m 37 #[.val (.int p1)] [(.int (4 : Int32)), (.int p1)])) _
              refine XS.icmpNo X0.here hx rfl (hb hby own_d1_37) rfl (teq hc37_22).2 ?_
              exact k
            obtain ⟨T24, X24, e24, st24⟩ := getS2 X0 hx hZ hown (host := "") (Or.inl (hw _ (List.mem_of_getElem? (i := 22) rfl))) Via.refl e0 S4 (g := (mkF m 40 #[.val (.int p1)] [])) rfl (hb hby own_d1_40)
            have k25 : ∀ t, Steps p.tables e below (T24.setTop (mkF m 43 #[.val (.int p1)] [(.ref s4)])) t → Steps p.tables e below (s₁.setTop (entryFrame m #[(.int p1)] 1)) t := fun t k => k23 t (st24 t k)
            obtain ⟨fs, hr, hrun, hended, hW, hsame⟩ := X24.leave (v := (some (.ref s4))) (fun h => by rw [Bd.returns] at h; cases h)
            refine ⟨_, _, k25 _ ?_, hrun, hended, _, _, rfl, ?_, ⟨_, rfl⟩, hW, hsame.mono (by decide) (by decide)⟩
            · exact retOut X24 hx Bd.returns rfl (Or.inr (Or.inr (Or.inr (Or.inr ⟨rfl, rfl, rfl⟩)))) (hb hby own_d1_43) hr
            · have hv : own_vfi p1 = (6 : Int32) := ((if_neg hc1_2).trans ((if_neg hc10_7).trans ((if_neg hc19_12).trans ((if_neg hc28_17).trans (if_pos hc37_22)))))
              exact ⟨_, rfl, N0, e24, E4, by rw [hv]; exact F4⟩
          · have k26 : ∀ t, Steps p.tables e below (s₁.setTop (mkF m 46 #[.val (.int p1)] [(.int (5 : Int32)), (.int p1)])) t → Steps p.tables e below (s₁.setTop (entryFrame m #[(.int p1)] 1)) t := by
              intro t k
              refine k21 t ?_
              show Steps p.tables e below (s₁.setTop (mkF m 37 #[.val (.int p1)] [(.int (4 : Int32)), (.int p1)])) _
              refine XS.icmpYes X0.here hx rfl (pc0 := 37) (pc' := 44) rfl (hb hby own_d1_37) rfl (feq hc37_22).2 (by decide) (by decide) ?_
              show Steps p.tables e below (s₁.setTop (mkF m 44 #[.val (.int p1)] [])) _
              refine XS.iloadN X0.here hx rfl (hb hby own_d1_44) rfl ?_
              show Steps p.tables e below (s₁.setTop (mkF m 45 #[.val (.int p1)] [(.int p1)])) _
              refine XS.iconst X0.here hx rfl (hb hby own_d1_45) ?_
              exact k
            by_cases hc46_27 : p1 = (5 : Int32)
            · have k28 : ∀ t, Steps p.tables e below (s₁.setTop (mkF m 49 #[.val (.int p1)] [])) t → Steps p.tables e below (s₁.setTop (entryFrame m #[(.int p1)] 1)) t := by
                intro t k
                refine k26 t ?_
                show Steps p.tables e below (s₁.setTop (mkF m 46 #[.val (.int p1)] [(.int (5 : Int32)), (.int p1)])) _
                refine XS.icmpNo X0.here hx rfl (hb hby own_d1_46) rfl (teq hc46_27).2 ?_
                exact k
              obtain ⟨T29, X29, e29, st29⟩ := getS2 X0 hx hZ hown (host := "") (Or.inl (hw _ (List.mem_of_getElem? (i := 34) rfl))) Via.refl e0 S5 (g := (mkF m 49 #[.val (.int p1)] [])) rfl (hb hby own_d1_49)
              have k30 : ∀ t, Steps p.tables e below (T29.setTop (mkF m 52 #[.val (.int p1)] [(.ref s5)])) t → Steps p.tables e below (s₁.setTop (entryFrame m #[(.int p1)] 1)) t := fun t k => k28 t (st29 t k)
              obtain ⟨fs, hr, hrun, hended, hW, hsame⟩ := X29.leave (v := (some (.ref s5))) (fun h => by rw [Bd.returns] at h; cases h)
              refine ⟨_, _, k30 _ ?_, hrun, hended, _, _, rfl, ?_, ⟨_, rfl⟩, hW, hsame.mono (by decide) (by decide)⟩
              · exact retOut X29 hx Bd.returns rfl (Or.inr (Or.inr (Or.inr (Or.inr ⟨rfl, rfl, rfl⟩)))) (hb hby own_d1_52) hr
              · have hv : own_vfi p1 = (3 : Int32) := ((if_neg hc1_2).trans ((if_neg hc10_7).trans ((if_neg hc19_12).trans ((if_neg hc28_17).trans ((if_neg hc37_22).trans (if_pos hc46_27))))))
                exact ⟨_, rfl, N0, e29, E5, by rw [hv]; exact F5⟩
            · have k31 : ∀ t, Steps p.tables e below (s₁.setTop (mkF m 56 #[.val (.int p1)] [(.int (6 : Int32)), (.int p1)])) t → Steps p.tables e below (s₁.setTop (entryFrame m #[(.int p1)] 1)) t := by
                intro t k
                refine k26 t ?_
                show Steps p.tables e below (s₁.setTop (mkF m 46 #[.val (.int p1)] [(.int (5 : Int32)), (.int p1)])) _
                refine XS.icmpYes X0.here hx rfl (pc0 := 46) (pc' := 53) rfl (hb hby own_d1_46) rfl (feq hc46_27).2 (by decide) (by decide) ?_
                show Steps p.tables e below (s₁.setTop (mkF m 53 #[.val (.int p1)] [])) _
                refine XS.iloadN X0.here hx rfl (hb hby own_d1_53) rfl ?_
                show Steps p.tables e below (s₁.setTop (mkF m 54 #[.val (.int p1)] [(.int p1)])) _
                refine XS.bipush X0.here hx rfl (hb hby own_d1_54) ?_
                exact k
              by_cases hc56_32 : p1 = (6 : Int32)
              · have k33 : ∀ t, Steps p.tables e below (s₁.setTop (mkF m 59 #[.val (.int p1)] [])) t → Steps p.tables e below (s₁.setTop (entryFrame m #[(.int p1)] 1)) t := by
                  intro t k
                  refine k31 t ?_
                  show Steps p.tables e below (s₁.setTop (mkF m 56 #[.val (.int p1)] [(.int (6 : Int32)), (.int p1)])) _
                  refine XS.icmpNo X0.here hx rfl (hb hby own_d1_56) rfl (teq hc56_32).2 ?_
                  exact k
                obtain ⟨T34, X34, e34, st34⟩ := getS2 X0 hx hZ hown (host := "") (Or.inl (hw _ (List.mem_of_getElem? (i := 26) rfl))) Via.refl e0 S6 (g := (mkF m 59 #[.val (.int p1)] [])) rfl (hb hby own_d1_59)
                have k35 : ∀ t, Steps p.tables e below (T34.setTop (mkF m 62 #[.val (.int p1)] [(.ref s6)])) t → Steps p.tables e below (s₁.setTop (entryFrame m #[(.int p1)] 1)) t := fun t k => k33 t (st34 t k)
                obtain ⟨fs, hr, hrun, hended, hW, hsame⟩ := X34.leave (v := (some (.ref s6))) (fun h => by rw [Bd.returns] at h; cases h)
                refine ⟨_, _, k35 _ ?_, hrun, hended, _, _, rfl, ?_, ⟨_, rfl⟩, hW, hsame.mono (by decide) (by decide)⟩
                · exact retOut X34 hx Bd.returns rfl (Or.inr (Or.inr (Or.inr (Or.inr ⟨rfl, rfl, rfl⟩)))) (hb hby own_d1_62) hr
                · have hv : own_vfi p1 = (6 : Int32) := ((if_neg hc1_2).trans ((if_neg hc10_7).trans ((if_neg hc19_12).trans ((if_neg hc28_17).trans ((if_neg hc37_22).trans ((if_neg hc46_27).trans (if_pos hc56_32)))))))
                  exact ⟨_, rfl, N0, e34, E6, by rw [hv]; exact F6⟩
              · have k36 : ∀ t, Steps p.tables e below (s₁.setTop (mkF m 66 #[.val (.int p1)] [(.int (7 : Int32)), (.int p1)])) t → Steps p.tables e below (s₁.setTop (entryFrame m #[(.int p1)] 1)) t := by
                  intro t k
                  refine k31 t ?_
                  show Steps p.tables e below (s₁.setTop (mkF m 56 #[.val (.int p1)] [(.int (6 : Int32)), (.int p1)])) _
                  refine XS.icmpYes X0.here hx rfl (pc0 := 56) (pc' := 63) rfl (hb hby own_d1_56) rfl (feq hc56_32).2 (by decide) (by decide) ?_
                  show Steps p.tables e below (s₁.setTop (mkF m 63 #[.val (.int p1)] [])) _
                  refine XS.iloadN X0.here hx rfl (hb hby own_d1_63) rfl ?_
                  show Steps p.tables e below (s₁.setTop (mkF m 64 #[.val (.int p1)] [(.int p1)])) _
                  refine XS.bipush X0.here hx rfl (hb hby own_d1_64) ?_
                  exact k
                by_cases hc66_37 : p1 = (7 : Int32)
                · have k38 : ∀ t, Steps p.tables e below (s₁.setTop (mkF m 69 #[.val (.int p1)] [])) t → Steps p.tables e below (s₁.setTop (entryFrame m #[(.int p1)] 1)) t := by
                    intro t k
                    refine k36 t ?_
                    show Steps p.tables e below (s₁.setTop (mkF m 66 #[.val (.int p1)] [(.int (7 : Int32)), (.int p1)])) _
                    refine XS.icmpNo X0.here hx rfl (hb hby own_d1_66) rfl (teq hc66_37).2 ?_
                    exact k
                  obtain ⟨T39, X39, e39, st39⟩ := getS2 X0 hx hZ hown (host := "") (Or.inl (hw _ (List.mem_of_getElem? (i := 30) rfl))) Via.refl e0 S7 (g := (mkF m 69 #[.val (.int p1)] [])) rfl (hb hby own_d1_69)
                  have k40 : ∀ t, Steps p.tables e below (T39.setTop (mkF m 72 #[.val (.int p1)] [(.ref s7)])) t → Steps p.tables e below (s₁.setTop (entryFrame m #[(.int p1)] 1)) t := fun t k => k38 t (st39 t k)
                  obtain ⟨fs, hr, hrun, hended, hW, hsame⟩ := X39.leave (v := (some (.ref s7))) (fun h => by rw [Bd.returns] at h; cases h)
                  refine ⟨_, _, k40 _ ?_, hrun, hended, _, _, rfl, ?_, ⟨_, rfl⟩, hW, hsame.mono (by decide) (by decide)⟩
                  · exact retOut X39 hx Bd.returns rfl (Or.inr (Or.inr (Or.inr (Or.inr ⟨rfl, rfl, rfl⟩)))) (hb hby own_d1_72) hr
                  · have hv : own_vfi p1 = (4 : Int32) := ((if_neg hc1_2).trans ((if_neg hc10_7).trans ((if_neg hc19_12).trans ((if_neg hc28_17).trans ((if_neg hc37_22).trans ((if_neg hc46_27).trans ((if_neg hc56_32).trans (if_pos hc66_37))))))))
                    exact ⟨_, rfl, N0, e39, E7, by rw [hv]; exact F7⟩
                · have k41 : ∀ t, Steps p.tables e below (s₁.setTop (mkF m 76 #[.val (.int p1)] [(.int (8 : Int32)), (.int p1)])) t → Steps p.tables e below (s₁.setTop (entryFrame m #[(.int p1)] 1)) t := by
                    intro t k
                    refine k36 t ?_
                    show Steps p.tables e below (s₁.setTop (mkF m 66 #[.val (.int p1)] [(.int (7 : Int32)), (.int p1)])) _
                    refine XS.icmpYes X0.here hx rfl (pc0 := 66) (pc' := 73) rfl (hb hby own_d1_66) rfl (feq hc66_37).2 (by decide) (by decide) ?_
                    show Steps p.tables e below (s₁.setTop (mkF m 73 #[.val (.int p1)] [])) _
                    refine XS.iloadN X0.here hx rfl (hb hby own_d1_73) rfl ?_
                    show Steps p.tables e below (s₁.setTop (mkF m 74 #[.val (.int p1)] [(.int p1)])) _
                    refine XS.bipush X0.here hx rfl (hb hby own_d1_74) ?_
                    exact k
                  by_cases hc76_42 : p1 = (8 : Int32)
                  · have k43 : ∀ t, Steps p.tables e below (s₁.setTop (mkF m 79 #[.val (.int p1)] [])) t → Steps p.tables e below (s₁.setTop (entryFrame m #[(.int p1)] 1)) t := by
                      intro t k
                      refine k41 t ?_
                      show Steps p.tables e below (s₁.setTop (mkF m 76 #[.val (.int p1)] [(.int (8 : Int32)), (.int p1)])) _
                      refine XS.icmpNo X0.here hx rfl (hb hby own_d1_76) rfl (teq hc76_42).2 ?_
                      exact k
                    obtain ⟨T44, X44, e44, st44⟩ := getS2 X0 hx hZ hown (host := "") (Or.inl (hw _ (List.mem_of_getElem? (i := 20) rfl))) Via.refl e0 S8 (g := (mkF m 79 #[.val (.int p1)] [])) rfl (hb hby own_d1_79)
                    have k45 : ∀ t, Steps p.tables e below (T44.setTop (mkF m 82 #[.val (.int p1)] [(.ref s8)])) t → Steps p.tables e below (s₁.setTop (entryFrame m #[(.int p1)] 1)) t := fun t k => k43 t (st44 t k)
                    obtain ⟨fs, hr, hrun, hended, hW, hsame⟩ := X44.leave (v := (some (.ref s8))) (fun h => by rw [Bd.returns] at h; cases h)
                    refine ⟨_, _, k45 _ ?_, hrun, hended, _, _, rfl, ?_, ⟨_, rfl⟩, hW, hsame.mono (by decide) (by decide)⟩
                    · exact retOut X44 hx Bd.returns rfl (Or.inr (Or.inr (Or.inr (Or.inr ⟨rfl, rfl, rfl⟩)))) (hb hby own_d1_82) hr
                    · have hv : own_vfi p1 = (4 : Int32) := ((if_neg hc1_2).trans ((if_neg hc10_7).trans ((if_neg hc19_12).trans ((if_neg hc28_17).trans ((if_neg hc37_22).trans ((if_neg hc46_27).trans ((if_neg hc56_32).trans ((if_neg hc66_37).trans (if_pos hc76_42)))))))))
                      exact ⟨_, rfl, N0, e44, E8, by rw [hv]; exact F8⟩
                  · have k46 : ∀ t, Steps p.tables e below (s₁.setTop (mkF m 86 #[.val (.int p1)] [(.int (9 : Int32)), (.int p1)])) t → Steps p.tables e below (s₁.setTop (entryFrame m #[(.int p1)] 1)) t := by
                      intro t k
                      refine k41 t ?_
                      show Steps p.tables e below (s₁.setTop (mkF m 76 #[.val (.int p1)] [(.int (8 : Int32)), (.int p1)])) _
                      refine XS.icmpYes X0.here hx rfl (pc0 := 76) (pc' := 83) rfl (hb hby own_d1_76) rfl (feq hc76_42).2 (by decide) (by decide) ?_
                      show Steps p.tables e below (s₁.setTop (mkF m 83 #[.val (.int p1)] [])) _
                      refine XS.iloadN X0.here hx rfl (hb hby own_d1_83) rfl ?_
                      show Steps p.tables e below (s₁.setTop (mkF m 84 #[.val (.int p1)] [(.int p1)])) _
                      refine XS.bipush X0.here hx rfl (hb hby own_d1_84) ?_
                      exact k
                    by_cases hc86_47 : p1 = (9 : Int32)
                    · have k48 : ∀ t, Steps p.tables e below (s₁.setTop (mkF m 89 #[.val (.int p1)] [])) t → Steps p.tables e below (s₁.setTop (entryFrame m #[(.int p1)] 1)) t := by
                        intro t k
                        refine k46 t ?_
                        show Steps p.tables e below (s₁.setTop (mkF m 86 #[.val (.int p1)] [(.int (9 : Int32)), (.int p1)])) _
                        refine XS.icmpNo X0.here hx rfl (hb hby own_d1_86) rfl (teq hc86_47).2 ?_
                        exact k
                      obtain ⟨T49, X49, e49, st49⟩ := getS2 X0 hx hZ hown (host := "") (Or.inl (hw _ (List.mem_of_getElem? (i := 42) rfl))) Via.refl e0 S9 (g := (mkF m 89 #[.val (.int p1)] [])) rfl (hb hby own_d1_89)
                      have k50 : ∀ t, Steps p.tables e below (T49.setTop (mkF m 92 #[.val (.int p1)] [(.ref s9)])) t → Steps p.tables e below (s₁.setTop (entryFrame m #[(.int p1)] 1)) t := fun t k => k48 t (st49 t k)
                      obtain ⟨fs, hr, hrun, hended, hW, hsame⟩ := X49.leave (v := (some (.ref s9))) (fun h => by rw [Bd.returns] at h; cases h)
                      refine ⟨_, _, k50 _ ?_, hrun, hended, _, _, rfl, ?_, ⟨_, rfl⟩, hW, hsame.mono (by decide) (by decide)⟩
                      · exact retOut X49 hx Bd.returns rfl (Or.inr (Or.inr (Or.inr (Or.inr ⟨rfl, rfl, rfl⟩)))) (hb hby own_d1_92) hr
                      · have hv : own_vfi p1 = (4 : Int32) := ((if_neg hc1_2).trans ((if_neg hc10_7).trans ((if_neg hc19_12).trans ((if_neg hc28_17).trans ((if_neg hc37_22).trans ((if_neg hc46_27).trans ((if_neg hc56_32).trans ((if_neg hc66_37).trans ((if_neg hc76_42).trans (if_pos hc86_47))))))))))
                        exact ⟨_, rfl, N0, e49, E9, by rw [hv]; exact F9⟩
                    · have k51 : ∀ t, Steps p.tables e below (s₁.setTop (mkF m 96 #[.val (.int p1)] [(.int (10 : Int32)), (.int p1)])) t → Steps p.tables e below (s₁.setTop (entryFrame m #[(.int p1)] 1)) t := by
                        intro t k
                        refine k46 t ?_
                        show Steps p.tables e below (s₁.setTop (mkF m 86 #[.val (.int p1)] [(.int (9 : Int32)), (.int p1)])) _
                        refine XS.icmpYes X0.here hx rfl (pc0 := 86) (pc' := 93) rfl (hb hby own_d1_86) rfl (feq hc86_47).2 (by decide) (by decide) ?_
                        show Steps p.tables e below (s₁.setTop (mkF m 93 #[.val (.int p1)] [])) _
                        refine XS.iloadN X0.here hx rfl (hb hby own_d1_93) rfl ?_
                        show Steps p.tables e below (s₁.setTop (mkF m 94 #[.val (.int p1)] [(.int p1)])) _
                        refine XS.bipush X0.here hx rfl (hb hby own_d1_94) ?_
                        exact k
                      by_cases hc96_52 : p1 = (10 : Int32)
                      · have k53 : ∀ t, Steps p.tables e below (s₁.setTop (mkF m 99 #[.val (.int p1)] [])) t → Steps p.tables e below (s₁.setTop (entryFrame m #[(.int p1)] 1)) t := by
                          intro t k
                          refine k51 t ?_
                          show Steps p.tables e below (s₁.setTop (mkF m 96 #[.val (.int p1)] [(.int (10 : Int32)), (.int p1)])) _
                          refine XS.icmpNo X0.here hx rfl (hb hby own_d1_96) rfl (teq hc96_52).2 ?_
                          exact k
                        obtain ⟨T54, X54, e54, st54⟩ := getS2 X0 hx hZ hown (host := "") (Or.inl (hw _ (List.mem_of_getElem? (i := 18) rfl))) Via.refl e0 S10 (g := (mkF m 99 #[.val (.int p1)] [])) rfl (hb hby own_d1_99)
                        have k55 : ∀ t, Steps p.tables e below (T54.setTop (mkF m 102 #[.val (.int p1)] [(.ref s10)])) t → Steps p.tables e below (s₁.setTop (entryFrame m #[(.int p1)] 1)) t := fun t k => k53 t (st54 t k)
                        obtain ⟨fs, hr, hrun, hended, hW, hsame⟩ := X54.leave (v := (some (.ref s10))) (fun h => by rw [Bd.returns] at h; cases h)
                        refine ⟨_, _, k55 _ ?_, hrun, hended, _, _, rfl, ?_, ⟨_, rfl⟩, hW, hsame.mono (by decide) (by decide)⟩
                        · exact retOut X54 hx Bd.returns rfl (Or.inr (Or.inr (Or.inr (Or.inr ⟨rfl, rfl, rfl⟩)))) (hb hby own_d1_102) hr
                        · have hv : own_vfi p1 = (5 : Int32) := ((if_neg hc1_2).trans ((if_neg hc10_7).trans ((if_neg hc19_12).trans ((if_neg hc28_17).trans ((if_neg hc37_22).trans ((if_neg hc46_27).trans ((if_neg hc56_32).trans ((if_neg hc66_37).trans ((if_neg hc76_42).trans ((if_neg hc86_47).trans (if_pos hc96_52)))))))))))
                          exact ⟨_, rfl, N0, e54, E10, by rw [hv]; exact F10⟩
                      · have k56 : ∀ t, Steps p.tables e below (s₁.setTop (mkF m 106 #[.val (.int p1)] [(.int (11 : Int32)), (.int p1)])) t → Steps p.tables e below (s₁.setTop (entryFrame m #[(.int p1)] 1)) t := by
                          intro t k
                          refine k51 t ?_
                          show Steps p.tables e below (s₁.setTop (mkF m 96 #[.val (.int p1)] [(.int (10 : Int32)), (.int p1)])) _
                          refine XS.icmpYes X0.here hx rfl (pc0 := 96) (pc' := 103) rfl (hb hby own_d1_96) rfl (feq hc96_52).2 (by decide) (by decide) ?_
                          show Steps p.tables e below (s₁.setTop (mkF m 103 #[.val (.int p1)] [])) _
                          refine XS.iloadN X0.here hx rfl (hb hby own_d1_103) rfl ?_
                          show Steps p.tables e below (s₁.setTop (mkF m 104 #[.val (.int p1)] [(.int p1)])) _
                          refine XS.bipush X0.here hx rfl (hb hby own_d1_104) ?_
                          exact k
                        by_cases hc106_57 : p1 = (11 : Int32)
                        · have k58 : ∀ t, Steps p.tables e below (s₁.setTop (mkF m 109 #[.val (.int p1)] [])) t → Steps p.tables e below (s₁.setTop (entryFrame m #[(.int p1)] 1)) t := by
                            intro t k
                            refine k56 t ?_
                            show Steps p.tables e below (s₁.setTop (mkF m 106 #[.val (.int p1)] [(.int (11 : Int32)), (.int p1)])) _
                            refine XS.icmpNo X0.here hx rfl (hb hby own_d1_106) rfl (teq hc106_57).2 ?_
                            exact k
                          obtain ⟨T59, X59, e59, st59⟩ := getS2 X0 hx hZ hown (host := "") (Or.inl (hw _ (List.mem_of_getElem? (i := 24) rfl))) Via.refl e0 S11 (g := (mkF m 109 #[.val (.int p1)] [])) rfl (hb hby own_d1_109)
                          have k60 : ∀ t, Steps p.tables e below (T59.setTop (mkF m 112 #[.val (.int p1)] [(.ref s11)])) t → Steps p.tables e below (s₁.setTop (entryFrame m #[(.int p1)] 1)) t := fun t k => k58 t (st59 t k)
                          obtain ⟨fs, hr, hrun, hended, hW, hsame⟩ := X59.leave (v := (some (.ref s11))) (fun h => by rw [Bd.returns] at h; cases h)
                          refine ⟨_, _, k60 _ ?_, hrun, hended, _, _, rfl, ?_, ⟨_, rfl⟩, hW, hsame.mono (by decide) (by decide)⟩
                          · exact retOut X59 hx Bd.returns rfl (Or.inr (Or.inr (Or.inr (Or.inr ⟨rfl, rfl, rfl⟩)))) (hb hby own_d1_112) hr
                          · have hv : own_vfi p1 = (3 : Int32) := ((if_neg hc1_2).trans ((if_neg hc10_7).trans ((if_neg hc19_12).trans ((if_neg hc28_17).trans ((if_neg hc37_22).trans ((if_neg hc46_27).trans ((if_neg hc56_32).trans ((if_neg hc66_37).trans ((if_neg hc76_42).trans ((if_neg hc86_47).trans ((if_neg hc96_52).trans (if_pos hc106_57))))))))))))
                            exact ⟨_, rfl, N0, e59, E11, by rw [hv]; exact F11⟩
                        · have k61 : ∀ t, Steps p.tables e below (s₁.setTop (mkF m 116 #[.val (.int p1)] [(.int (12 : Int32)), (.int p1)])) t → Steps p.tables e below (s₁.setTop (entryFrame m #[(.int p1)] 1)) t := by
                            intro t k
                            refine k56 t ?_
                            show Steps p.tables e below (s₁.setTop (mkF m 106 #[.val (.int p1)] [(.int (11 : Int32)), (.int p1)])) _
                            refine XS.icmpYes X0.here hx rfl (pc0 := 106) (pc' := 113) rfl (hb hby own_d1_106) rfl (feq hc106_57).2 (by decide) (by decide) ?_
                            show Steps p.tables e below (s₁.setTop (mkF m 113 #[.val (.int p1)] [])) _
                            refine XS.iloadN X0.here hx rfl (hb hby own_d1_113) rfl ?_
                            show Steps p.tables e below (s₁.setTop (mkF m 114 #[.val (.int p1)] [(.int p1)])) _
                            refine XS.bipush X0.here hx rfl (hb hby own_d1_114) ?_
                            exact k
                          by_cases hc116_62 : p1 = (12 : Int32)
                          · have k63 : ∀ t, Steps p.tables e below (s₁.setTop (mkF m 119 #[.val (.int p1)] [])) t → Steps p.tables e below (s₁.setTop (entryFrame m #[(.int p1)] 1)) t := by
                              intro t k
                              refine k61 t ?_
                              show Steps p.tables e below (s₁.setTop (mkF m 116 #[.val (.int p1)] [(.int (12 : Int32)), (.int p1)])) _
                              refine XS.icmpNo X0.here hx rfl (hb hby own_d1_116) rfl (teq hc116_62).2 ?_
                              exact k
                            obtain ⟨T64, X64, e64, st64⟩ := getS2 X0 hx hZ hown (host := "") (Or.inl (hw _ (List.mem_of_getElem? (i := 28) rfl))) Via.refl e0 S12 (g := (mkF m 119 #[.val (.int p1)] [])) rfl (hb hby own_d1_119)
                            have k65 : ∀ t, Steps p.tables e below (T64.setTop (mkF m 122 #[.val (.int p1)] [(.ref s12)])) t → Steps p.tables e below (s₁.setTop (entryFrame m #[(.int p1)] 1)) t := fun t k => k63 t (st64 t k)
                            obtain ⟨fs, hr, hrun, hended, hW, hsame⟩ := X64.leave (v := (some (.ref s12))) (fun h => by rw [Bd.returns] at h; cases h)
                            refine ⟨_, _, k65 _ ?_, hrun, hended, _, _, rfl, ?_, ⟨_, rfl⟩, hW, hsame.mono (by decide) (by decide)⟩
                            · exact retOut X64 hx Bd.returns rfl (Or.inr (Or.inr (Or.inr (Or.inr ⟨rfl, rfl, rfl⟩)))) (hb hby own_d1_122) hr
                            · have hv : own_vfi p1 = (3 : Int32) := ((if_neg hc1_2).trans ((if_neg hc10_7).trans ((if_neg hc19_12).trans ((if_neg hc28_17).trans ((if_neg hc37_22).trans ((if_neg hc46_27).trans ((if_neg hc56_32).trans ((if_neg hc66_37).trans ((if_neg hc76_42).trans ((if_neg hc86_47).trans ((if_neg hc96_52).trans ((if_neg hc106_57).trans (if_pos hc116_62)))))))))))))
                              exact ⟨_, rfl, N0, e64, E12, by rw [hv]; exact F12⟩
                          · have k66 : ∀ t, Steps p.tables e below (s₁.setTop (mkF m 123 #[.val (.int p1)] [])) t → Steps p.tables e below (s₁.setTop (entryFrame m #[(.int p1)] 1)) t := by
                              intro t k
                              refine k61 t ?_
                              show Steps p.tables e below (s₁.setTop (mkF m 116 #[.val (.int p1)] [(.int (12 : Int32)), (.int p1)])) _
                              refine XS.icmpYes X0.here hx rfl (pc0 := 116) (pc' := 123) rfl (hb hby own_d1_116) rfl (feq hc116_62).2 (by decide) (by decide) ?_
                              exact k
                            obtain ⟨T67, X67, e67, st67⟩ := getS2 X0 hx hZ hown (host := "") (Or.inl (hw _ (List.mem_of_getElem? (i := 40) rfl))) Via.refl e0 S13 (g := (mkF m 123 #[.val (.int p1)] [])) rfl (hb hby own_d1_123)
                            have k68 : ∀ t, Steps p.tables e below (T67.setTop (mkF m 126 #[.val (.int p1)] [(.ref s13)])) t → Steps p.tables e below (s₁.setTop (entryFrame m #[(.int p1)] 1)) t := fun t k => k66 t (st67 t k)
                            obtain ⟨fs, hr, hrun, hended, hW, hsame⟩ := X67.leave (v := (some (.ref s13))) (fun h => by rw [Bd.returns] at h; cases h)
                            refine ⟨_, _, k68 _ ?_, hrun, hended, _, _, rfl, ?_, ⟨_, rfl⟩, hW, hsame.mono (by decide) (by decide)⟩
                            · exact retOut X67 hx Bd.returns rfl (Or.inr (Or.inr (Or.inr (Or.inr ⟨rfl, rfl, rfl⟩)))) (hb hby own_d1_126) hr
                            · have hv : own_vfi p1 = (2 : Int32) := ((if_neg hc1_2).trans ((if_neg hc10_7).trans ((if_neg hc19_12).trans ((if_neg hc28_17).trans ((if_neg hc37_22).trans ((if_neg hc46_27).trans ((if_neg hc56_32).trans ((if_neg hc66_37).trans ((if_neg hc76_42).trans ((if_neg hc86_47).trans ((if_neg hc96_52).trans ((if_neg hc106_57).trans (if_neg hc116_62)))))))))))))
                              exact ⟨_, rfl, N0, e67, E13, by rw [hv]; exact F13⟩
def own_vif (p1 : Int32) (w1 : Int32) : Int32 :=
  if p1 < w1 then (0 : Int32) else
  (1 : Int32)
theorem own_d3_0 : decode prog_34_method_6_code 0 = .ok (.iload_n 1, 1) := by decide +kernel
theorem own_d3_1 : decode prog_34_method_6_code 1 = .ok (.aload_n 0, 1) := by decide +kernel
theorem own_d3_2 : decode prog_34_method_6_code 2 = .ok (.getfield 73, 3) := by decide +kernel
theorem own_d3_5 : decode prog_34_method_6_code 5 = .ok (.if_icmp .lt 7, 3) := by decide +kernel
theorem own_d3_8 : decode prog_34_method_6_code 8 = .ok (.iconst 1, 1) := by decide +kernel
theorem own_d3_9 : decode prog_34_method_6_code 9 = .ok (.goto 4, 3) := by decide +kernel
theorem own_d3_12 : decode prog_34_method_6_code 12 = .ok (.iconst 0, 1) := by decide +kernel
theorem own_d3_13 : decode prog_34_method_6_code 13 = .ok (.ireturn, 1) := by decide +kernel
theorem own_pn1 : plainName "com/example/even_keel/evenkeel/protocol/ApiKey" = true := by first | (simp [plainName, overriddenIn]; done) | decide +kernel
theorem own_efif (m : MethodId) (x0 : Addr) (x1 : Int32) : entryFrame m #[(.ref x0), (.int x1)] 2 = mkF m 0 #[.val (.ref x0), .val (.int x1)] [] := by first | (simp [entryFrame, mkF, argsToLocals, Value.category]; done) | rfl
def own_Qif (Z : State) (a : Addr) (p1 : Int32) (w1 : Int32) (h0 : Heap) (n0 : Nat) (v : Option Value) (h : Heap) (L : List Loc) : Prop := v = some (.int (own_vif p1 w1)) ∧ Fr n0 L ∧ h = h0
set_option maxRecDepth 65536 in
set_option maxHeartbeats 40000000 in
theorem own_rmif (l : Launch) (Z : State) (a0 : Array Value) (hw : ∀ d ∈ tables_1, d.before a0 Z = true) (ws : List Jvm.Cond) (a : Addr) (p1 : Int32) (w1 : Int32) (h0 : Heap) (n0 : Nat) (Z0 : n0 ≤ h0.size) (F1 : Fld Z h0 a "com/example/even_keel/evenkeel/protocol/ApiKey" "firstFlexibleVersion" "S" (.int w1)) :
    MetFree l (⟨"com/example/even_keel/evenkeel/protocol/ApiKey", "isFlexible", "(S)Z"⟩ : MethodName) (head1 (Jvm.Cond.code (⟨"com/example/even_keel/evenkeel/protocol/ApiKey", "isFlexible", "(S)Z"⟩ : MethodName) prog_34_method_6_code 2 (some .boolean) :: ws) ({ frames := 0, cells := 0, slots := 0, locals := 0 } : Room)) (fun aa U => aa = #[(.ref a), (.int p1)] ∧ Z.Warmed39 U.vm ∧ U.heap = h0) (fun _ _ _ _ _ => True) (fun _ U o U' => ∃ v L, o = .returned v ∧ own_Qif Z a p1 w1 h0 n0 v U'.heap L ∧ FrameEnd U o U' L ({ frames := 0, cells := 0, slots := 0, locals := 0 } : Room).cells ({ frames := 0, cells := 0, slots := 0, locals := 0 } : Room).slots) := by
  refine MetFree.of_bodySF (plainFor_of_name own_pn1) hisR ?_
  intro p e s m args below meth c s₁ Bd hml0 hP hK
  obtain ⟨rfl, hZ, hh⟩ := hP
  have hx := Bd.exec
  have hby := Bd.bytes
  have hml : c.maxLocals = 2 := hml0
  have hown : s.vm.findClass "com/example/even_keel/evenkeel/protocol/ApiKey" = some m.cls := findClass_of_methodNamed Bd.named
  have hnm := (name_of_methodNamed Bd.named Bd.method).1
  have X0 : Stand p l e ({ frames := 0, cells := 0, slots := 0, locals := 0 } : Room) s m #[(.ref a), (.int p1)] below meth c s₁ [] 0 0 := Stand.of_body Bd
  have e0 : s₁.heap = h0 := by rw [← hh, Bd.state]; rfl
  have N0 := Fr.nil n0
  have pre0 : ∀ t, Steps p.tables e below (s₁.setTop (mkF m 0 #[.val (.ref a), .val (.int p1)] [])) t → Steps p.tables e below (s₁.setTop (entryFrame m #[(.ref a), (.int p1)] 2)) t := fun t k => castTop (own_efif m a p1) k
  have k1 : ∀ t, Steps p.tables e below (s₁.setTop (mkF m 2 #[.val (.ref a), .val (.int p1)] [(.ref a), (.int p1)])) t → Steps p.tables e below (s₁.setTop (entryFrame m #[(.ref a), (.int p1)] 2)) t := by
    intro t k
    refine pre0 t ?_
    show Steps p.tables e below (s₁.setTop (mkF m 0 #[.val (.ref a), .val (.int p1)] [])) _
    refine XS.iloadN X0.here hx rfl (hb hby own_d3_0) rfl ?_
    show Steps p.tables e below (s₁.setTop (mkF m 1 #[.val (.ref a), .val (.int p1)] [(.int p1)])) _
    refine XS.aloadN X0.here hx rfl (hb hby own_d3_1) rfl rfl ?_
    exact k
  obtain ⟨T2, X2, e2, st2⟩ := getF X0 hx hZ hown (host := "") (Or.inl (hw _ (List.mem_of_getElem? (i := 16) rfl))) Via.refl e0 F1 (g := (mkF m 2 #[.val (.ref a), .val (.int p1)] [(.ref a), (.int p1)])) rfl rfl (hb hby own_d3_2)
  have k3 : ∀ t, Steps p.tables e below (T2.setTop (mkF m 5 #[.val (.ref a), .val (.int p1)] [(.int w1), (.int p1)])) t → Steps p.tables e below (s₁.setTop (entryFrame m #[(.ref a), (.int p1)] 2)) t := fun t k => k1 t (st2 t k)
  by_cases hc5_4 : p1 < w1
  · have k5 : ∀ t, Steps p.tables e below (T2.setTop (mkF m 13 #[.val (.ref a), .val (.int p1)] [(.int (0 : Int32))])) t → Steps p.tables e below (s₁.setTop (entryFrame m #[(.ref a), (.int p1)] 2)) t := by
      intro t k
      refine k3 t ?_
      show Steps p.tables e below (T2.setTop (mkF m 5 #[.val (.ref a), .val (.int p1)] [(.int w1), (.int p1)])) _
      refine XS.icmpYes X2.here hx rfl (pc0 := 5) (pc' := 12) rfl (hb hby own_d3_5) rfl (tlt hc5_4).1 (by decide) (by decide) ?_
      show Steps p.tables e below (T2.setTop (mkF m 12 #[.val (.ref a), .val (.int p1)] [])) _
      refine XS.iconst X2.here hx rfl (hb hby own_d3_12) ?_
      exact k
    obtain ⟨fs, hr, hrun, hended, hW, hsame⟩ := X2.leave (v := (some (.int (0 : Int32)))) (fun h => by rw [Bd.returns] at h; cases h)
    refine ⟨_, _, k5 _ ?_, hrun, hended, _, _, rfl, ?_, ⟨_, rfl⟩, hW, hsame.mono (by decide) (by decide)⟩
    · exact retN X2 hx (t := .boolean) Bd.returns (by simp) (hb hby own_d3_13) hr
    · have hv : (own_vif p1 w1) = (0 : Int32) := (if_pos hc5_4)
      exact ⟨congrArg (fun z => some (Value.int z)) hv.symm, N0, e2⟩
  · have k6 : ∀ t, Steps p.tables e below (T2.setTop (mkF m 13 #[.val (.ref a), .val (.int p1)] [(.int (1 : Int32))])) t → Steps p.tables e below (s₁.setTop (entryFrame m #[(.ref a), (.int p1)] 2)) t := by
      intro t k
      refine k3 t ?_
      show Steps p.tables e below (T2.setTop (mkF m 5 #[.val (.ref a), .val (.int p1)] [(.int w1), (.int p1)])) _
      refine XS.icmpNo X2.here hx rfl (hb hby own_d3_5) rfl (flt hc5_4).1 ?_
      show Steps p.tables e below (T2.setTop (mkF m 8 #[.val (.ref a), .val (.int p1)] [])) _
      refine XS.iconst X2.here hx rfl (hb hby own_d3_8) ?_
      show Steps p.tables e below (T2.setTop (mkF m 9 #[.val (.ref a), .val (.int p1)] [(.int (1 : Int32))])) _
      refine XS.goto X2.here hx rfl (pc0 := 9) (pc' := 13) rfl (hb hby own_d3_9) (by decide) (by decide) ?_
      exact k
    obtain ⟨fs, hr, hrun, hended, hW, hsame⟩ := X2.leave (v := (some (.int (1 : Int32)))) (fun h => by rw [Bd.returns] at h; cases h)
    refine ⟨_, _, k6 _ ?_, hrun, hended, _, _, rfl, ?_, ⟨_, rfl⟩, hW, hsame.mono (by decide) (by decide)⟩
    · exact retN X2 hx (t := .boolean) Bd.returns (by simp) (hb hby own_d3_13) hr
    · have hv : (own_vif p1 w1) = (1 : Int32) := (if_neg hc5_4)
      exact ⟨congrArg (fun z => some (Value.int z)) hv.symm, N0, e2⟩
def own_k (p1 : Int32) : Int32 := ((p1 &&& (2147483647 : Int32)) % (14 : Int32))
def own_at (p1 : Int32) (p2 : Int32) : Int32 := if (p2.toInt16.toInt32) < (own_vfi (own_k p1)) then (if (own_vif (p2.toInt16.toInt32) (own_vfi (own_k p1))) = (0 : Int32) then (1 : Int32) else (0 : Int32)) else if (own_vif (p2.toInt16.toInt32) (own_vfi (own_k p1))) = (1 : Int32) then (1 : Int32) else (0 : Int32)
def own_bl (p1 : Int32) : Int32 := if (own_vif (((own_vfi (own_k p1)) - (1 : Int32)).toInt16.toInt32) (own_vfi (own_k p1))) = (0 : Int32) then (1 : Int32) else (0 : Int32)
def own_v0 (p1 : Int32) (p2 : Int32) : Int32 :=
  if (own_at p1 p2) = (0 : Int32) then (0 : Int32) else
  if (own_vif ((own_vfi (own_k p1)).toInt16.toInt32) (own_vfi (own_k p1))) = (0 : Int32) then (0 : Int32) else
  if (own_bl p1) = (0 : Int32) then (0 : Int32) else
  (1 : Int32)
theorem own_krng (p1 : Int32) : 0 ≤ (own_k p1).toInt ∧ (own_k p1).toInt < 14 := by
  have h1 := c_mask p1 2147483647 31 (by decide) (by decide)
  have h2 := (c_irem (p1 &&& 2147483647) 14 14 (by decide)).1 (by omega)
  unfold own_k
  omega
theorem own_frng (k : Int32) : 2 ≤ (own_vfi k).toInt ∧ (own_vfi k).toInt ≤ 12 := by
  unfold own_vfi
  by_cases h0 : k = (0 : Int32)
  · rw [if_pos h0]; decide
  rw [if_neg h0]
  by_cases h1 : k = (1 : Int32)
  · rw [if_pos h1]; decide
  rw [if_neg h1]
  by_cases h2 : k = (2 : Int32)
  · rw [if_pos h2]; decide
  rw [if_neg h2]
  by_cases h3 : k = (3 : Int32)
  · rw [if_pos h3]; decide
  rw [if_neg h3]
  by_cases h4 : k = (4 : Int32)
  · rw [if_pos h4]; decide
  rw [if_neg h4]
  by_cases h5 : k = (5 : Int32)
  · rw [if_pos h5]; decide
  rw [if_neg h5]
  by_cases h6 : k = (6 : Int32)
  · rw [if_pos h6]; decide
  rw [if_neg h6]
  by_cases h7 : k = (7 : Int32)
  · rw [if_pos h7]; decide
  rw [if_neg h7]
  by_cases h8 : k = (8 : Int32)
  · rw [if_pos h8]; decide
  rw [if_neg h8]
  by_cases h9 : k = (9 : Int32)
  · rw [if_pos h9]; decide
  rw [if_neg h9]
  by_cases h10 : k = (10 : Int32)
  · rw [if_pos h10]; decide
  rw [if_neg h10]
  by_cases h11 : k = (11 : Int32)
  · rw [if_pos h11]; decide
  rw [if_neg h11]
  by_cases h12 : k = (12 : Int32)
  · rw [if_pos h12]; decide
  rw [if_neg h12]
  decide
theorem own_one (p1 p2 : Int32) : own_v0 p1 p2 = 1 := by
  have hf := own_frng (own_k p1)
  unfold own_v0 own_at own_bl own_vif
  generalize own_vfi (own_k p1) = f at *
  generalize p2.toInt16.toInt32 = s
  have h1 := c_i2s f
  have e1 : f.toInt16.toInt32 = f := Int32.toInt_inj.mp (by omega)
  have h2 := c_i2s (f - 1)
  have h3 := c_isub f 1
  have h4 := rng32 (f - 1)
  rw [show (1 : Int32).toInt = 1 from rfl] at h3
  have h5 : (f - 1).toInt16.toInt32 < f := by rw [Int32.lt_iff_toInt_lt]; omega
  have h6 : ¬ f < f := by rw [Int32.lt_iff_toInt_lt]; omega
  rw [e1]
  simp only [if_pos h5, if_neg h6]
  by_cases h : s < f
  · simp only [if_pos h]; rfl
  · simp only [if_neg h]; rfl
theorem own_pd0 : parseMethodDescriptor "(I)Lcom/example/even_keel/evenkeel/protocol/ApiKey;" = some ⟨[.int], some (.object "com/example/even_keel/evenkeel/protocol/ApiKey")⟩ := by decide +kernel
theorem own_pd1 : parseMethodDescriptor "(I)I" = some ⟨[.int], some .int⟩ := by decide +kernel
theorem own_pd2 : parseMethodDescriptor "(S)Z" = some ⟨[.short], some .boolean⟩ := by decide +kernel
theorem own_ef0 (m : MethodId) (x0 : Int32) (x1 : Int32) : entryFrame m #[(.int x0), (.int x1)] maxLocals = mkF m 0 #[.val (.int x0), .val (.int x1), .unset, .unset, .unset, .unset, .unset, .unset, .unset] [] := by first | (simp [entryFrame, mkF, argsToLocals, Value.category, maxLocals]; done) | rfl
def own_Q0 (Z : State) (p1 : Int32) (p2 : Int32) (s0 : Addr) (s1 : Addr) (s2 : Addr) (s3 : Addr) (s4 : Addr) (s5 : Addr) (s6 : Addr) (s7 : Addr) (s8 : Addr) (s9 : Addr) (s10 : Addr) (s11 : Addr) (s12 : Addr) (s13 : Addr) (h0 : Heap) (n0 : Nat) (v : Option Value) (h : Heap) (L : List Loc) : Prop := v = some (.int (1 : Int32)) ∧ Fr n0 L
set_option maxRecDepth 65536 in
set_option maxHeartbeats 40000000 in
theorem own_rm0 (l : Launch) (Z : State) (a0 : Array Value) (hw : ∀ d ∈ tables_1, d.before a0 Z = true) (ws : List Jvm.Cond) (p1 : Int32) (p2 : Int32) (s0 : Addr) (s1 : Addr) (s2 : Addr) (s3 : Addr) (s4 : Addr) (s5 : Addr) (s6 : Addr) (s7 : Addr) (s8 : Addr) (s9 : Addr) (s10 : Addr) (s11 : Addr) (s12 : Addr) (s13 : Addr) (h0 : Heap) (n0 : Nat) (Z0 : n0 ≤ h0.size) (S0 : Sta Z h0 "com/example/even_keel/evenkeel/protocol/ApiKey" "FETCH" "Lcom/example/even_keel/evenkeel/protocol/ApiKey;" (.ref s0)) (E0 : Exa Z h0 s0 "com/example/even_keel/evenkeel/protocol/ApiKey") (F0 : Fld Z h0 s0 "com/example/even_keel/evenkeel/protocol/ApiKey" "firstFlexibleVersion" "S" (.int (12 : Int32))) (S1 : Sta Z h0 "com/example/even_keel/evenkeel/protocol/ApiKey" "LIST_OFFSETS" "Lcom/example/even_keel/evenkeel/protocol/ApiKey;" (.ref s1)) (E1 : Exa Z h0 s1 "com/example/even_keel/evenkeel/protocol/ApiKey") (F1 : Fld Z h0 s1 "com/example/even_keel/evenkeel/protocol/ApiKey" "firstFlexibleVersion" "S" (.int (6 : Int32))) (S2 : Sta Z h0 "com/example/even_keel/evenkeel/protocol/ApiKey" "METADATA" "Lcom/example/even_keel/evenkeel/protocol/ApiKey;" (.ref s2)) (E2 : Exa Z h0 s2 "com/example/even_keel/evenkeel/protocol/ApiKey") (F2 : Fld Z h0 s2 "com/example/even_keel/evenkeel/protocol/ApiKey" "firstFlexibleVersion" "S" (.int (9 : Int32))) (S3 : Sta Z h0 "com/example/even_keel/evenkeel/protocol/ApiKey" "OFFSET_COMMIT" "Lcom/example/even_keel/evenkeel/protocol/ApiKey;" (.ref s3)) (E3 : Exa Z h0 s3 "com/example/even_keel/evenkeel/protocol/ApiKey") (F3 : Fld Z h0 s3 "com/example/even_keel/evenkeel/protocol/ApiKey" "firstFlexibleVersion" "S" (.int (8 : Int32))) (S4 : Sta Z h0 "com/example/even_keel/evenkeel/protocol/ApiKey" "OFFSET_FETCH" "Lcom/example/even_keel/evenkeel/protocol/ApiKey;" (.ref s4)) (E4 : Exa Z h0 s4 "com/example/even_keel/evenkeel/protocol/ApiKey") (F4 : Fld Z h0 s4 "com/example/even_keel/evenkeel/protocol/ApiKey" "firstFlexibleVersion" "S" (.int (6 : Int32))) (S5 : Sta Z h0 "com/example/even_keel/evenkeel/protocol/ApiKey" "FIND_COORDINATOR" "Lcom/example/even_keel/evenkeel/protocol/ApiKey;" (.ref s5)) (E5 : Exa Z h0 s5 "com/example/even_keel/evenkeel/protocol/ApiKey") (F5 : Fld Z h0 s5 "com/example/even_keel/evenkeel/protocol/ApiKey" "firstFlexibleVersion" "S" (.int (3 : Int32))) (S6 : Sta Z h0 "com/example/even_keel/evenkeel/protocol/ApiKey" "JOIN_GROUP" "Lcom/example/even_keel/evenkeel/protocol/ApiKey;" (.ref s6)) (E6 : Exa Z h0 s6 "com/example/even_keel/evenkeel/protocol/ApiKey") (F6 : Fld Z h0 s6 "com/example/even_keel/evenkeel/protocol/ApiKey" "firstFlexibleVersion" "S" (.int (6 : Int32))) (S7 : Sta Z h0 "com/example/even_keel/evenkeel/protocol/ApiKey" "HEARTBEAT" "Lcom/example/even_keel/evenkeel/protocol/ApiKey;" (.ref s7)) (E7 : Exa Z h0 s7 "com/example/even_keel/evenkeel/protocol/ApiKey") (F7 : Fld Z h0 s7 "com/example/even_keel/evenkeel/protocol/ApiKey" "firstFlexibleVersion" "S" (.int (4 : Int32))) (S8 : Sta Z h0 "com/example/even_keel/evenkeel/protocol/ApiKey" "LEAVE_GROUP" "Lcom/example/even_keel/evenkeel/protocol/ApiKey;" (.ref s8)) (E8 : Exa Z h0 s8 "com/example/even_keel/evenkeel/protocol/ApiKey") (F8 : Fld Z h0 s8 "com/example/even_keel/evenkeel/protocol/ApiKey" "firstFlexibleVersion" "S" (.int (4 : Int32))) (S9 : Sta Z h0 "com/example/even_keel/evenkeel/protocol/ApiKey" "SYNC_GROUP" "Lcom/example/even_keel/evenkeel/protocol/ApiKey;" (.ref s9)) (E9 : Exa Z h0 s9 "com/example/even_keel/evenkeel/protocol/ApiKey") (F9 : Fld Z h0 s9 "com/example/even_keel/evenkeel/protocol/ApiKey" "firstFlexibleVersion" "S" (.int (4 : Int32))) (S10 : Sta Z h0 "com/example/even_keel/evenkeel/protocol/ApiKey" "DESCRIBE_GROUPS" "Lcom/example/even_keel/evenkeel/protocol/ApiKey;" (.ref s10)) (E10 : Exa Z h0 s10 "com/example/even_keel/evenkeel/protocol/ApiKey") (F10 : Fld Z h0 s10 "com/example/even_keel/evenkeel/protocol/ApiKey" "firstFlexibleVersion" "S" (.int (5 : Int32))) (S11 : Sta Z h0 "com/example/even_keel/evenkeel/protocol/ApiKey" "LIST_GROUPS" "Lcom/example/even_keel/evenkeel/protocol/ApiKey;" (.ref s11)) (E11 : Exa Z h0 s11 "com/example/even_keel/evenkeel/protocol/ApiKey") (F11 : Fld Z h0 s11 "com/example/even_keel/evenkeel/protocol/ApiKey" "firstFlexibleVersion" "S" (.int (3 : Int32))) (S12 : Sta Z h0 "com/example/even_keel/evenkeel/protocol/ApiKey" "API_VERSIONS" "Lcom/example/even_keel/evenkeel/protocol/ApiKey;" (.ref s12)) (E12 : Exa Z h0 s12 "com/example/even_keel/evenkeel/protocol/ApiKey") (F12 : Fld Z h0 s12 "com/example/even_keel/evenkeel/protocol/ApiKey" "firstFlexibleVersion" "S" (.int (3 : Int32))) (S13 : Sta Z h0 "com/example/even_keel/evenkeel/protocol/ApiKey" "DELETE_GROUPS" "Lcom/example/even_keel/evenkeel/protocol/ApiKey;" (.ref s13)) (E13 : Exa Z h0 s13 "com/example/even_keel/evenkeel/protocol/ApiKey") (F13 : Fld Z h0 s13 "com/example/even_keel/evenkeel/protocol/ApiKey" "firstFlexibleVersion" "S" (.int (2 : Int32))) (hone : (own_v0 p1 p2) = (1 : Int32)) :
    MetFree l x (head1 (Jvm.Cond.code x code maxLocals ret :: ws) room_1) (fun aa U => aa = #[(.int p1), (.int p2)] ∧ Z.Warmed39 U.vm ∧ U.heap = h0) (fun _ _ _ _ _ => True) (fun _ U o U' => ∃ v L, o = .returned v ∧ own_Q0 Z p1 p2 s0 s1 s2 s3 s4 s5 s6 s7 s8 s9 s10 s11 s12 s13 h0 n0 v U'.heap L ∧ FrameEnd U o U' L room_1.cells room_1.slots) := by
  refine MetFree.of_bodySF (plainFor_of_name own_pn0) hisR ?_
  intro p e s m args below meth c s₁ Bd hml0 hP hK
  obtain ⟨rfl, hZ, hh⟩ := hP
  have hx := Bd.exec
  have hby := Bd.bytes
  have hml : c.maxLocals = 9 := hml0
  have hown : s.vm.findClass "com/example/even_keel/evenkeel/protocol/ApiKeyIsFlexiblePinLaw" = some m.cls := findClass_of_methodNamed Bd.named
  have hnm := (name_of_methodNamed Bd.named Bd.method).1
  have X0 : Stand p l e room_1 s m #[(.int p1), (.int p2)] below meth c s₁ [] 0 0 := Stand.of_body Bd
  have e0 : s₁.heap = h0 := by rw [← hh, Bd.state]; rfl
  have N0 := Fr.nil n0
  have pre0 : ∀ t, Steps p.tables e below (s₁.setTop (mkF m 0 #[.val (.int p1), .val (.int p2), .unset, .unset, .unset, .unset, .unset, .unset, .unset] [])) t → Steps p.tables e below (s₁.setTop (entryFrame m #[(.int p1), (.int p2)] maxLocals)) t := fun t k => castTop (own_ef0 m p1 p2) k
  have k1 : ∀ t, Steps p.tables e below (s₁.setTop (mkF m 8 #[.val (.int p1), .val (.int p2), .val (.int (own_k p1)), .unset, .unset, .unset, .unset, .unset, .unset] [])) t → Steps p.tables e below (s₁.setTop (entryFrame m #[(.int p1), (.int p2)] maxLocals)) t := by
    intro t k
    refine pre0 t ?_
    show Steps p.tables e below (s₁.setTop (mkF m 0 #[.val (.int p1), .val (.int p2), .unset, .unset, .unset, .unset, .unset, .unset, .unset] [])) _
    refine XS.iloadN X0.here hx rfl (hb hby at_0) rfl ?_
    show Steps p.tables e below (s₁.setTop (mkF m 1 #[.val (.int p1), .val (.int p2), .unset, .unset, .unset, .unset, .unset, .unset, .unset] [(.int p1)])) _
    refine X0.ldcInt hx hown (mvT hZ (hw _ (List.mem_of_getElem? (i := 0) rfl))) (g := (mkF m 1 #[.val (.int p1), .val (.int p2), .unset, .unset, .unset, .unset, .unset, .unset, .unset] [(.int p1)])) rfl (hb hby at_1) _ ?_
    show Steps p.tables e below (s₁.setTop (mkF m 3 #[.val (.int p1), .val (.int p2), .unset, .unset, .unset, .unset, .unset, .unset, .unset] [(.int (2147483647 : Int32)), (.int p1)])) _
    refine XS.iand X0.here hx rfl (hb hby at_3) rfl ?_
    show Steps p.tables e below (s₁.setTop (mkF m 4 #[.val (.int p1), .val (.int p2), .unset, .unset, .unset, .unset, .unset, .unset, .unset] [(.int (p1 &&& (2147483647 : Int32)))])) _
    refine XS.bipush X0.here hx rfl (hb hby at_4) ?_
    show Steps p.tables e below (s₁.setTop (mkF m 6 #[.val (.int p1), .val (.int p2), .unset, .unset, .unset, .unset, .unset, .unset, .unset] [(.int (14 : Int32)), (.int (p1 &&& (2147483647 : Int32)))])) _
    refine iremM X0 hx rfl (hb hby at_6) rfl (by decide) ?_
    show Steps p.tables e below (s₁.setTop (mkF m 7 #[.val (.int p1), .val (.int p2), .unset, .unset, .unset, .unset, .unset, .unset, .unset] [(.int ((p1 &&& (2147483647 : Int32)) % (14 : Int32)))])) _
    refine XS.istoreN X0.here hx rfl (hb hby at_7) rfl (l' := #[.val (.int p1), .val (.int p2), .val (.int ((p1 &&& (2147483647 : Int32)) % (14 : Int32))), .unset, .unset, .unset, .unset, .unset, .unset]) rfl ?_
    exact k
  have k2 : ∀ t, Steps p.tables e below (s₁.setTop (mkF m 9 #[.val (.int p1), .val (.int p2), .val (.int (own_k p1)), .unset, .unset, .unset, .unset, .unset, .unset] [(.int (own_k p1))])) t → Steps p.tables e below (s₁.setTop (entryFrame m #[(.int p1), (.int p2)] maxLocals)) t := by
    intro t k
    refine k1 t ?_
    show Steps p.tables e below (s₁.setTop (mkF m 8 #[.val (.int p1), .val (.int p2), .val (.int (own_k p1)), .unset, .unset, .unset, .unset, .unset, .unset] [])) _
    refine XS.iloadN X0.here hx rfl (hb hby at_8) rfl ?_
    exact k
  obtain ⟨_, _, ⟨T3, L3, k3c, n3⟩, -, X3, ⟨Lc3, hQ3, l3, y3, z3⟩, st3⟩ := Jvm.LawKit.callS X0 hx (y := (⟨"com/example/even_keel/evenkeel/protocol/ApiKeyIsFlexiblePinLaw", "pick", "(I)Lcom/example/even_keel/evenkeel/protocol/ApiKey;"⟩ : MethodName)) hown (mvT hZ (hw _ (List.mem_of_getElem? (i := 1) rfl))) (mvT hZ (hw _ (List.mem_of_getElem? (i := 2) rfl))) (mvT hZ (hw _ (List.mem_of_getElem? (i := 3) rfl))) (mvT hZ (hw _ (List.mem_of_getElem? (i := 4) rfl))) (by decide) (backOf (W := 0) (own_rmpk l Z a0 hw [] (own_k p1) s0 s1 s2 s3 s4 s5 s6 s7 s8 s9 s10 s11 s12 s13 h0 n0 Z0 S0 E0 F0 S1 E1 F1 S2 E2 F2 S3 E3 F3 S4 E4 F4 S5 E5 F5 S6 E6 F6 S7 E7 F7 S8 E8 F8 S9 E9 F9 S10 E10 F10 S11 E11 F11 S12 E12 F12 S13 E13 F13) hZ (hw _ (List.mem_of_getElem? (i := 4) rfl)) (hw _ (List.mem_of_getElem? (i := 3) rfl)) (by decide) (by decide)) (g := (mkF m 9 #[.val (.int p1), .val (.int p2), .val (.int (own_k p1)), .unset, .unset, .unset, .unset, .unset, .unset] [(.int (own_k p1))])) rfl (by rw [hml]; rfl) (argsL := [(.int (own_k p1))]) (rest := []) (lenOf own_pd0 rfl) rfl (by show 2 * 0 + _ ≤ _; exact Nat.le_of_eq rfl) (hb hby at_9) (fun _ _ => ⟨rfl, e0, (by decide : 0 + 0 ≤ _), (by decide : 0 + 0 ≤ _)⟩)
  dsimp only [Pt.U, Pt.locs, Pt.cells, Pt.slots] at X3 l3 y3 z3 st3 hQ3
  subst l3 y3 z3
  obtain ⟨ak, rfl, N3q, e3, Eq3, Fq3⟩ := hQ3
  have N3 := Fr.app N0 N3q
  have k4 : ∀ t, Steps p.tables e below (T3.setTop (mkF m 12 #[.val (.int p1), .val (.int p2), .val (.int (own_k p1)), .unset, .unset, .unset, .unset, .unset, .unset] [(.ref ak)])) t → Steps p.tables e below (s₁.setTop (entryFrame m #[(.int p1), (.int p2)] maxLocals)) t := fun t k => k2 t (st3 t k)
  have k5 : ∀ t, Steps p.tables e below (T3.setTop (mkF m 14 #[.val (.int p1), .val (.int p2), .val (.int (own_k p1)), .val (.ref ak), .unset, .unset, .unset, .unset, .unset] [(.int (own_k p1))])) t → Steps p.tables e below (s₁.setTop (entryFrame m #[(.int p1), (.int p2)] maxLocals)) t := by
    intro t k
    refine k4 t ?_
    show Steps p.tables e below (T3.setTop (mkF m 12 #[.val (.int p1), .val (.int p2), .val (.int (own_k p1)), .unset, .unset, .unset, .unset, .unset, .unset] [(.ref ak)])) _
    refine XS.astoreN X3.here hx rfl (hb hby at_12) rfl rfl (l' := #[.val (.int p1), .val (.int p2), .val (.int (own_k p1)), .val (.ref ak), .unset, .unset, .unset, .unset, .unset]) rfl ?_
    show Steps p.tables e below (T3.setTop (mkF m 13 #[.val (.int p1), .val (.int p2), .val (.int (own_k p1)), .val (.ref ak), .unset, .unset, .unset, .unset, .unset] [])) _
    refine XS.iloadN X3.here hx rfl (hb hby at_13) rfl ?_
    exact k
  obtain ⟨_, _, ⟨T6, L6, k6c, n6⟩, -, X6, ⟨Lc6, hQ6, l6, y6, z6⟩, st6⟩ := Jvm.LawKit.callS X3 hx (y := (⟨"com/example/even_keel/evenkeel/protocol/ApiKeyIsFlexiblePinLaw", "first", "(I)I"⟩ : MethodName)) hown (mvT hZ (hw _ (List.mem_of_getElem? (i := 8) rfl))) (mvT hZ (hw _ (List.mem_of_getElem? (i := 9) rfl))) (mvT hZ (hw _ (List.mem_of_getElem? (i := 3) rfl))) (mvT hZ (hw _ (List.mem_of_getElem? (i := 10) rfl))) (by decide) (backOf (W := 0) (own_rmfi l Z a0 hw [] (own_k p1) h0 n0 Z0) hZ (hw _ (List.mem_of_getElem? (i := 10) rfl)) (hw _ (List.mem_of_getElem? (i := 3) rfl)) (by decide) (by decide)) (g := (mkF m 14 #[.val (.int p1), .val (.int p2), .val (.int (own_k p1)), .val (.ref ak), .unset, .unset, .unset, .unset, .unset] [(.int (own_k p1))])) rfl (by rw [hml]; rfl) (argsL := [(.int (own_k p1))]) (rest := []) (lenOf own_pd1 rfl) rfl (by show 2 * 0 + _ ≤ _; exact Nat.le_of_eq rfl) (hb hby at_14) (fun _ _ => ⟨rfl, e3, (by decide : 0 + 0 ≤ _), (by decide : 0 + 0 ≤ _)⟩)
  dsimp only [Pt.U, Pt.locs, Pt.cells, Pt.slots] at X6 l6 y6 z6 st6 hQ6
  subst l6 y6 z6
  obtain ⟨rfl, N6q, e6⟩ := hQ6
  have N6 := Fr.app N3 N6q
  have k7 : ∀ t, Steps p.tables e below (T6.setTop (mkF m 17 #[.val (.int p1), .val (.int p2), .val (.int (own_k p1)), .val (.ref ak), .unset, .unset, .unset, .unset, .unset] [(.int (own_vfi (own_k p1)))])) t → Steps p.tables e below (s₁.setTop (entryFrame m #[(.int p1), (.int p2)] maxLocals)) t := fun t k => k5 t (st6 t k)
  have k8 : ∀ t, Steps p.tables e below (T6.setTop (mkF m 26 #[.val (.int p1), .val (.int p2), .val (.int (own_k p1)), .val (.ref ak), .val (.int (own_vfi (own_k p1))), .val (.int (p2.toInt16.toInt32)), .unset, .unset, .unset] [(.int (p2.toInt16.toInt32)), (.ref ak)])) t → Steps p.tables e below (s₁.setTop (entryFrame m #[(.int p1), (.int p2)] maxLocals)) t := by
    intro t k
    refine k7 t ?_
    show Steps p.tables e below (T6.setTop (mkF m 17 #[.val (.int p1), .val (.int p2), .val (.int (own_k p1)), .val (.ref ak), .unset, .unset, .unset, .unset, .unset] [(.int (own_vfi (own_k p1)))])) _
    refine XS.istore X6.here hx rfl (hb hby at_17) rfl (l' := #[.val (.int p1), .val (.int p2), .val (.int (own_k p1)), .val (.ref ak), .val (.int (own_vfi (own_k p1))), .unset, .unset, .unset, .unset]) rfl ?_
    show Steps p.tables e below (T6.setTop (mkF m 19 #[.val (.int p1), .val (.int p2), .val (.int (own_k p1)), .val (.ref ak), .val (.int (own_vfi (own_k p1))), .unset, .unset, .unset, .unset] [])) _
    refine XS.iloadN X6.here hx rfl (hb hby at_19) rfl ?_
    show Steps p.tables e below (T6.setTop (mkF m 20 #[.val (.int p1), .val (.int p2), .val (.int (own_k p1)), .val (.ref ak), .val (.int (own_vfi (own_k p1))), .unset, .unset, .unset, .unset] [(.int p2)])) _
    refine XS.i2s X6.here hx rfl (hb hby at_20) rfl ?_
    show Steps p.tables e below (T6.setTop (mkF m 21 #[.val (.int p1), .val (.int p2), .val (.int (own_k p1)), .val (.ref ak), .val (.int (own_vfi (own_k p1))), .unset, .unset, .unset, .unset] [(.int (p2.toInt16.toInt32))])) _
    refine XS.istore X6.here hx rfl (hb hby at_21) rfl (l' := #[.val (.int p1), .val (.int p2), .val (.int (own_k p1)), .val (.ref ak), .val (.int (own_vfi (own_k p1))), .val (.int (p2.toInt16.toInt32)), .unset, .unset, .unset]) rfl ?_
    show Steps p.tables e below (T6.setTop (mkF m 23 #[.val (.int p1), .val (.int p2), .val (.int (own_k p1)), .val (.ref ak), .val (.int (own_vfi (own_k p1))), .val (.int (p2.toInt16.toInt32)), .unset, .unset, .unset] [])) _
    refine XS.aloadN X6.here hx rfl (hb hby at_23) rfl rfl ?_
    show Steps p.tables e below (T6.setTop (mkF m 24 #[.val (.int p1), .val (.int p2), .val (.int (own_k p1)), .val (.ref ak), .val (.int (own_vfi (own_k p1))), .val (.int (p2.toInt16.toInt32)), .unset, .unset, .unset] [(.ref ak)])) _
    refine XS.iload X6.here hx rfl (hb hby at_24) rfl ?_
    exact k
  obtain ⟨cq9, kq9, q9a, q9b, q9c⟩ := isOf hZ e6 Eq3
  obtain ⟨_, _, ⟨T9, L9, k9c, n9⟩, -, X9, ⟨Lc9, hQ9, l9, y9, z9⟩, st9⟩ := X6.virtualBack hx (y := (⟨"com/example/even_keel/evenkeel/protocol/ApiKey", "isFlexible", "(S)Z"⟩ : MethodName)) (z := (⟨"com/example/even_keel/evenkeel/protocol/ApiKey", "isFlexible", "(S)Z"⟩ : MethodName)) hown (mvT hZ (hw _ (List.mem_of_getElem? (i := 11) rfl))) (mvT hZ (hw _ (List.mem_of_getElem? (i := 12) rfl))) (notFace_of_selects (args := #[]) (mvT hZ (hw _ (List.mem_of_getElem? (i := 14) rfl)))) (mvT hZ (hw _ (List.mem_of_getElem? (i := 14) rfl))) (mvT hZ (hw _ (List.mem_of_getElem? (i := 13) rfl))) (by decide) (backOf (W := 0) (own_rmif l Z a0 hw [] ak (p2.toInt16.toInt32) (own_vfi (own_k p1)) h0 n0 Z0 Fq3) hZ (hw _ (List.mem_of_getElem? (i := 15) rfl)) (hw _ (List.mem_of_getElem? (i := 6) rfl)) (by decide) (by decide)) q9a q9c (g := (mkF m 26 #[.val (.int p1), .val (.int p2), .val (.int (own_k p1)), .val (.ref ak), .val (.int (own_vfi (own_k p1))), .val (.int (p2.toInt16.toInt32)), .unset, .unset, .unset] [(.int (p2.toInt16.toInt32)), (.ref ak)])) rfl (by rw [hml]; rfl) (Steps.refl _) (argsL := [(.int (p2.toInt16.toInt32))]) (rest := []) (lenOf own_pd2 rfl) rfl (by show 2 * 0 + _ ≤ _; exact Nat.le_of_eq rfl) (hb hby at_26) (fun _ _ => ⟨rfl, e6, (by decide : 0 + 0 ≤ _), (by decide : 0 + 0 ≤ _)⟩)
  dsimp only [Pt.U, Pt.locs, Pt.cells, Pt.slots] at X9 l9 y9 z9 st9 hQ9
  subst l9 y9 z9
  obtain ⟨rfl, N9q, e9⟩ := hQ9
  have N9 := Fr.app N6 N9q
  have k10 : ∀ t, Steps p.tables e below (T9.setTop (mkF m 29 #[.val (.int p1), .val (.int p2), .val (.int (own_k p1)), .val (.ref ak), .val (.int (own_vfi (own_k p1))), .val (.int (p2.toInt16.toInt32)), .unset, .unset, .unset] [(.int (own_vif (p2.toInt16.toInt32) (own_vfi (own_k p1))))])) t → Steps p.tables e below (s₁.setTop (entryFrame m #[(.int p1), (.int p2)] maxLocals)) t := fun t k => k8 t (st9.trans k)
  have k11 : ∀ t, Steps p.tables e below (T9.setTop (mkF m 51 #[.val (.int p1), .val (.int p2), .val (.int (own_k p1)), .val (.ref ak), .val (.int (own_vfi (own_k p1))), .val (.int (p2.toInt16.toInt32)), .val (.int (own_at p1 p2)), .unset, .unset] [])) t → Steps p.tables e below (s₁.setTop (entryFrame m #[(.int p1), (.int p2)] maxLocals)) t := by
    intro t k
    refine k10 t ?_
    show Steps p.tables e below (T9.setTop (mkF m 29 #[.val (.int p1), .val (.int p2), .val (.int (own_k p1)), .val (.ref ak), .val (.int (own_vfi (own_k p1))), .val (.int (p2.toInt16.toInt32)), .unset, .unset, .unset] [(.int (own_vif (p2.toInt16.toInt32) (own_vfi (own_k p1))))])) _
    refine XS.iload X9.here hx rfl (hb hby at_29) rfl ?_
    show Steps p.tables e below (T9.setTop (mkF m 31 #[.val (.int p1), .val (.int p2), .val (.int (own_k p1)), .val (.ref ak), .val (.int (own_vfi (own_k p1))), .val (.int (p2.toInt16.toInt32)), .unset, .unset, .unset] [(.int (p2.toInt16.toInt32)), (.int (own_vif (p2.toInt16.toInt32) (own_vfi (own_k p1))))])) _
    refine XS.iload X9.here hx rfl (hb hby at_31) rfl ?_
    by_cases hc33_12 : (p2.toInt16.toInt32) < (own_vfi (own_k p1))
    · show Steps p.tables e below (T9.setTop (mkF m 33 #[.val (.int p1), .val (.int p2), .val (.int (own_k p1)), .val (.ref ak), .val (.int (own_vfi (own_k p1))), .val (.int (p2.toInt16.toInt32)), .unset, .unset, .unset] [(.int (own_vfi (own_k p1))), (.int (p2.toInt16.toInt32)), (.int (own_vif (p2.toInt16.toInt32) (own_vfi (own_k p1))))])) _
      refine XS.icmpYes X9.here hx rfl (pc0 := 33) (pc' := 40) rfl (hb hby at_33) rfl (tlt hc33_12).1 (by decide) (by decide) ?_
      show Steps p.tables e below (T9.setTop (mkF m 40 #[.val (.int p1), .val (.int p2), .val (.int (own_k p1)), .val (.ref ak), .val (.int (own_vfi (own_k p1))), .val (.int (p2.toInt16.toInt32)), .unset, .unset, .unset] [(.int (own_vif (p2.toInt16.toInt32) (own_vfi (own_k p1))))])) _
      refine XS.iconst X9.here hx rfl (hb hby at_40) ?_
      by_cases hc41_13 : (own_vif (p2.toInt16.toInt32) (own_vfi (own_k p1))) = (0 : Int32)
      · show Steps p.tables e below (T9.setTop (mkF m 41 #[.val (.int p1), .val (.int p2), .val (.int (own_k p1)), .val (.ref ak), .val (.int (own_vfi (own_k p1))), .val (.int (p2.toInt16.toInt32)), .unset, .unset, .unset] [(.int (0 : Int32)), (.int (own_vif (p2.toInt16.toInt32) (own_vfi (own_k p1))))])) _
        refine XS.icmpNo X9.here hx rfl (hb hby at_41) rfl (teq hc41_13).2 ?_
        show Steps p.tables e below (T9.setTop (mkF m 44 #[.val (.int p1), .val (.int p2), .val (.int (own_k p1)), .val (.ref ak), .val (.int (own_vfi (own_k p1))), .val (.int (p2.toInt16.toInt32)), .unset, .unset, .unset] [])) _
        refine XS.iconst X9.here hx rfl (hb hby at_44) ?_
        show Steps p.tables e below (T9.setTop (mkF m 45 #[.val (.int p1), .val (.int p2), .val (.int (own_k p1)), .val (.ref ak), .val (.int (own_vfi (own_k p1))), .val (.int (p2.toInt16.toInt32)), .unset, .unset, .unset] [(.int (1 : Int32))])) _
        refine XS.goto X9.here hx rfl (pc0 := 45) (pc' := 49) rfl (hb hby at_45) (by decide) (by decide) ?_
        show Steps p.tables e below (T9.setTop (mkF m 49 #[.val (.int p1), .val (.int p2), .val (.int (own_k p1)), .val (.ref ak), .val (.int (own_vfi (own_k p1))), .val (.int (p2.toInt16.toInt32)), .unset, .unset, .unset] [(.int (1 : Int32))])) _
        refine XS.istore X9.here hx rfl (hb hby at_49) rfl (l' := #[.val (.int p1), .val (.int p2), .val (.int (own_k p1)), .val (.ref ak), .val (.int (own_vfi (own_k p1))), .val (.int (p2.toInt16.toInt32)), .val (.int (1 : Int32)), .unset, .unset]) rfl ?_
        have q0 : (own_at p1 p2) = (1 : Int32) := ((if_pos hc33_12).trans (if_pos hc41_13))
        rw [q0] at k
        exact k
      · show Steps p.tables e below (T9.setTop (mkF m 41 #[.val (.int p1), .val (.int p2), .val (.int (own_k p1)), .val (.ref ak), .val (.int (own_vfi (own_k p1))), .val (.int (p2.toInt16.toInt32)), .unset, .unset, .unset] [(.int (0 : Int32)), (.int (own_vif (p2.toInt16.toInt32) (own_vfi (own_k p1))))])) _
        refine XS.icmpYes X9.here hx rfl (pc0 := 41) (pc' := 48) rfl (hb hby at_41) rfl (feq hc41_13).2 (by decide) (by decide) ?_
        show Steps p.tables e below (T9.setTop (mkF m 48 #[.val (.int p1), .val (.int p2), .val (.int (own_k p1)), .val (.ref ak), .val (.int (own_vfi (own_k p1))), .val (.int (p2.toInt16.toInt32)), .unset, .unset, .unset] [])) _
        refine XS.iconst X9.here hx rfl (hb hby at_48) ?_
        show Steps p.tables e below (T9.setTop (mkF m 49 #[.val (.int p1), .val (.int p2), .val (.int (own_k p1)), .val (.ref ak), .val (.int (own_vfi (own_k p1))), .val (.int (p2.toInt16.toInt32)), .unset, .unset, .unset] [(.int (0 : Int32))])) _
        refine XS.istore X9.here hx rfl (hb hby at_49) rfl (l' := #[.val (.int p1), .val (.int p2), .val (.int (own_k p1)), .val (.ref ak), .val (.int (own_vfi (own_k p1))), .val (.int (p2.toInt16.toInt32)), .val (.int (0 : Int32)), .unset, .unset]) rfl ?_
        have q0 : (own_at p1 p2) = (0 : Int32) := ((if_pos hc33_12).trans (if_neg hc41_13))
        rw [q0] at k
        exact k
    · show Steps p.tables e below (T9.setTop (mkF m 33 #[.val (.int p1), .val (.int p2), .val (.int (own_k p1)), .val (.ref ak), .val (.int (own_vfi (own_k p1))), .val (.int (p2.toInt16.toInt32)), .unset, .unset, .unset] [(.int (own_vfi (own_k p1))), (.int (p2.toInt16.toInt32)), (.int (own_vif (p2.toInt16.toInt32) (own_vfi (own_k p1))))])) _
      refine XS.icmpNo X9.here hx rfl (hb hby at_33) rfl (flt hc33_12).1 ?_
      show Steps p.tables e below (T9.setTop (mkF m 36 #[.val (.int p1), .val (.int p2), .val (.int (own_k p1)), .val (.ref ak), .val (.int (own_vfi (own_k p1))), .val (.int (p2.toInt16.toInt32)), .unset, .unset, .unset] [(.int (own_vif (p2.toInt16.toInt32) (own_vfi (own_k p1))))])) _
      refine XS.iconst X9.here hx rfl (hb hby at_36) ?_
      show Steps p.tables e below (T9.setTop (mkF m 37 #[.val (.int p1), .val (.int p2), .val (.int (own_k p1)), .val (.ref ak), .val (.int (own_vfi (own_k p1))), .val (.int (p2.toInt16.toInt32)), .unset, .unset, .unset] [(.int (1 : Int32)), (.int (own_vif (p2.toInt16.toInt32) (own_vfi (own_k p1))))])) _
      refine XS.goto X9.here hx rfl (pc0 := 37) (pc' := 41) rfl (hb hby at_37) (by decide) (by decide) ?_
      by_cases hc41_14 : (own_vif (p2.toInt16.toInt32) (own_vfi (own_k p1))) = (1 : Int32)
      · show Steps p.tables e below (T9.setTop (mkF m 41 #[.val (.int p1), .val (.int p2), .val (.int (own_k p1)), .val (.ref ak), .val (.int (own_vfi (own_k p1))), .val (.int (p2.toInt16.toInt32)), .unset, .unset, .unset] [(.int (1 : Int32)), (.int (own_vif (p2.toInt16.toInt32) (own_vfi (own_k p1))))])) _
        refine XS.icmpNo X9.here hx rfl (hb hby at_41) rfl (teq hc41_14).2 ?_
        show Steps p.tables e below (T9.setTop (mkF m 44 #[.val (.int p1), .val (.int p2), .val (.int (own_k p1)), .val (.ref ak), .val (.int (own_vfi (own_k p1))), .val (.int (p2.toInt16.toInt32)), .unset, .unset, .unset] [])) _
        refine XS.iconst X9.here hx rfl (hb hby at_44) ?_
        show Steps p.tables e below (T9.setTop (mkF m 45 #[.val (.int p1), .val (.int p2), .val (.int (own_k p1)), .val (.ref ak), .val (.int (own_vfi (own_k p1))), .val (.int (p2.toInt16.toInt32)), .unset, .unset, .unset] [(.int (1 : Int32))])) _
        refine XS.goto X9.here hx rfl (pc0 := 45) (pc' := 49) rfl (hb hby at_45) (by decide) (by decide) ?_
        show Steps p.tables e below (T9.setTop (mkF m 49 #[.val (.int p1), .val (.int p2), .val (.int (own_k p1)), .val (.ref ak), .val (.int (own_vfi (own_k p1))), .val (.int (p2.toInt16.toInt32)), .unset, .unset, .unset] [(.int (1 : Int32))])) _
        refine XS.istore X9.here hx rfl (hb hby at_49) rfl (l' := #[.val (.int p1), .val (.int p2), .val (.int (own_k p1)), .val (.ref ak), .val (.int (own_vfi (own_k p1))), .val (.int (p2.toInt16.toInt32)), .val (.int (1 : Int32)), .unset, .unset]) rfl ?_
        have q0 : (own_at p1 p2) = (1 : Int32) := ((if_neg hc33_12).trans (if_pos hc41_14))
        rw [q0] at k
        exact k
      · show Steps p.tables e below (T9.setTop (mkF m 41 #[.val (.int p1), .val (.int p2), .val (.int (own_k p1)), .val (.ref ak), .val (.int (own_vfi (own_k p1))), .val (.int (p2.toInt16.toInt32)), .unset, .unset, .unset] [(.int (1 : Int32)), (.int (own_vif (p2.toInt16.toInt32) (own_vfi (own_k p1))))])) _
        refine XS.icmpYes X9.here hx rfl (pc0 := 41) (pc' := 48) rfl (hb hby at_41) rfl (feq hc41_14).2 (by decide) (by decide) ?_
        show Steps p.tables e below (T9.setTop (mkF m 48 #[.val (.int p1), .val (.int p2), .val (.int (own_k p1)), .val (.ref ak), .val (.int (own_vfi (own_k p1))), .val (.int (p2.toInt16.toInt32)), .unset, .unset, .unset] [])) _
        refine XS.iconst X9.here hx rfl (hb hby at_48) ?_
        show Steps p.tables e below (T9.setTop (mkF m 49 #[.val (.int p1), .val (.int p2), .val (.int (own_k p1)), .val (.ref ak), .val (.int (own_vfi (own_k p1))), .val (.int (p2.toInt16.toInt32)), .unset, .unset, .unset] [(.int (0 : Int32))])) _
        refine XS.istore X9.here hx rfl (hb hby at_49) rfl (l' := #[.val (.int p1), .val (.int p2), .val (.int (own_k p1)), .val (.ref ak), .val (.int (own_vfi (own_k p1))), .val (.int (p2.toInt16.toInt32)), .val (.int (0 : Int32)), .unset, .unset]) rfl ?_
        have q0 : (own_at p1 p2) = (0 : Int32) := ((if_neg hc33_12).trans (if_neg hc41_14))
        rw [q0] at k
        exact k
  have k15 : ∀ t, Steps p.tables e below (T9.setTop (mkF m 55 #[.val (.int p1), .val (.int p2), .val (.int (own_k p1)), .val (.ref ak), .val (.int (own_vfi (own_k p1))), .val (.int (p2.toInt16.toInt32)), .val (.int (own_at p1 p2)), .unset, .unset] [(.int ((own_vfi (own_k p1)).toInt16.toInt32)), (.ref ak)])) t → Steps p.tables e below (s₁.setTop (entryFrame m #[(.int p1), (.int p2)] maxLocals)) t := by
    intro t k
    refine k11 t ?_
    show Steps p.tables e below (T9.setTop (mkF m 51 #[.val (.int p1), .val (.int p2), .val (.int (own_k p1)), .val (.ref ak), .val (.int (own_vfi (own_k p1))), .val (.int (p2.toInt16.toInt32)), .val (.int (own_at p1 p2)), .unset, .unset] [])) _
    refine XS.aloadN X9.here hx rfl (hb hby at_51) rfl rfl ?_
    show Steps p.tables e below (T9.setTop (mkF m 52 #[.val (.int p1), .val (.int p2), .val (.int (own_k p1)), .val (.ref ak), .val (.int (own_vfi (own_k p1))), .val (.int (p2.toInt16.toInt32)), .val (.int (own_at p1 p2)), .unset, .unset] [(.ref ak)])) _
    refine XS.iload X9.here hx rfl (hb hby at_52) rfl ?_
    show Steps p.tables e below (T9.setTop (mkF m 54 #[.val (.int p1), .val (.int p2), .val (.int (own_k p1)), .val (.ref ak), .val (.int (own_vfi (own_k p1))), .val (.int (p2.toInt16.toInt32)), .val (.int (own_at p1 p2)), .unset, .unset] [(.int (own_vfi (own_k p1))), (.ref ak)])) _
    refine XS.i2s X9.here hx rfl (hb hby at_54) rfl ?_
    exact k
  obtain ⟨cq16, kq16, q16a, q16b, q16c⟩ := isOf hZ e9 Eq3
  obtain ⟨_, _, ⟨T16, L16, k16c, n16⟩, -, X16, ⟨Lc16, hQ16, l16, y16, z16⟩, st16⟩ := X9.virtualBack hx (y := (⟨"com/example/even_keel/evenkeel/protocol/ApiKey", "isFlexible", "(S)Z"⟩ : MethodName)) (z := (⟨"com/example/even_keel/evenkeel/protocol/ApiKey", "isFlexible", "(S)Z"⟩ : MethodName)) hown (mvT hZ (hw _ (List.mem_of_getElem? (i := 11) rfl))) (mvT hZ (hw _ (List.mem_of_getElem? (i := 12) rfl))) (notFace_of_selects (args := #[]) (mvT hZ (hw _ (List.mem_of_getElem? (i := 14) rfl)))) (mvT hZ (hw _ (List.mem_of_getElem? (i := 14) rfl))) (mvT hZ (hw _ (List.mem_of_getElem? (i := 13) rfl))) (by decide) (backOf (W := 0) (own_rmif l Z a0 hw [] ak ((own_vfi (own_k p1)).toInt16.toInt32) (own_vfi (own_k p1)) h0 n0 Z0 Fq3) hZ (hw _ (List.mem_of_getElem? (i := 15) rfl)) (hw _ (List.mem_of_getElem? (i := 6) rfl)) (by decide) (by decide)) q16a q16c (g := (mkF m 55 #[.val (.int p1), .val (.int p2), .val (.int (own_k p1)), .val (.ref ak), .val (.int (own_vfi (own_k p1))), .val (.int (p2.toInt16.toInt32)), .val (.int (own_at p1 p2)), .unset, .unset] [(.int ((own_vfi (own_k p1)).toInt16.toInt32)), (.ref ak)])) rfl (by rw [hml]; rfl) (Steps.refl _) (argsL := [(.int ((own_vfi (own_k p1)).toInt16.toInt32))]) (rest := []) (lenOf own_pd2 rfl) rfl (by show 2 * 0 + _ ≤ _; exact Nat.le_of_eq rfl) (hb hby at_55) (fun _ _ => ⟨rfl, e9, (by decide : 0 + 0 ≤ _), (by decide : 0 + 0 ≤ _)⟩)
  dsimp only [Pt.U, Pt.locs, Pt.cells, Pt.slots] at X16 l16 y16 z16 st16 hQ16
  subst l16 y16 z16
  obtain ⟨rfl, N16q, e16⟩ := hQ16
  have N16 := Fr.app N9 N16q
  have k17 : ∀ t, Steps p.tables e below (T16.setTop (mkF m 58 #[.val (.int p1), .val (.int p2), .val (.int (own_k p1)), .val (.ref ak), .val (.int (own_vfi (own_k p1))), .val (.int (p2.toInt16.toInt32)), .val (.int (own_at p1 p2)), .unset, .unset] [(.int (own_vif ((own_vfi (own_k p1)).toInt16.toInt32) (own_vfi (own_k p1))))])) t → Steps p.tables e below (s₁.setTop (entryFrame m #[(.int p1), (.int p2)] maxLocals)) t := fun t k => k15 t (st16.trans k)
  have k18 : ∀ t, Steps p.tables e below (T16.setTop (mkF m 66 #[.val (.int p1), .val (.int p2), .val (.int (own_k p1)), .val (.ref ak), .val (.int (own_vfi (own_k p1))), .val (.int (p2.toInt16.toInt32)), .val (.int (own_at p1 p2)), .val (.int (own_vif ((own_vfi (own_k p1)).toInt16.toInt32) (own_vfi (own_k p1)))), .unset] [(.int (((own_vfi (own_k p1)) - (1 : Int32)).toInt16.toInt32)), (.ref ak)])) t → Steps p.tables e below (s₁.setTop (entryFrame m #[(.int p1), (.int p2)] maxLocals)) t := by
    intro t k
    refine k17 t ?_
    show Steps p.tables e below (T16.setTop (mkF m 58 #[.val (.int p1), .val (.int p2), .val (.int (own_k p1)), .val (.ref ak), .val (.int (own_vfi (own_k p1))), .val (.int (p2.toInt16.toInt32)), .val (.int (own_at p1 p2)), .unset, .unset] [(.int (own_vif ((own_vfi (own_k p1)).toInt16.toInt32) (own_vfi (own_k p1))))])) _
    refine XS.istore X16.here hx rfl (hb hby at_58) rfl (l' := #[.val (.int p1), .val (.int p2), .val (.int (own_k p1)), .val (.ref ak), .val (.int (own_vfi (own_k p1))), .val (.int (p2.toInt16.toInt32)), .val (.int (own_at p1 p2)), .val (.int (own_vif ((own_vfi (own_k p1)).toInt16.toInt32) (own_vfi (own_k p1)))), .unset]) rfl ?_
    show Steps p.tables e below (T16.setTop (mkF m 60 #[.val (.int p1), .val (.int p2), .val (.int (own_k p1)), .val (.ref ak), .val (.int (own_vfi (own_k p1))), .val (.int (p2.toInt16.toInt32)), .val (.int (own_at p1 p2)), .val (.int (own_vif ((own_vfi (own_k p1)).toInt16.toInt32) (own_vfi (own_k p1)))), .unset] [])) _
    refine XS.aloadN X16.here hx rfl (hb hby at_60) rfl rfl ?_
    show Steps p.tables e below (T16.setTop (mkF m 61 #[.val (.int p1), .val (.int p2), .val (.int (own_k p1)), .val (.ref ak), .val (.int (own_vfi (own_k p1))), .val (.int (p2.toInt16.toInt32)), .val (.int (own_at p1 p2)), .val (.int (own_vif ((own_vfi (own_k p1)).toInt16.toInt32) (own_vfi (own_k p1)))), .unset] [(.ref ak)])) _
    refine XS.iload X16.here hx rfl (hb hby at_61) rfl ?_
    show Steps p.tables e below (T16.setTop (mkF m 63 #[.val (.int p1), .val (.int p2), .val (.int (own_k p1)), .val (.ref ak), .val (.int (own_vfi (own_k p1))), .val (.int (p2.toInt16.toInt32)), .val (.int (own_at p1 p2)), .val (.int (own_vif ((own_vfi (own_k p1)).toInt16.toInt32) (own_vfi (own_k p1)))), .unset] [(.int (own_vfi (own_k p1))), (.ref ak)])) _
    refine XS.iconst X16.here hx rfl (hb hby at_63) ?_
    show Steps p.tables e below (T16.setTop (mkF m 64 #[.val (.int p1), .val (.int p2), .val (.int (own_k p1)), .val (.ref ak), .val (.int (own_vfi (own_k p1))), .val (.int (p2.toInt16.toInt32)), .val (.int (own_at p1 p2)), .val (.int (own_vif ((own_vfi (own_k p1)).toInt16.toInt32) (own_vfi (own_k p1)))), .unset] [(.int (1 : Int32)), (.int (own_vfi (own_k p1))), (.ref ak)])) _
    refine XS.isub X16.here hx rfl (hb hby at_64) rfl ?_
    show Steps p.tables e below (T16.setTop (mkF m 65 #[.val (.int p1), .val (.int p2), .val (.int (own_k p1)), .val (.ref ak), .val (.int (own_vfi (own_k p1))), .val (.int (p2.toInt16.toInt32)), .val (.int (own_at p1 p2)), .val (.int (own_vif ((own_vfi (own_k p1)).toInt16.toInt32) (own_vfi (own_k p1)))), .unset] [(.int ((own_vfi (own_k p1)) - (1 : Int32))), (.ref ak)])) _
    refine XS.i2s X16.here hx rfl (hb hby at_65) rfl ?_
    exact k
  obtain ⟨cq19, kq19, q19a, q19b, q19c⟩ := isOf hZ e16 Eq3
  obtain ⟨_, _, ⟨T19, L19, k19c, n19⟩, -, X19, ⟨Lc19, hQ19, l19, y19, z19⟩, st19⟩ := X16.virtualBack hx (y := (⟨"com/example/even_keel/evenkeel/protocol/ApiKey", "isFlexible", "(S)Z"⟩ : MethodName)) (z := (⟨"com/example/even_keel/evenkeel/protocol/ApiKey", "isFlexible", "(S)Z"⟩ : MethodName)) hown (mvT hZ (hw _ (List.mem_of_getElem? (i := 11) rfl))) (mvT hZ (hw _ (List.mem_of_getElem? (i := 12) rfl))) (notFace_of_selects (args := #[]) (mvT hZ (hw _ (List.mem_of_getElem? (i := 14) rfl)))) (mvT hZ (hw _ (List.mem_of_getElem? (i := 14) rfl))) (mvT hZ (hw _ (List.mem_of_getElem? (i := 13) rfl))) (by decide) (backOf (W := 0) (own_rmif l Z a0 hw [] ak (((own_vfi (own_k p1)) - (1 : Int32)).toInt16.toInt32) (own_vfi (own_k p1)) h0 n0 Z0 Fq3) hZ (hw _ (List.mem_of_getElem? (i := 15) rfl)) (hw _ (List.mem_of_getElem? (i := 6) rfl)) (by decide) (by decide)) q19a q19c (g := (mkF m 66 #[.val (.int p1), .val (.int p2), .val (.int (own_k p1)), .val (.ref ak), .val (.int (own_vfi (own_k p1))), .val (.int (p2.toInt16.toInt32)), .val (.int (own_at p1 p2)), .val (.int (own_vif ((own_vfi (own_k p1)).toInt16.toInt32) (own_vfi (own_k p1)))), .unset] [(.int (((own_vfi (own_k p1)) - (1 : Int32)).toInt16.toInt32)), (.ref ak)])) rfl (by rw [hml]; rfl) (Steps.refl _) (argsL := [(.int (((own_vfi (own_k p1)) - (1 : Int32)).toInt16.toInt32))]) (rest := []) (lenOf own_pd2 rfl) rfl (by show 2 * 0 + _ ≤ _; exact Nat.le_of_eq rfl) (hb hby at_66) (fun _ _ => ⟨rfl, e16, (by decide : 0 + 0 ≤ _), (by decide : 0 + 0 ≤ _)⟩)
  dsimp only [Pt.U, Pt.locs, Pt.cells, Pt.slots] at X19 l19 y19 z19 st19 hQ19
  subst l19 y19 z19
  obtain ⟨rfl, N19q, e19⟩ := hQ19
  have N19 := Fr.app N16 N19q
  have k20 : ∀ t, Steps p.tables e below (T19.setTop (mkF m 69 #[.val (.int p1), .val (.int p2), .val (.int (own_k p1)), .val (.ref ak), .val (.int (own_vfi (own_k p1))), .val (.int (p2.toInt16.toInt32)), .val (.int (own_at p1 p2)), .val (.int (own_vif ((own_vfi (own_k p1)).toInt16.toInt32) (own_vfi (own_k p1)))), .unset] [(.int (own_vif (((own_vfi (own_k p1)) - (1 : Int32)).toInt16.toInt32) (own_vfi (own_k p1))))])) t → Steps p.tables e below (s₁.setTop (entryFrame m #[(.int p1), (.int p2)] maxLocals)) t := fun t k => k18 t (st19.trans k)
  have k21 : ∀ t, Steps p.tables e below (T19.setTop (mkF m 79 #[.val (.int p1), .val (.int p2), .val (.int (own_k p1)), .val (.ref ak), .val (.int (own_vfi (own_k p1))), .val (.int (p2.toInt16.toInt32)), .val (.int (own_at p1 p2)), .val (.int (own_vif ((own_vfi (own_k p1)).toInt16.toInt32) (own_vfi (own_k p1)))), .val (.int (own_bl p1))] [])) t → Steps p.tables e below (s₁.setTop (entryFrame m #[(.int p1), (.int p2)] maxLocals)) t := by
    intro t k
    refine k20 t ?_
    by_cases hc69_22 : (own_vif (((own_vfi (own_k p1)) - (1 : Int32)).toInt16.toInt32) (own_vfi (own_k p1))) = (0 : Int32)
    · show Steps p.tables e below (T19.setTop (mkF m 69 #[.val (.int p1), .val (.int p2), .val (.int (own_k p1)), .val (.ref ak), .val (.int (own_vfi (own_k p1))), .val (.int (p2.toInt16.toInt32)), .val (.int (own_at p1 p2)), .val (.int (own_vif ((own_vfi (own_k p1)).toInt16.toInt32) (own_vfi (own_k p1)))), .unset] [(.int (own_vif (((own_vfi (own_k p1)) - (1 : Int32)).toInt16.toInt32) (own_vfi (own_k p1))))])) _
      refine XS.ifNo X19.here hx rfl (hb hby at_69) rfl ((if0 _ _).trans (teq hc69_22).2) ?_
      show Steps p.tables e below (T19.setTop (mkF m 72 #[.val (.int p1), .val (.int p2), .val (.int (own_k p1)), .val (.ref ak), .val (.int (own_vfi (own_k p1))), .val (.int (p2.toInt16.toInt32)), .val (.int (own_at p1 p2)), .val (.int (own_vif ((own_vfi (own_k p1)).toInt16.toInt32) (own_vfi (own_k p1)))), .unset] [])) _
      refine XS.iconst X19.here hx rfl (hb hby at_72) ?_
      show Steps p.tables e below (T19.setTop (mkF m 73 #[.val (.int p1), .val (.int p2), .val (.int (own_k p1)), .val (.ref ak), .val (.int (own_vfi (own_k p1))), .val (.int (p2.toInt16.toInt32)), .val (.int (own_at p1 p2)), .val (.int (own_vif ((own_vfi (own_k p1)).toInt16.toInt32) (own_vfi (own_k p1)))), .unset] [(.int (1 : Int32))])) _
      refine XS.goto X19.here hx rfl (pc0 := 73) (pc' := 77) rfl (hb hby at_73) (by decide) (by decide) ?_
      show Steps p.tables e below (T19.setTop (mkF m 77 #[.val (.int p1), .val (.int p2), .val (.int (own_k p1)), .val (.ref ak), .val (.int (own_vfi (own_k p1))), .val (.int (p2.toInt16.toInt32)), .val (.int (own_at p1 p2)), .val (.int (own_vif ((own_vfi (own_k p1)).toInt16.toInt32) (own_vfi (own_k p1)))), .unset] [(.int (1 : Int32))])) _
      refine XS.istore X19.here hx rfl (hb hby at_77) rfl (l' := #[.val (.int p1), .val (.int p2), .val (.int (own_k p1)), .val (.ref ak), .val (.int (own_vfi (own_k p1))), .val (.int (p2.toInt16.toInt32)), .val (.int (own_at p1 p2)), .val (.int (own_vif ((own_vfi (own_k p1)).toInt16.toInt32) (own_vfi (own_k p1)))), .val (.int (1 : Int32))]) rfl ?_
      have q0 : (own_bl p1) = (1 : Int32) := (if_pos hc69_22)
      rw [q0] at k
      exact k
    · show Steps p.tables e below (T19.setTop (mkF m 69 #[.val (.int p1), .val (.int p2), .val (.int (own_k p1)), .val (.ref ak), .val (.int (own_vfi (own_k p1))), .val (.int (p2.toInt16.toInt32)), .val (.int (own_at p1 p2)), .val (.int (own_vif ((own_vfi (own_k p1)).toInt16.toInt32) (own_vfi (own_k p1)))), .unset] [(.int (own_vif (((own_vfi (own_k p1)) - (1 : Int32)).toInt16.toInt32) (own_vfi (own_k p1))))])) _
      refine XS.ifYes X19.here hx rfl (pc0 := 69) (pc' := 76) rfl (hb hby at_69) rfl ((if0 _ _).trans (feq hc69_22).2) (by decide) (by decide) ?_
      show Steps p.tables e below (T19.setTop (mkF m 76 #[.val (.int p1), .val (.int p2), .val (.int (own_k p1)), .val (.ref ak), .val (.int (own_vfi (own_k p1))), .val (.int (p2.toInt16.toInt32)), .val (.int (own_at p1 p2)), .val (.int (own_vif ((own_vfi (own_k p1)).toInt16.toInt32) (own_vfi (own_k p1)))), .unset] [])) _
      refine XS.iconst X19.here hx rfl (hb hby at_76) ?_
      show Steps p.tables e below (T19.setTop (mkF m 77 #[.val (.int p1), .val (.int p2), .val (.int (own_k p1)), .val (.ref ak), .val (.int (own_vfi (own_k p1))), .val (.int (p2.toInt16.toInt32)), .val (.int (own_at p1 p2)), .val (.int (own_vif ((own_vfi (own_k p1)).toInt16.toInt32) (own_vfi (own_k p1)))), .unset] [(.int (0 : Int32))])) _
      refine XS.istore X19.here hx rfl (hb hby at_77) rfl (l' := #[.val (.int p1), .val (.int p2), .val (.int (own_k p1)), .val (.ref ak), .val (.int (own_vfi (own_k p1))), .val (.int (p2.toInt16.toInt32)), .val (.int (own_at p1 p2)), .val (.int (own_vif ((own_vfi (own_k p1)).toInt16.toInt32) (own_vfi (own_k p1)))), .val (.int (0 : Int32))]) rfl ?_
      have q0 : (own_bl p1) = (0 : Int32) := (if_neg hc69_22)
      rw [q0] at k
      exact k
  have k23 : ∀ t, Steps p.tables e below (T19.setTop (mkF m 81 #[.val (.int p1), .val (.int p2), .val (.int (own_k p1)), .val (.ref ak), .val (.int (own_vfi (own_k p1))), .val (.int (p2.toInt16.toInt32)), .val (.int (own_at p1 p2)), .val (.int (own_vif ((own_vfi (own_k p1)).toInt16.toInt32) (own_vfi (own_k p1)))), .val (.int (own_bl p1))] [(.int (own_at p1 p2))])) t → Steps p.tables e below (s₁.setTop (entryFrame m #[(.int p1), (.int p2)] maxLocals)) t := by
    intro t k
    refine k21 t ?_
    show Steps p.tables e below (T19.setTop (mkF m 79 #[.val (.int p1), .val (.int p2), .val (.int (own_k p1)), .val (.ref ak), .val (.int (own_vfi (own_k p1))), .val (.int (p2.toInt16.toInt32)), .val (.int (own_at p1 p2)), .val (.int (own_vif ((own_vfi (own_k p1)).toInt16.toInt32) (own_vfi (own_k p1)))), .val (.int (own_bl p1))] [])) _
    refine XS.iload X19.here hx rfl (hb hby at_79) rfl ?_
    exact k
  by_cases hc81_24 : (own_at p1 p2) = (0 : Int32)
  · have k25 : ∀ t, Steps p.tables e below (T19.setTop (mkF m 99 #[.val (.int p1), .val (.int p2), .val (.int (own_k p1)), .val (.ref ak), .val (.int (own_vfi (own_k p1))), .val (.int (p2.toInt16.toInt32)), .val (.int (own_at p1 p2)), .val (.int (own_vif ((own_vfi (own_k p1)).toInt16.toInt32) (own_vfi (own_k p1)))), .val (.int (own_bl p1))] [(.int (0 : Int32))])) t → Steps p.tables e below (s₁.setTop (entryFrame m #[(.int p1), (.int p2)] maxLocals)) t := by
      intro t k
      refine k23 t ?_
      show Steps p.tables e below (T19.setTop (mkF m 81 #[.val (.int p1), .val (.int p2), .val (.int (own_k p1)), .val (.ref ak), .val (.int (own_vfi (own_k p1))), .val (.int (p2.toInt16.toInt32)), .val (.int (own_at p1 p2)), .val (.int (own_vif ((own_vfi (own_k p1)).toInt16.toInt32) (own_vfi (own_k p1)))), .val (.int (own_bl p1))] [(.int (own_at p1 p2))])) _
      refine XS.ifYes X19.here hx rfl (pc0 := 81) (pc' := 98) rfl (hb hby at_81) rfl ((if0 _ _).trans (teq hc81_24).1) (by decide) (by decide) ?_
      show Steps p.tables e below (T19.setTop (mkF m 98 #[.val (.int p1), .val (.int p2), .val (.int (own_k p1)), .val (.ref ak), .val (.int (own_vfi (own_k p1))), .val (.int (p2.toInt16.toInt32)), .val (.int (own_at p1 p2)), .val (.int (own_vif ((own_vfi (own_k p1)).toInt16.toInt32) (own_vfi (own_k p1)))), .val (.int (own_bl p1))] [])) _
      refine XS.iconst X19.here hx rfl (hb hby at_98) ?_
      exact k
    obtain ⟨fs, hr, hrun, hended, hW, hsame⟩ := X19.leave (v := (some (.int (0 : Int32)))) (fun h => by rw [Bd.returns] at h; cases h)
    refine ⟨_, _, k25 _ ?_, hrun, hended, _, _, rfl, ?_, ⟨_, rfl⟩, hW, hsame.mono (by decide) (by decide)⟩
    · exact retN X19 hx (t := .boolean) Bd.returns (by simp) (hb hby at_99) hr
    · have hv : (own_v0 p1 p2) = (0 : Int32) := (if_pos hc81_24)
      have h1 : (0 : Int32) = (1 : Int32) := hv.symm.trans hone
      exact ⟨congrArg (fun z => some (Value.int z)) h1, N19⟩
  · have k26 : ∀ t, Steps p.tables e below (T19.setTop (mkF m 86 #[.val (.int p1), .val (.int p2), .val (.int (own_k p1)), .val (.ref ak), .val (.int (own_vfi (own_k p1))), .val (.int (p2.toInt16.toInt32)), .val (.int (own_at p1 p2)), .val (.int (own_vif ((own_vfi (own_k p1)).toInt16.toInt32) (own_vfi (own_k p1)))), .val (.int (own_bl p1))] [(.int (own_vif ((own_vfi (own_k p1)).toInt16.toInt32) (own_vfi (own_k p1))))])) t → Steps p.tables e below (s₁.setTop (entryFrame m #[(.int p1), (.int p2)] maxLocals)) t := by
      intro t k
      refine k23 t ?_
      show Steps p.tables e below (T19.setTop (mkF m 81 #[.val (.int p1), .val (.int p2), .val (.int (own_k p1)), .val (.ref ak), .val (.int (own_vfi (own_k p1))), .val (.int (p2.toInt16.toInt32)), .val (.int (own_at p1 p2)), .val (.int (own_vif ((own_vfi (own_k p1)).toInt16.toInt32) (own_vfi (own_k p1)))), .val (.int (own_bl p1))] [(.int (own_at p1 p2))])) _
      refine XS.ifNo X19.here hx rfl (hb hby at_81) rfl ((if0 _ _).trans (feq hc81_24).1) ?_
      show Steps p.tables e below (T19.setTop (mkF m 84 #[.val (.int p1), .val (.int p2), .val (.int (own_k p1)), .val (.ref ak), .val (.int (own_vfi (own_k p1))), .val (.int (p2.toInt16.toInt32)), .val (.int (own_at p1 p2)), .val (.int (own_vif ((own_vfi (own_k p1)).toInt16.toInt32) (own_vfi (own_k p1)))), .val (.int (own_bl p1))] [])) _
      refine XS.iload X19.here hx rfl (hb hby at_84) rfl ?_
      exact k
    by_cases hc86_27 : (own_vif ((own_vfi (own_k p1)).toInt16.toInt32) (own_vfi (own_k p1))) = (0 : Int32)
    · have k28 : ∀ t, Steps p.tables e below (T19.setTop (mkF m 99 #[.val (.int p1), .val (.int p2), .val (.int (own_k p1)), .val (.ref ak), .val (.int (own_vfi (own_k p1))), .val (.int (p2.toInt16.toInt32)), .val (.int (own_at p1 p2)), .val (.int (own_vif ((own_vfi (own_k p1)).toInt16.toInt32) (own_vfi (own_k p1)))), .val (.int (own_bl p1))] [(.int (0 : Int32))])) t → Steps p.tables e below (s₁.setTop (entryFrame m #[(.int p1), (.int p2)] maxLocals)) t := by
        intro t k
        refine k26 t ?_
        show Steps p.tables e below (T19.setTop (mkF m 86 #[.val (.int p1), .val (.int p2), .val (.int (own_k p1)), .val (.ref ak), .val (.int (own_vfi (own_k p1))), .val (.int (p2.toInt16.toInt32)), .val (.int (own_at p1 p2)), .val (.int (own_vif ((own_vfi (own_k p1)).toInt16.toInt32) (own_vfi (own_k p1)))), .val (.int (own_bl p1))] [(.int (own_vif ((own_vfi (own_k p1)).toInt16.toInt32) (own_vfi (own_k p1))))])) _
        refine XS.ifYes X19.here hx rfl (pc0 := 86) (pc' := 98) rfl (hb hby at_86) rfl ((if0 _ _).trans (teq hc86_27).1) (by decide) (by decide) ?_
        show Steps p.tables e below (T19.setTop (mkF m 98 #[.val (.int p1), .val (.int p2), .val (.int (own_k p1)), .val (.ref ak), .val (.int (own_vfi (own_k p1))), .val (.int (p2.toInt16.toInt32)), .val (.int (own_at p1 p2)), .val (.int (own_vif ((own_vfi (own_k p1)).toInt16.toInt32) (own_vfi (own_k p1)))), .val (.int (own_bl p1))] [])) _
        refine XS.iconst X19.here hx rfl (hb hby at_98) ?_
        exact k
      obtain ⟨fs, hr, hrun, hended, hW, hsame⟩ := X19.leave (v := (some (.int (0 : Int32)))) (fun h => by rw [Bd.returns] at h; cases h)
      refine ⟨_, _, k28 _ ?_, hrun, hended, _, _, rfl, ?_, ⟨_, rfl⟩, hW, hsame.mono (by decide) (by decide)⟩
      · exact retN X19 hx (t := .boolean) Bd.returns (by simp) (hb hby at_99) hr
      · have hv : (own_v0 p1 p2) = (0 : Int32) := ((if_neg hc81_24).trans (if_pos hc86_27))
        have h1 : (0 : Int32) = (1 : Int32) := hv.symm.trans hone
        exact ⟨congrArg (fun z => some (Value.int z)) h1, N19⟩
    · have k29 : ∀ t, Steps p.tables e below (T19.setTop (mkF m 91 #[.val (.int p1), .val (.int p2), .val (.int (own_k p1)), .val (.ref ak), .val (.int (own_vfi (own_k p1))), .val (.int (p2.toInt16.toInt32)), .val (.int (own_at p1 p2)), .val (.int (own_vif ((own_vfi (own_k p1)).toInt16.toInt32) (own_vfi (own_k p1)))), .val (.int (own_bl p1))] [(.int (own_bl p1))])) t → Steps p.tables e below (s₁.setTop (entryFrame m #[(.int p1), (.int p2)] maxLocals)) t := by
        intro t k
        refine k26 t ?_
        show Steps p.tables e below (T19.setTop (mkF m 86 #[.val (.int p1), .val (.int p2), .val (.int (own_k p1)), .val (.ref ak), .val (.int (own_vfi (own_k p1))), .val (.int (p2.toInt16.toInt32)), .val (.int (own_at p1 p2)), .val (.int (own_vif ((own_vfi (own_k p1)).toInt16.toInt32) (own_vfi (own_k p1)))), .val (.int (own_bl p1))] [(.int (own_vif ((own_vfi (own_k p1)).toInt16.toInt32) (own_vfi (own_k p1))))])) _
        refine XS.ifNo X19.here hx rfl (hb hby at_86) rfl ((if0 _ _).trans (feq hc86_27).1) ?_
        show Steps p.tables e below (T19.setTop (mkF m 89 #[.val (.int p1), .val (.int p2), .val (.int (own_k p1)), .val (.ref ak), .val (.int (own_vfi (own_k p1))), .val (.int (p2.toInt16.toInt32)), .val (.int (own_at p1 p2)), .val (.int (own_vif ((own_vfi (own_k p1)).toInt16.toInt32) (own_vfi (own_k p1)))), .val (.int (own_bl p1))] [])) _
        refine XS.iload X19.here hx rfl (hb hby at_89) rfl ?_
        exact k
      by_cases hc91_30 : (own_bl p1) = (0 : Int32)
      · have k31 : ∀ t, Steps p.tables e below (T19.setTop (mkF m 99 #[.val (.int p1), .val (.int p2), .val (.int (own_k p1)), .val (.ref ak), .val (.int (own_vfi (own_k p1))), .val (.int (p2.toInt16.toInt32)), .val (.int (own_at p1 p2)), .val (.int (own_vif ((own_vfi (own_k p1)).toInt16.toInt32) (own_vfi (own_k p1)))), .val (.int (own_bl p1))] [(.int (0 : Int32))])) t → Steps p.tables e below (s₁.setTop (entryFrame m #[(.int p1), (.int p2)] maxLocals)) t := by
          intro t k
          refine k29 t ?_
          show Steps p.tables e below (T19.setTop (mkF m 91 #[.val (.int p1), .val (.int p2), .val (.int (own_k p1)), .val (.ref ak), .val (.int (own_vfi (own_k p1))), .val (.int (p2.toInt16.toInt32)), .val (.int (own_at p1 p2)), .val (.int (own_vif ((own_vfi (own_k p1)).toInt16.toInt32) (own_vfi (own_k p1)))), .val (.int (own_bl p1))] [(.int (own_bl p1))])) _
          refine XS.ifYes X19.here hx rfl (pc0 := 91) (pc' := 98) rfl (hb hby at_91) rfl ((if0 _ _).trans (teq hc91_30).1) (by decide) (by decide) ?_
          show Steps p.tables e below (T19.setTop (mkF m 98 #[.val (.int p1), .val (.int p2), .val (.int (own_k p1)), .val (.ref ak), .val (.int (own_vfi (own_k p1))), .val (.int (p2.toInt16.toInt32)), .val (.int (own_at p1 p2)), .val (.int (own_vif ((own_vfi (own_k p1)).toInt16.toInt32) (own_vfi (own_k p1)))), .val (.int (own_bl p1))] [])) _
          refine XS.iconst X19.here hx rfl (hb hby at_98) ?_
          exact k
        obtain ⟨fs, hr, hrun, hended, hW, hsame⟩ := X19.leave (v := (some (.int (0 : Int32)))) (fun h => by rw [Bd.returns] at h; cases h)
        refine ⟨_, _, k31 _ ?_, hrun, hended, _, _, rfl, ?_, ⟨_, rfl⟩, hW, hsame.mono (by decide) (by decide)⟩
        · exact retN X19 hx (t := .boolean) Bd.returns (by simp) (hb hby at_99) hr
        · have hv : (own_v0 p1 p2) = (0 : Int32) := ((if_neg hc81_24).trans ((if_neg hc86_27).trans (if_pos hc91_30)))
          have h1 : (0 : Int32) = (1 : Int32) := hv.symm.trans hone
          exact ⟨congrArg (fun z => some (Value.int z)) h1, N19⟩
      · have k32 : ∀ t, Steps p.tables e below (T19.setTop (mkF m 99 #[.val (.int p1), .val (.int p2), .val (.int (own_k p1)), .val (.ref ak), .val (.int (own_vfi (own_k p1))), .val (.int (p2.toInt16.toInt32)), .val (.int (own_at p1 p2)), .val (.int (own_vif ((own_vfi (own_k p1)).toInt16.toInt32) (own_vfi (own_k p1)))), .val (.int (own_bl p1))] [(.int (1 : Int32))])) t → Steps p.tables e below (s₁.setTop (entryFrame m #[(.int p1), (.int p2)] maxLocals)) t := by
          intro t k
          refine k29 t ?_
          show Steps p.tables e below (T19.setTop (mkF m 91 #[.val (.int p1), .val (.int p2), .val (.int (own_k p1)), .val (.ref ak), .val (.int (own_vfi (own_k p1))), .val (.int (p2.toInt16.toInt32)), .val (.int (own_at p1 p2)), .val (.int (own_vif ((own_vfi (own_k p1)).toInt16.toInt32) (own_vfi (own_k p1)))), .val (.int (own_bl p1))] [(.int (own_bl p1))])) _
          refine XS.ifNo X19.here hx rfl (hb hby at_91) rfl ((if0 _ _).trans (feq hc91_30).1) ?_
          show Steps p.tables e below (T19.setTop (mkF m 94 #[.val (.int p1), .val (.int p2), .val (.int (own_k p1)), .val (.ref ak), .val (.int (own_vfi (own_k p1))), .val (.int (p2.toInt16.toInt32)), .val (.int (own_at p1 p2)), .val (.int (own_vif ((own_vfi (own_k p1)).toInt16.toInt32) (own_vfi (own_k p1)))), .val (.int (own_bl p1))] [])) _
          refine XS.iconst X19.here hx rfl (hb hby at_94) ?_
          show Steps p.tables e below (T19.setTop (mkF m 95 #[.val (.int p1), .val (.int p2), .val (.int (own_k p1)), .val (.ref ak), .val (.int (own_vfi (own_k p1))), .val (.int (p2.toInt16.toInt32)), .val (.int (own_at p1 p2)), .val (.int (own_vif ((own_vfi (own_k p1)).toInt16.toInt32) (own_vfi (own_k p1)))), .val (.int (own_bl p1))] [(.int (1 : Int32))])) _
          refine XS.goto X19.here hx rfl (pc0 := 95) (pc' := 99) rfl (hb hby at_95) (by decide) (by decide) ?_
          exact k
        obtain ⟨fs, hr, hrun, hended, hW, hsame⟩ := X19.leave (v := (some (.int (1 : Int32)))) (fun h => by rw [Bd.returns] at h; cases h)
        refine ⟨_, _, k32 _ ?_, hrun, hended, _, _, rfl, ?_, ⟨_, rfl⟩, hW, hsame.mono (by decide) (by decide)⟩
        · exact retN X19 hx (t := .boolean) Bd.returns (by simp) (hb hby at_99) hr
        · have hv : (own_v0 p1 p2) = (1 : Int32) := ((if_neg hc81_24).trans ((if_neg hc86_27).trans (if_neg hc91_30)))
          have h1 : (1 : Int32) = (1 : Int32) := hv.symm.trans hone
          exact ⟨congrArg (fun z => some (Value.int z)) h1, N19⟩
set_option maxRecDepth 65536 in
set_option maxHeartbeats 40000000 in
theorem comes_1 {Post : Tables → Env → Array Value → State → Outcome → State → Prop} (hpost : ∀ tb e args s v u, (limb_1_1.after args s (.returned v) u = true ∧ limb_1_2.after args s (.returned v) u = true ∧ True) → FrameEnd s (.returned v) u (Jvm.fieldLocs frame_1_writes args s ++ Jvm.arrayLocs frame_1_arrays args s ++ Jvm.staticLocs frame_1_statics s) 0 0 → Post tb e args s (.returned v) u) :
    ArmFor flags0 classFile x code maxLocals ret World_1 tables_1 room_1 Calls_1 rest_1 Pre_1 Post := by
  intro l hfl _ _ p e ha hc hk s m args below hf hA hF happ hP
  obtain ⟨hcalls, hrest, hpre⟩ := hP
  obtain ⟨-, -, -, hnamed, -, -, -, hat⟩ := (Spec.applies_iff hf).mp happ
  obtain ⟨hg, hn⟩ := and_e (Cond.before_iff.mp (show (Jvm.Cond.and given_1 narrow_1).before args s = true from hpre))
  obtain ⟨hg0, hg⟩ := and_e hg
  obtain ⟨hi0, hg⟩ := and_e hg
  have hi1 := hg
  obtain ⟨w0, w1, rfl⟩ : ∃ w0 w1 : Value, args = #[w0, w1] := by
    have hs : args.size = 2 := by simpa [Cond.value, given_1] using hg0
    obtain ⟨L⟩ := args
    match L, hs with
    | [w0, w1], _ => exact ⟨w0, w1, rfl⟩
  have hw := fun d (hd : d ∈ tables_1) => atoms_spec (ws := Jvm.Cond.code x code maxLocals ret :: tables_1) hat d (List.mem_cons_of_mem _ hd)
  obtain ⟨p1, ev0⟩ := is_v hi0
  obtain rfl : w0 = (.int p1) := Option.some.inj ev0
  obtain ⟨p2, ev1⟩ := is_v hi1
  obtain rfl : w1 = (.int p2) := Option.some.inj ev1
  have own_eqint : ∀ {A : Array Value} {t : Term} {n : Int32}, (Cond.eq t (.int n)).value A s none s [] = some true → t.eval A s none [] s = some (.int n) := by
    intro A t n h
    obtain ⟨x, y, hx, hy, k1, k2⟩ := cmp_v (Or.inl h)
    obtain rfl : y = .int n := Option.some.inj (hy.symm.trans (Term.int_eval n))
    obtain ⟨z, rfl⟩ := k2
    rw [hx, gotT (Cond.eq_ints hx (Term.int_eval n)) h]
  obtain ⟨hn0, hn⟩ := and_e hn
  obtain ⟨hn1, hn⟩ := and_e hn
  obtain ⟨hn2, hn⟩ := and_e hn
  obtain ⟨hn3, hn⟩ := and_e hn
  obtain ⟨hn4, hn⟩ := and_e hn
  obtain ⟨hn5, hn⟩ := and_e hn
  obtain ⟨hn6, hn⟩ := and_e hn
  obtain ⟨hn7, hn⟩ := and_e hn
  obtain ⟨hn8, hn⟩ := and_e hn
  obtain ⟨hn9, hn⟩ := and_e hn
  obtain ⟨hn10, hn⟩ := and_e hn
  obtain ⟨hn11, hn⟩ := and_e hn
  obtain ⟨hn12, hn⟩ := and_e hn
  obtain ⟨hn13, hn⟩ := and_e hn
  obtain ⟨hn14, hn⟩ := and_e hn
  obtain ⟨hn15, hn⟩ := and_e hn
  obtain ⟨hn16, hn⟩ := and_e hn
  obtain ⟨hn17, hn⟩ := and_e hn
  obtain ⟨hn18, hn⟩ := and_e hn
  obtain ⟨hn19, hn⟩ := and_e hn
  obtain ⟨hn20, hn⟩ := and_e hn
  obtain ⟨hn21, hn⟩ := and_e hn
  obtain ⟨hn22, hn⟩ := and_e hn
  obtain ⟨hn23, hn⟩ := and_e hn
  obtain ⟨hn24, hn⟩ := and_e hn
  obtain ⟨hn25, hn⟩ := and_e hn
  obtain ⟨hn26, hn⟩ := and_e hn
  have hn27 := hn
  obtain ⟨s0, es0⟩ := exa_v hn0
  have S0 := Sta.start es0 (Or.inr ⟨(hw _ (List.mem_of_getElem? (i := 6) rfl)), (hw _ (List.mem_of_getElem? (i := 7) rfl))⟩)
  have E0 := Exa.start es0 hn0
  have F0 := Fld.start ((fld_at es0).symm.trans (own_eqint hn1))
  obtain ⟨s1, es1⟩ := exa_v hn20
  have S1 := Sta.start es1 (Or.inr ⟨(hw _ (List.mem_of_getElem? (i := 6) rfl)), (hw _ (List.mem_of_getElem? (i := 37) rfl))⟩)
  have E1 := Exa.start es1 hn20
  have F1 := Fld.start ((fld_at es1).symm.trans (own_eqint hn21))
  obtain ⟨s2, es2⟩ := exa_v hn22
  have S2 := Sta.start es2 (Or.inr ⟨(hw _ (List.mem_of_getElem? (i := 6) rfl)), (hw _ (List.mem_of_getElem? (i := 39) rfl))⟩)
  have E2 := Exa.start es2 hn22
  have F2 := Fld.start ((fld_at es2).symm.trans (own_eqint hn23))
  obtain ⟨s3, es3⟩ := exa_v hn16
  have S3 := Sta.start es3 (Or.inr ⟨(hw _ (List.mem_of_getElem? (i := 6) rfl)), (hw _ (List.mem_of_getElem? (i := 33) rfl))⟩)
  have E3 := Exa.start es3 hn16
  have F3 := Fld.start ((fld_at es3).symm.trans (own_eqint hn17))
  obtain ⟨s4, es4⟩ := exa_v hn6
  have S4 := Sta.start es4 (Or.inr ⟨(hw _ (List.mem_of_getElem? (i := 6) rfl)), (hw _ (List.mem_of_getElem? (i := 23) rfl))⟩)
  have E4 := Exa.start es4 hn6
  have F4 := Fld.start ((fld_at es4).symm.trans (own_eqint hn7))
  obtain ⟨s5, es5⟩ := exa_v hn18
  have S5 := Sta.start es5 (Or.inr ⟨(hw _ (List.mem_of_getElem? (i := 6) rfl)), (hw _ (List.mem_of_getElem? (i := 35) rfl))⟩)
  have E5 := Exa.start es5 hn18
  have F5 := Fld.start ((fld_at es5).symm.trans (own_eqint hn19))
  obtain ⟨s6, es6⟩ := exa_v hn10
  have S6 := Sta.start es6 (Or.inr ⟨(hw _ (List.mem_of_getElem? (i := 6) rfl)), (hw _ (List.mem_of_getElem? (i := 27) rfl))⟩)
  have E6 := Exa.start es6 hn10
  have F6 := Fld.start ((fld_at es6).symm.trans (own_eqint hn11))
  obtain ⟨s7, es7⟩ := exa_v hn14
  have S7 := Sta.start es7 (Or.inr ⟨(hw _ (List.mem_of_getElem? (i := 6) rfl)), (hw _ (List.mem_of_getElem? (i := 31) rfl))⟩)
  have E7 := Exa.start es7 hn14
  have F7 := Fld.start ((fld_at es7).symm.trans (own_eqint hn15))
  obtain ⟨s8, es8⟩ := exa_v hn4
  have S8 := Sta.start es8 (Or.inr ⟨(hw _ (List.mem_of_getElem? (i := 6) rfl)), (hw _ (List.mem_of_getElem? (i := 21) rfl))⟩)
  have E8 := Exa.start es8 hn4
  have F8 := Fld.start ((fld_at es8).symm.trans (own_eqint hn5))
  obtain ⟨s9, es9⟩ := exa_v hn26
  have S9 := Sta.start es9 (Or.inr ⟨(hw _ (List.mem_of_getElem? (i := 6) rfl)), (hw _ (List.mem_of_getElem? (i := 43) rfl))⟩)
  have E9 := Exa.start es9 hn26
  have F9 := Fld.start ((fld_at es9).symm.trans (own_eqint hn27))
  obtain ⟨s10, es10⟩ := exa_v hn2
  have S10 := Sta.start es10 (Or.inr ⟨(hw _ (List.mem_of_getElem? (i := 6) rfl)), (hw _ (List.mem_of_getElem? (i := 19) rfl))⟩)
  have E10 := Exa.start es10 hn2
  have F10 := Fld.start ((fld_at es10).symm.trans (own_eqint hn3))
  obtain ⟨s11, es11⟩ := exa_v hn8
  have S11 := Sta.start es11 (Or.inr ⟨(hw _ (List.mem_of_getElem? (i := 6) rfl)), (hw _ (List.mem_of_getElem? (i := 25) rfl))⟩)
  have E11 := Exa.start es11 hn8
  have F11 := Fld.start ((fld_at es11).symm.trans (own_eqint hn9))
  obtain ⟨s12, es12⟩ := exa_v hn12
  have S12 := Sta.start es12 (Or.inr ⟨(hw _ (List.mem_of_getElem? (i := 6) rfl)), (hw _ (List.mem_of_getElem? (i := 29) rfl))⟩)
  have E12 := Exa.start es12 hn12
  have F12 := Fld.start ((fld_at es12).symm.trans (own_eqint hn13))
  obtain ⟨s13, es13⟩ := exa_v hn24
  have S13 := Sta.start es13 (Or.inr ⟨(hw _ (List.mem_of_getElem? (i := 6) rfl)), (hw _ (List.mem_of_getElem? (i := 41) rfl))⟩)
  have E13 := Exa.start es13 hn24
  have F13 := Fld.start ((fld_at es13).symm.trans (own_eqint hn25))
  obtain ⟨n, o, h1, h2, h3, _, L, rfl, ⟨rfl, N⟩, hq⟩ := own_rm0 l s _ hw tables_1 p1 p2 s0 s1 s2 s3 s4 s5 s6 s7 s8 s9 s10 s11 s12 s13 s.heap s.heap.size (Nat.le_refl _) S0 E0 F0 S1 E1 F1 S2 E2 F2 S3 E3 F3 S4 E4 F4 S5 E5 F5 S6 E6 F6 S7 E7 F7 S8 E8 F8 S9 E9 F9 S10 E10 F10 S11 E11 F11 S12 E12 F12 S13 E13 F13 (own_one p1 p2) p e ha hc hk s m _ below hf ((Spec.applies_iff_loose hf).mp happ).1 ⟨rfl, State.Warmed39.refl s, rfl⟩ trivial
  refine ⟨n, _, h1, h2, h3, hpost _ _ _ _ _ _ ⟨Cond.after_iff.mpr rfl, Cond.after_iff.mpr (eq_i res_at (Term.int_eval (1)) rfl), trivial⟩ ⟨hq.1, hq.2.1, (hq.2.2.sift fun y hy => Or.inr (N y hy)).mono (by decide) (by decide)⟩⟩
theorem main_1_1 : Claimed_1_1 := comes_1 fun _ _ _ _ _ _ h hF => ⟨h.1, hF⟩
theorem main_1_2 : Claimed_1_2 := comes_1 fun _ _ _ _ _ _ h hF => ⟨h.2.1, hF⟩
end Jvm.Pilot.@@N@@
namespace Jvm.Pilot.@@N@@
open Jvm Jvm.ClassFile Sem Op Lib Jvm.Free Jvm.Stand Jvm.Pilot.@@N@@.Jvm.D
/-! MADE BY PROGRAM (witnessworld.py) out of the Statement's table words and the real class files: 12 classes; the members and pool entries that the words name. The judged class is class 1, her method 3. -/
namespace start1
open Jvm.ClassFile
def u (s : String) : CpInfo := .utf8 (stringToUtf16 s)
/-- a pool by its gaps: so many unusable entries, then the entry; so many at the end -/
def gap : Nat → List CpInfo → List CpInfo
  | 0, r => r
  | n + 1, r => .unusable :: gap n r
def poolList (es : List (Nat × CpInfo)) (last : Nat) : List CpInfo := es.foldr (fun e r => gap e.1 (e.2 :: r)) (gap last [])
def pool (es : List (Nat × CpInfo)) (last : Nat) : Array CpInfo := ⟨poolList es last⟩
def fileOf (pool : Array CpInfo) (this : Nat) (attrs : Array Attribute := #[]) (ms : Array MethodInfo := #[]) (fl : Nat := 33) (sup : Nat := 0) (ifs : Array Nat := #[]) (fds : Array FieldInfo := #[]) : ClassFile where
  minorVersion := 0
  majorVersion := 65
  constantPool := pool
  accessFlags := fl
  thisClass := this
  superClass := sup
  interfaces := ifs
  fields := fds
  methods := ms
  attributes := attrs
def plain (name : String) (sup : Option ClassId) : Class where
  name := name
  kind := .ordinary
  loader := none
  accessFlags := 33
  super := sup
  interfaces := #[]
  cf := none
  fields := #[]
  methods := #[]
  instanceTypes := #[]
  staticTypes := #[]
  resolved := #[]
  callSites := []
  init := .initialized
  statics := none
  mirror := none

def pool0 : Array CpInfo := pool [(5, u "<init>"), (0, u "()V"), (1, .class_ 10), (1, u "java/lang/Object")] 113

def k0m0 : Method := { name := "<init>", desc := "()V", sig := { parameters := [], returnType := none }, accessFlags := 1, code := none }
/-- java/lang/Object -/
def k0 : Class := { plain "java/lang/Object" none with
  accessFlags := 33
  interfaces := #[]
  cf := some (fileOf pool0 8 #[] #[{ accessFlags := 1, nameIndex := 5, descriptorIndex := 6, attributes := #[] }] 33 0 #[] #[])
  fields := #[]
  methods := #[k0m0]
  instanceTypes := #[]
  staticTypes := #[]
  resolved := Array.replicate 124 none
  statics := none }

def pool1 : Array CpInfo := pool [(2, .class_ 4), (1, u "java/lang/Object"), (0, u "<init>"), (0, u "()V"), (0, .fieldref 8 9), (0, .class_ 10), (0, .nameAndType 11 12), (0, u "com/example/even_keel/evenkeel/protocol/ApiKey"), (0, u "FETCH"), (0, u "Lcom/example/even_keel/evenkeel/protocol/ApiKey;"), (0, .fieldref 8 14), (0, .nameAndType 15 12), (0, u "LIST_OFFSETS"), (0, .fieldref 8 17), (0, .nameAndType 18 12), (0, u "METADATA"), (0, .fieldref 8 20), (0, .nameAndType 21 12), (0, u "OFFSET_COMMIT"), (0, .fieldref 8 23), (0, .nameAndType 24 12), (0, u "OFFSET_FETCH"), (0, .fieldref 8 26), (0, .nameAndType 27 12), (0, u "FIND_COORDINATOR"), (0, .fieldref 8 29), (0, .nameAndType 30 12), (0, u "JOIN_GROUP"), (0, .fieldref 8 32), (0, .nameAndType 33 12), (0, u "HEARTBEAT"), (0, .fieldref 8 35), (0, .nameAndType 36 12), (0, u "LEAVE_GROUP"), (0, .fieldref 8 38), (0, .nameAndType 39 12), (0, u "SYNC_GROUP"), (0, .fieldref 8 41), (0, .nameAndType 42 12), (0, u "DESCRIBE_GROUPS"), (0, .fieldref 8 44), (0, .nameAndType 45 12), (0, u "LIST_GROUPS"), (0, .fieldref 8 47), (0, .nameAndType 48 12), (0, u "API_VERSIONS"), (0, .fieldref 8 50), (0, .nameAndType 51 12), (0, u "DELETE_GROUPS"), (0, .integer 2147483647), (0, .methodref 54 55), (0, .class_ 56), (0, .nameAndType 57 58), (0, u "com/example/even_keel/evenkeel/protocol/ApiKeyIsFlexiblePinLaw"), (0, u "pick"), (0, u "(I)Lcom/example/even_keel/evenkeel/protocol/ApiKey;"), (0, .methodref 54 60), (0, .nameAndType 61 62), (0, u "first"), (0, u "(I)I"), (0, .methodref 8 64), (0, .nameAndType 65 66), (0, u "isFlexible"), (0, u "(S)Z"), (3, u "law"), (0, u "(II)Z")] 2

def k1m0 : Method := { name := "<init>", desc := "()V", sig := { parameters := [], returnType := none }, accessFlags := 1, code := none }
def k1c1 : Code := { maxStack := 2, maxLocals := 1, code := method_2_code, exceptionTable := #[], attributes := #[] }
def k1m1 : Method := { name := "pick", desc := "(I)Lcom/example/even_keel/evenkeel/protocol/ApiKey;", sig := { parameters := [.int], returnType := some (.object "com/example/even_keel/evenkeel/protocol/ApiKey") }, accessFlags := 10, code := some k1c1 }
def k1c2 : Code := { maxStack := 2, maxLocals := 1, code := method_3_code, exceptionTable := #[], attributes := #[] }
def k1m2 : Method := { name := "first", desc := "(I)I", sig := { parameters := [.int], returnType := some .int }, accessFlags := 10, code := some k1c2 }
def k1c3 : Code := { maxStack := 3, maxLocals := 9, code := code, exceptionTable := #[], attributes := #[] }
def k1m3 : Method := { name := "law", desc := "(II)Z", sig := { parameters := [.int, .int], returnType := some .boolean }, accessFlags := 9, code := some k1c3 }
/-- com/example/even_keel/evenkeel/protocol/ApiKeyIsFlexiblePinLaw -/
def k1 : Class := { plain "com/example/even_keel/evenkeel/protocol/ApiKeyIsFlexiblePinLaw" (some 0) with
  accessFlags := 49
  interfaces := #[]
  cf := some (fileOf pool1 54 #[] #[{ accessFlags := 1, nameIndex := 5, descriptorIndex := 6, attributes := #[] }, { accessFlags := 10, nameIndex := 57, descriptorIndex := 58, attributes := #[] }, { accessFlags := 10, nameIndex := 61, descriptorIndex := 62, attributes := #[] }, { accessFlags := 9, nameIndex := 70, descriptorIndex := 71, attributes := #[] }] 49 2 #[] #[])
  fields := #[]
  methods := #[k1m0, k1m1, k1m2, k1m3]
  instanceTypes := #[]
  staticTypes := #[]
  resolved := Array.replicate 74 none
  statics := none }

def pool2 : Array CpInfo := pool [(1, .class_ 2), (0, u "java/lang/constant/Constable"), (0, .class_ 4), (0, u "java/lang/Object")] 6

/-- java/lang/constant/Constable -/
def k2 : Class := { plain "java/lang/constant/Constable" (some 0) with
  accessFlags := 1537
  interfaces := #[]
  cf := some (fileOf pool2 1 #[] #[] 1537 3 #[] #[])
  fields := #[]
  methods := #[]
  instanceTypes := #[]
  staticTypes := #[]
  resolved := Array.replicate 11 none
  statics := none }

def pool3 : Array CpInfo := pool [(1, .class_ 2), (0, u "java/lang/Comparable"), (0, .class_ 4), (0, u "java/lang/Object")] 7

/-- java/lang/Comparable -/
def k3 : Class := { plain "java/lang/Comparable" (some 0) with
  accessFlags := 1537
  interfaces := #[]
  cf := some (fileOf pool3 1 #[] #[] 1537 3 #[] #[])
  fields := #[]
  methods := #[]
  instanceTypes := #[]
  staticTypes := #[]
  resolved := Array.replicate 12 none
  statics := none }

def pool4 : Array CpInfo := pool [(1, .class_ 2), (0, u "java/io/Serializable"), (0, .class_ 4), (0, u "java/lang/Object")] 2

/-- java/io/Serializable -/
def k4 : Class := { plain "java/io/Serializable" (some 0) with
  accessFlags := 1537
  interfaces := #[]
  cf := some (fileOf pool4 1 #[] #[] 1537 3 #[] #[])
  fields := #[]
  methods := #[]
  instanceTypes := #[]
  staticTypes := #[]
  resolved := Array.replicate 7 none
  statics := none }

def pool5 : Array CpInfo := pool [(2, .class_ 4), (1, u "java/lang/Enum"), (0, u "name"), (0, u "Ljava/lang/String;"), (2, u "ordinal"), (0, u "I"), (1, .class_ 14), (1, u "java/lang/Object"), (4, u "hash"), (86, .class_ 108), (1, u "java/lang/Enum$EnumDesc"), (2, .class_ 112), (0, u "java/lang/constant/Constable"), (0, .class_ 114), (0, u "java/lang/Comparable"), (0, .class_ 116), (0, u "java/io/Serializable")] 87

/-- java/lang/Enum -/
def k5 : Class := { plain "java/lang/Enum" (some 0) with
  accessFlags := 1057
  interfaces := #[2, 3, 4]
  cf := some (fileOf pool5 2 #[.nestMembers #[106]] #[] 1057 12 #[111, 113, 115] #[{ accessFlags := 18, nameIndex := 5, descriptorIndex := 6, attributes := #[] }, { accessFlags := 18, nameIndex := 9, descriptorIndex := 10, attributes := #[] }, { accessFlags := 2, nameIndex := 19, descriptorIndex := 10, attributes := #[] }])
  fields := #[{ name := "name", type := (.object "java/lang/String"), accessFlags := 18, slot := 0, constantValue := 0 }, { name := "ordinal", type := .int, accessFlags := 18, slot := 1, constantValue := 0 }, { name := "hash", type := .int, accessFlags := 2, slot := 2, constantValue := 0 }]
  methods := #[]
  instanceTypes := #[(.object "java/lang/String"), .int, .int]
  staticTypes := #[]
  resolved := Array.replicate 204 none
  statics := none }

def pool6 : Array CpInfo := pool [(1, .class_ 2), (0, u "com/example/even_keel/evenkeel/protocol/ApiKey"), (2, u "FETCH"), (0, u "Lcom/example/even_keel/evenkeel/protocol/ApiKey;"), (2, u "LIST_OFFSETS"), (2, u "METADATA"), (2, u "OFFSET_COMMIT"), (2, u "OFFSET_FETCH"), (2, u "FIND_COORDINATOR"), (2, u "JOIN_GROUP"), (2, u "HEARTBEAT"), (2, u "LEAVE_GROUP"), (2, u "SYNC_GROUP"), (2, u "DESCRIBE_GROUPS"), (2, u "LIST_GROUPS"), (2, u "API_VERSIONS"), (2, u "DELETE_GROUPS"), (2, u "$VALUES"), (0, u "[Lcom/example/even_keel/evenkeel/protocol/ApiKey;"), (6, .class_ 58), (1, u "java/lang/Enum"), (8, u "id"), (0, u "S"), (2, u "displayName"), (0, u "Ljava/lang/String;"), (0, .fieldref 1 74), (0, .nameAndType 75 68), (0, u "firstFlexibleVersion"), (16, u "isFlexible"), (0, u "(S)Z")] 67

def k6c0 : Code := { maxStack := 2, maxLocals := 2, code := prog_34_method_6_code, exceptionTable := #[], attributes := #[] }
def k6m0 : Method := { name := "isFlexible", desc := "(S)Z", sig := { parameters := [.short], returnType := some .boolean }, accessFlags := 1, code := some k6c0 }
/-- com/example/even_keel/evenkeel/protocol/ApiKey -/
def k6 : Class := { plain "com/example/even_keel/evenkeel/protocol/ApiKey" (some 5) with
  accessFlags := 16433
  interfaces := #[]
  cf := some (fileOf pool6 1 #[] #[{ accessFlags := 1, nameIndex := 92, descriptorIndex := 93, attributes := #[] }] 16433 56 #[] #[{ accessFlags := 16409, nameIndex := 5, descriptorIndex := 6, attributes := #[] }, { accessFlags := 16409, nameIndex := 9, descriptorIndex := 6, attributes := #[] }, { accessFlags := 16409, nameIndex := 12, descriptorIndex := 6, attributes := #[] }, { accessFlags := 16409, nameIndex := 15, descriptorIndex := 6, attributes := #[] }, { accessFlags := 16409, nameIndex := 18, descriptorIndex := 6, attributes := #[] }, { accessFlags := 16409, nameIndex := 21, descriptorIndex := 6, attributes := #[] }, { accessFlags := 16409, nameIndex := 24, descriptorIndex := 6, attributes := #[] }, { accessFlags := 16409, nameIndex := 27, descriptorIndex := 6, attributes := #[] }, { accessFlags := 16409, nameIndex := 30, descriptorIndex := 6, attributes := #[] }, { accessFlags := 16409, nameIndex := 33, descriptorIndex := 6, attributes := #[] }, { accessFlags := 16409, nameIndex := 36, descriptorIndex := 6, attributes := #[] }, { accessFlags := 16409, nameIndex := 39, descriptorIndex := 6, attributes := #[] }, { accessFlags := 16409, nameIndex := 42, descriptorIndex := 6, attributes := #[] }, { accessFlags := 16409, nameIndex := 45, descriptorIndex := 6, attributes := #[] }, { accessFlags := 18, nameIndex := 67, descriptorIndex := 68, attributes := #[] }, { accessFlags := 18, nameIndex := 71, descriptorIndex := 72, attributes := #[] }, { accessFlags := 18, nameIndex := 75, descriptorIndex := 68, attributes := #[] }, { accessFlags := 4122, nameIndex := 48, descriptorIndex := 49, attributes := #[] }])
  fields := #[{ name := "FETCH", type := (.object "com/example/even_keel/evenkeel/protocol/ApiKey"), accessFlags := 16409, slot := 0, constantValue := 0 }, { name := "LIST_OFFSETS", type := (.object "com/example/even_keel/evenkeel/protocol/ApiKey"), accessFlags := 16409, slot := 1, constantValue := 0 }, { name := "METADATA", type := (.object "com/example/even_keel/evenkeel/protocol/ApiKey"), accessFlags := 16409, slot := 2, constantValue := 0 }, { name := "OFFSET_COMMIT", type := (.object "com/example/even_keel/evenkeel/protocol/ApiKey"), accessFlags := 16409, slot := 3, constantValue := 0 }, { name := "OFFSET_FETCH", type := (.object "com/example/even_keel/evenkeel/protocol/ApiKey"), accessFlags := 16409, slot := 4, constantValue := 0 }, { name := "FIND_COORDINATOR", type := (.object "com/example/even_keel/evenkeel/protocol/ApiKey"), accessFlags := 16409, slot := 5, constantValue := 0 }, { name := "JOIN_GROUP", type := (.object "com/example/even_keel/evenkeel/protocol/ApiKey"), accessFlags := 16409, slot := 6, constantValue := 0 }, { name := "HEARTBEAT", type := (.object "com/example/even_keel/evenkeel/protocol/ApiKey"), accessFlags := 16409, slot := 7, constantValue := 0 }, { name := "LEAVE_GROUP", type := (.object "com/example/even_keel/evenkeel/protocol/ApiKey"), accessFlags := 16409, slot := 8, constantValue := 0 }, { name := "SYNC_GROUP", type := (.object "com/example/even_keel/evenkeel/protocol/ApiKey"), accessFlags := 16409, slot := 9, constantValue := 0 }, { name := "DESCRIBE_GROUPS", type := (.object "com/example/even_keel/evenkeel/protocol/ApiKey"), accessFlags := 16409, slot := 10, constantValue := 0 }, { name := "LIST_GROUPS", type := (.object "com/example/even_keel/evenkeel/protocol/ApiKey"), accessFlags := 16409, slot := 11, constantValue := 0 }, { name := "API_VERSIONS", type := (.object "com/example/even_keel/evenkeel/protocol/ApiKey"), accessFlags := 16409, slot := 12, constantValue := 0 }, { name := "DELETE_GROUPS", type := (.object "com/example/even_keel/evenkeel/protocol/ApiKey"), accessFlags := 16409, slot := 13, constantValue := 0 }, { name := "id", type := .short, accessFlags := 18, slot := 3, constantValue := 0 }, { name := "displayName", type := (.object "java/lang/String"), accessFlags := 18, slot := 4, constantValue := 0 }, { name := "firstFlexibleVersion", type := .short, accessFlags := 18, slot := 5, constantValue := 0 }, { name := "$VALUES", type := (.array (.object "com/example/even_keel/evenkeel/protocol/ApiKey")), accessFlags := 4122, slot := 14, constantValue := 0 }]
  methods := #[k6m0]
  instanceTypes := #[(.object "java/lang/String"), .int, .int, .short, (.object "java/lang/String"), .short]
  staticTypes := #[(.object "com/example/even_keel/evenkeel/protocol/ApiKey"), (.object "com/example/even_keel/evenkeel/protocol/ApiKey"), (.object "com/example/even_keel/evenkeel/protocol/ApiKey"), (.object "com/example/even_keel/evenkeel/protocol/ApiKey"), (.object "com/example/even_keel/evenkeel/protocol/ApiKey"), (.object "com/example/even_keel/evenkeel/protocol/ApiKey"), (.object "com/example/even_keel/evenkeel/protocol/ApiKey"), (.object "com/example/even_keel/evenkeel/protocol/ApiKey"), (.object "com/example/even_keel/evenkeel/protocol/ApiKey"), (.object "com/example/even_keel/evenkeel/protocol/ApiKey"), (.object "com/example/even_keel/evenkeel/protocol/ApiKey"), (.object "com/example/even_keel/evenkeel/protocol/ApiKey"), (.object "com/example/even_keel/evenkeel/protocol/ApiKey"), (.object "com/example/even_keel/evenkeel/protocol/ApiKey"), (.array (.object "com/example/even_keel/evenkeel/protocol/ApiKey"))]
  resolved := Array.replicate 161 none
  statics := some 0 }

def pool7 : Array CpInfo := pool [(1, u "java/lang/Cloneable"), (0, .class_ 1), (0, u "java/lang/Object"), (0, .class_ 3)] 3

/-- java/lang/Cloneable -/
def k7 : Class := { plain "java/lang/Cloneable" (some 0) with
  accessFlags := 1537
  interfaces := #[]
  cf := some (fileOf pool7 2 #[] #[] 1537 4 #[] #[])
  fields := #[]
  methods := #[]
  instanceTypes := #[]
  staticTypes := #[]
  resolved := Array.replicate 8 none
  statics := none }

/-- the primitive byte -/
def k8 : Class := { plain "byte" none with kind := .primitive 'B', accessFlags := 0x411 }
/-- [B -/
def k9 : Class := { plain "[B" (some 0) with kind := .array 8 .byte, interfaces := #[7, 4], accessFlags := 1041 }

/-- the primitive int -/
def k10 : Class := { plain "int" none with kind := .primitive 'I', accessFlags := 0x411 }
/-- [I -/
def k11 : Class := { plain "[I" (some 0) with kind := .array 10 .int, interfaces := #[7, 4], accessFlags := 1041 }

def heap : Heap := #[{ cls := 6, slots := #[.ref 1, .ref 2, .ref 3, .ref 4, .ref 5, .ref 6, .ref 7, .ref 8, .ref 9, .ref 10, .ref 11, .ref 12, .ref 13, .ref 14, .null], vm := .statics 6 },
  { cls := 6, slots := #[.null, .int 0, .int 0, .int 0, .null, .int 12], vm := .none },
  { cls := 6, slots := #[.null, .int 1, .int 0, .int 0, .null, .int 6], vm := .none },
  { cls := 6, slots := #[.null, .int 2, .int 0, .int 0, .null, .int 9], vm := .none },
  { cls := 6, slots := #[.null, .int 3, .int 0, .int 0, .null, .int 8], vm := .none },
  { cls := 6, slots := #[.null, .int 4, .int 0, .int 0, .null, .int 6], vm := .none },
  { cls := 6, slots := #[.null, .int 5, .int 0, .int 0, .null, .int 3], vm := .none },
  { cls := 6, slots := #[.null, .int 6, .int 0, .int 0, .null, .int 6], vm := .none },
  { cls := 6, slots := #[.null, .int 7, .int 0, .int 0, .null, .int 4], vm := .none },
  { cls := 6, slots := #[.null, .int 8, .int 0, .int 0, .null, .int 4], vm := .none },
  { cls := 6, slots := #[.null, .int 9, .int 0, .int 0, .null, .int 4], vm := .none },
  { cls := 6, slots := #[.null, .int 10, .int 0, .int 0, .null, .int 5], vm := .none },
  { cls := 6, slots := #[.null, .int 11, .int 0, .int 0, .null, .int 3], vm := .none },
  { cls := 6, slots := #[.null, .int 12, .int 0, .int 0, .null, .int 3], vm := .none },
  { cls := 6, slots := #[.null, .int 13, .int 0, .int 0, .null, .int 2], vm := .none }]
def classes : Array Class := #[k0, k1, k2, k3, k4, k5, k6, k7, k8, k9, k10, k11]
def interned : List (Array UInt16 × Addr) := []
def slotsUsed : Nat := 99
def theMethod : MethodId := ⟨1, 3⟩
def args0 : Array Value := #[.int 5, .int 300]
def aboutOver (below : List Frame) : State where
  vm := { classes := classes, interned := interned.toArray }
  heap := heap
  slotsUsed := slotsUsed
  threads := #[{ frames := .invoking theMethod args0 :: below }]
def below0 : List Frame := [.native { method := ⟨0, 0⟩, args := #[] }]
def about1 : State := aboutOver below0
def p0 : Program := .bare "" "" ""
def e0 : Env := launch0.env 0 0 0
theorem w_frames : about1.frames = Frame.invoking theMethod args0 :: below0 := rfl
set_option maxRecDepth 65536 in
theorem w_args : argsFit about1.vm theMethod args0 = true := by decide +kernel
set_option maxRecDepth 65536 in
theorem w_heap : heapFits about1 = true := by decide +kernel
set_option maxRecDepth 65536 in
theorem w_runnable : about1.curStatus? = some .runnable := by decide +kernel
set_option maxRecDepth 65536 in
theorem w_alone : about1.alone = true := by decide +kernel
set_option maxRecDepth 65536 in
theorem w_named : about1.methodNamed? x = some theMethod := by decide +kernel
set_option maxRecDepth 65536 in
theorem w_hears : about1.hears theMethod below0 = true := by decide +kernel
set_option maxRecDepth 65536 in
theorem w_ripe : about1.ripe theMethod args0 below0 = true := by decide +kernel
theorem w_running : about1.status = .running := rfl
set_option maxRecDepth 65536 in
theorem w_room : about1.hasRoom e0.platform room_1 = true :=
  launch0.hasRoom_least _ room_1 (by decide +kernel) (by decide +kernel) (by decide +kernel) (by decide +kernel) (by decide +kernel) (by decide +kernel)
theorem allAtoms_all (ts : List Jvm.Cond) (a : Array Jvm.Value) (st : Jvm.State) : (allAtoms ts).before a st = ts.all (fun c => c.before a st) := by
  induction ts with
  | nil => rfl
  | cons c t ih =>
    show (Jvm.Cond.and c (allAtoms t)).before a st = _
    rw [Jvm.Cond.before_and, ih, List.all_cons]
def words1 : List Jvm.Cond := Jvm.Cond.code x code maxLocals ret :: tables_1
/-- a 'code' word, met by the world's own term for the bytes: nothing is compared byte by byte -/
theorem code_word {y : MethodName} {bytes : ByteArray} {mx : Nat} {rt : Option FieldType} {a : Array Value} {s : State} {m : MethodId} {meth : Method} {c : Code} (h1 : s.methodNamed? y = some m) (h2 : s.vm.method? m = some meth) (h3 : meth.code = some c) (h4 : c.code = bytes)
    (h5 : (c.maxLocals == mx && c.exceptionTable.isEmpty && decide (c.maxStack ≤ mostOperands) && decide (meth.sig.returnType = rt) && !meth.locks && decide (parseMethodDescriptor y.desc = some meth.sig)) = true) : (Jvm.Cond.code y bytes mx rt).before a s = true := by
  simp only [Bool.and_eq_true, beq_iff_eq, Bool.not_eq_true', decide_eq_true_eq] at h5
  obtain ⟨⟨⟨⟨⟨g1, g2⟩, g3⟩, g4⟩, g5⟩, g6⟩ := h5
  simp [Cond.before, Cond.holds, Cond.value, h1, h2, h3, h4, g1, g2, g3, g4, g5, g6]
def isCode : Jvm.Cond → Bool
  | .code _ _ _ _ => true
  | _ => false
theorem all_split {L : List Jvm.Cond} {P : Jvm.Cond → Bool} (h1 : L.all (fun c => isCode c || P c) = true) (h2 : ∀ c ∈ L.filter isCode, P c = true) : L.all P = true := by
  refine List.all_eq_true.mpr fun c hc => ?_
  have h := List.all_eq_true.mp h1 c hc
  rcases Bool.eq_false_or_eq_true (isCode c) with hi | hi
  · exact h2 c (List.mem_filter.mpr ⟨hc, hi⟩)
  · simpa [hi] using h
set_option maxRecDepth 65536 in
theorem w_c0 : (Jvm.Cond.code x code maxLocals ret).before args0 about1 = true := code_word (m := ⟨1, 3⟩) (meth := k1m3) (c := k1c3) (by decide +kernel) rfl rfl rfl (by decide +kernel)
set_option maxRecDepth 65536 in
theorem w_c1 : (Jvm.Cond.code ({ cls := "com/example/even_keel/evenkeel/protocol/ApiKeyIsFlexiblePinLaw", name := "pick", desc := "(I)Lcom/example/even_keel/evenkeel/protocol/ApiKey;" } : Jvm.MethodName) method_2_code (1 : Nat) (Option.some (Jvm.ClassFile.FieldType.object "com/example/even_keel/evenkeel/protocol/ApiKey"))).before args0 about1 = true := code_word (m := ⟨1, 1⟩) (meth := k1m1) (c := k1c1) (by decide +kernel) rfl rfl rfl (by decide +kernel)
set_option maxRecDepth 65536 in
theorem w_c2 : (Jvm.Cond.code ({ cls := "com/example/even_keel/evenkeel/protocol/ApiKeyIsFlexiblePinLaw", name := "first", desc := "(I)I" } : Jvm.MethodName) method_3_code (1 : Nat) (Option.some Jvm.ClassFile.FieldType.int)).before args0 about1 = true := code_word (m := ⟨1, 2⟩) (meth := k1m2) (c := k1c2) (by decide +kernel) rfl rfl rfl (by decide +kernel)
set_option maxRecDepth 65536 in
theorem w_c3 : (Jvm.Cond.code ({ cls := "com/example/even_keel/evenkeel/protocol/ApiKey", name := "isFlexible", desc := "(S)Z" } : Jvm.MethodName) prog_34_method_6_code (2 : Nat) (Option.some Jvm.ClassFile.FieldType.boolean)).before args0 about1 = true := code_word (m := ⟨6, 0⟩) (meth := k6m0) (c := k6c0) (by decide +kernel) rfl rfl rfl (by decide +kernel)
def codes1 : List Jvm.Cond := [Jvm.Cond.code x code maxLocals ret, Jvm.Cond.code ({ cls := "com/example/even_keel/evenkeel/protocol/ApiKeyIsFlexiblePinLaw", name := "pick", desc := "(I)Lcom/example/even_keel/evenkeel/protocol/ApiKey;" } : Jvm.MethodName) method_2_code (1 : Nat) (Option.some (Jvm.ClassFile.FieldType.object "com/example/even_keel/evenkeel/protocol/ApiKey")), Jvm.Cond.code ({ cls := "com/example/even_keel/evenkeel/protocol/ApiKeyIsFlexiblePinLaw", name := "first", desc := "(I)I" } : Jvm.MethodName) method_3_code (1 : Nat) (Option.some Jvm.ClassFile.FieldType.int), Jvm.Cond.code ({ cls := "com/example/even_keel/evenkeel/protocol/ApiKey", name := "isFlexible", desc := "(S)Z" } : Jvm.MethodName) prog_34_method_6_code (2 : Nat) (Option.some Jvm.ClassFile.FieldType.boolean)]
set_option maxRecDepth 65536 in
theorem codes_eq : words1.filter isCode = codes1 := rfl
theorem w_codes : ∀ c ∈ words1.filter isCode, c.before args0 about1 = true := by
  rw [codes_eq]
  intro c hc
  simp only [codes1, List.mem_cons, List.not_mem_nil, or_false] at hc
  rcases hc with rfl | rfl | rfl | rfl
  · exact w_c0
  · exact w_c1
  · exact w_c2
  · exact w_c3
set_option maxRecDepth 65536 in
theorem w_t1 : (words1.take 24).all (fun c => isCode c || c.before args0 about1) = true := by decide +kernel
set_option maxRecDepth 65536 in
theorem w_t2 : (words1.drop 24).all (fun c => isCode c || c.before args0 about1) = true := by decide +kernel
theorem w_tables : (allAtoms (Jvm.Cond.code x code maxLocals ret :: tables_1)).before args0 about1 = true := by
  rw [allAtoms_all]
  show words1.all (fun c => c.before args0 about1) = true
  refine all_split ?_ w_codes
  rw [← List.take_append_drop 24 words1, List.all_append, w_t1, w_t2]
  rfl
set_option maxRecDepth 65536 in
theorem w_case : (Jvm.Cond.and given_1 narrow_1).before args0 about1 = true := by decide +kernel
theorem w_applies : (headSpec (Jvm.Cond.code x code maxLocals ret :: tables_1) room_1).applies x e0.platform about1 = true :=
  (Spec.applies_iff w_frames).mpr ⟨w_running, w_runnable, w_alone, w_named, w_hears, w_ripe, w_room, w_tables⟩
theorem atStart : AtStart classFile x code maxLocals ret World_1 tables_1 room_1 Calls_1 rest_1 Pre_1 launch0 p0 e0 about1 theMethod args0 below0 :=
  ⟨lists_1, trivial, launch0.admits_env _ _ _, launch0.least_env, fairChoices_fair.cas, fairChoices_fair.clock, w_frames, w_args, w_heap, w_applies, trivial, trivial, w_case⟩
end start1
theorem witness_1 : WitnessClaimed_1 := ⟨start1.p0, start1.e0, start1.about1, start1.theMethod, start1.args0, start1.below0, start1.atStart⟩
end Jvm.Pilot.@@N@@
