import JvmDerived
import JvmDerived.Pilot.@@N@@Statement
import JvmDerived.Pilot.@@N@@Code
set_option linter.unusedVariables false
set_option linter.unusedSimpArgs false

namespace Jvm.RoadKit
open Sem ClassFile Op Lib Jvm.Stand Jvm.Free Jvm.LawKit
section New
variable {p : Program} {l : Launch} {e : Env} {R : Room} {s : State} {m : MethodId} {args : Array Value} {below : List Frame} {meth : Method} {c : Code} {T : State} {locs : List Loc} {cells slots : Nat}
theorem retI (X : Stand p l e R s m args below meth c T locs cells slots) (hx : p.tables.exec = Jvm.exec) {pc : Nat} {Ls : Array Slot} {z : Int32} {rest : List Value} (hret : meth.sig.returnType = some .int) (hd : decode c.code pc = .ok (.ireturn, 1)) {fs : List Frame}
    (hl : ∀ (f : JFrame) (acts : List Action), f.method = m → f.locked = none → f.entered = [] → (doReturn e (T.setTop f) acts (some (.int z))).1 = T.setFrames fs) : Steps p.tables e below (T.setTop (mkF m pc Ls (.int z :: rest))) (T.setFrames fs) := by
  have hm' : T.vm.method? m = some meth := X.method'
  have hn : narrow .int (.int z) = .int z := rfl
  show Steps p.tables e below (T.setTop { method := m, pc := pc, locals := Ls, stack := _ :: rest, locked := none }) _
  jvm_step X.here [X.here.top, hx, hd, hm', hret, hn]
  first | (intro acts; rw [hl _ acts rfl rfl rfl]) | rw [hl _ _ rfl rfl rfl]
  exact Steps.refl _
end New
end Jvm.RoadKit
namespace Jvm.Pilot.@@N@@
open Jvm Jvm.ClassFile Sem Op Lib Jvm.Free Jvm.Stand Jvm.LawKit Jvm.RoadKit Bundle Jvm.Pilot.@@N@@.Jvm.D

def own_vrb (p1 : Int64) (p2 : Int64) : Int64 :=
  if (lcmpW p2 p1) < (0 : Int32) then (p1 - (95443717689 : Int64)) else
  p1
theorem own_d1_0 : decode prog_52_method_2_code 0 = .ok (.lload_n 2, 1) := by decide +kernel
theorem own_d1_1 : decode prog_52_method_2_code 1 = .ok (.lload_n 0, 1) := by decide +kernel
theorem own_d1_2 : decode prog_52_method_2_code 2 = .ok (.lcmp, 1) := by decide +kernel
theorem own_d1_3 : decode prog_52_method_2_code 3 = .ok (.ifCond .ge 11, 3) := by decide +kernel
theorem own_d1_6 : decode prog_52_method_2_code 6 = .ok (.lload_n 0, 1) := by decide +kernel
theorem own_d1_7 : decode prog_52_method_2_code 7 = .ok (.ldc2_w 9, 3) := by decide +kernel
theorem own_d1_10 : decode prog_52_method_2_code 10 = .ok (.lsub, 1) := by decide +kernel
theorem own_d1_11 : decode prog_52_method_2_code 11 = .ok (.goto 4, 3) := by decide +kernel
theorem own_d1_14 : decode prog_52_method_2_code 14 = .ok (.lload_n 0, 1) := by decide +kernel
theorem own_d1_15 : decode prog_52_method_2_code 15 = .ok (.lreturn, 1) := by decide +kernel
theorem own_pn0 : plainName "com/example/streamward/streamward/model/StreamClock" = true := by first | (simp [plainName, overriddenIn]; done) | decide +kernel
theorem own_efrb (m : MethodId) (x0 : Int64) (x1 : Int64) : entryFrame m #[(.long x0), (.long x1)] 4 = mkF m 0 #[.val (.long x0), .second, .val (.long x1), .second] [] := by first | (simp [entryFrame, mkF, argsToLocals, Value.category]; done) | rfl
def own_Qrb (Z : State) (p1 : Int64) (p2 : Int64) (h0 : Heap) (n0 : Nat) (v : Option Value) (h : Heap) (L : List Loc) : Prop := v = some (.long (own_vrb p1 p2)) ∧ Fr n0 L ∧ h = h0
set_option maxRecDepth 65536 in
set_option maxHeartbeats 40000000 in
theorem own_rmrb (l : Launch) (Z : State) (a0 : Array Value) (hw : ∀ d ∈ tables_1, d.before a0 Z = true) (ws : List Jvm.Cond) (p1 : Int64) (p2 : Int64) (h0 : Heap) (n0 : Nat) (Z0 : n0 ≤ h0.size) :
    MetFree l (⟨"com/example/streamward/streamward/model/StreamClock", "readerBase", "(JJ)J"⟩ : MethodName) (head1 (Jvm.Cond.code (⟨"com/example/streamward/streamward/model/StreamClock", "readerBase", "(JJ)J"⟩ : MethodName) prog_52_method_2_code 4 (some .long) :: ws) ({ frames := 0, cells := 0, slots := 0, locals := 0 } : Room)) (fun a U => a = #[(.long p1), (.long p2)] ∧ Z.Warmed39 U.vm ∧ U.heap = h0) (fun _ _ _ _ _ => True) (fun _ U o U' => ∃ v L, o = .returned v ∧ own_Qrb Z p1 p2 h0 n0 v U'.heap L ∧ FrameEnd U o U' L ({ frames := 0, cells := 0, slots := 0, locals := 0 } : Room).cells ({ frames := 0, cells := 0, slots := 0, locals := 0 } : Room).slots) := by
  refine MetFree.of_bodySF (plainFor_of_name own_pn0) hisR ?_
  intro p e s m args below meth c s₁ Bd hml0 hP hK
  obtain ⟨rfl, hZ, hh⟩ := hP
  have hx := Bd.exec
  have hby := Bd.bytes
  have hml : c.maxLocals = 4 := hml0
  have hown : s.vm.findClass "com/example/streamward/streamward/model/StreamClock" = some m.cls := findClass_of_methodNamed Bd.named
  have hnm := (name_of_methodNamed Bd.named Bd.method).1
  have X0 : Stand p l e ({ frames := 0, cells := 0, slots := 0, locals := 0 } : Room) s m #[(.long p1), (.long p2)] below meth c s₁ [] 0 0 := Stand.of_body Bd
  have e0 : s₁.heap = h0 := by rw [← hh, Bd.state]; rfl
  have N0 := Fr.nil n0
  have pre0 : ∀ t, Steps p.tables e below (s₁.setTop (mkF m 0 #[.val (.long p1), .second, .val (.long p2), .second] [])) t → Steps p.tables e below (s₁.setTop (entryFrame m #[(.long p1), (.long p2)] 4)) t := fun t k => castTop (own_efrb m p1 p2) k
  have k1 : ∀ t, Steps p.tables e below (s₁.setTop (mkF m 3 #[.val (.long p1), .second, .val (.long p2), .second] [(.int (lcmpW p2 p1))])) t → Steps p.tables e below (s₁.setTop (entryFrame m #[(.long p1), (.long p2)] 4)) t := by
    intro t k
    refine pre0 t ?_
    show Steps p.tables e below (s₁.setTop (mkF m 0 #[.val (.long p1), .second, .val (.long p2), .second] [])) _
    refine XS.lloadN X0.here hx rfl (hb hby own_d1_0) rfl ?_
    show Steps p.tables e below (s₁.setTop (mkF m 1 #[.val (.long p1), .second, .val (.long p2), .second] [(.long p2)])) _
    refine XS.lloadN X0.here hx rfl (hb hby own_d1_1) rfl ?_
    show Steps p.tables e below (s₁.setTop (mkF m 2 #[.val (.long p1), .second, .val (.long p2), .second] [(.long p1), (.long p2)])) _
    refine XS.lcmp X0.here hx rfl (hb hby own_d1_2) rfl ?_
    exact k
  by_cases hc3_2 : (lcmpW p2 p1) < (0 : Int32)
  · have k3 : ∀ t, Steps p.tables e below (s₁.setTop (mkF m 15 #[.val (.long p1), .second, .val (.long p2), .second] [(.long (p1 - (95443717689 : Int64)))])) t → Steps p.tables e below (s₁.setTop (entryFrame m #[(.long p1), (.long p2)] 4)) t := by
      intro t k
      refine k1 t ?_
      show Steps p.tables e below (s₁.setTop (mkF m 3 #[.val (.long p1), .second, .val (.long p2), .second] [(.int (lcmpW p2 p1))])) _
      refine XS.ifNo X0.here hx rfl (hb hby own_d1_3) rfl ((if0 _ _).trans (tlt hc3_2).2.1) ?_
      show Steps p.tables e below (s₁.setTop (mkF m 6 #[.val (.long p1), .second, .val (.long p2), .second] [])) _
      refine XS.lloadN X0.here hx rfl (hb hby own_d1_6) rfl ?_
      show Steps p.tables e below (s₁.setTop (mkF m 7 #[.val (.long p1), .second, .val (.long p2), .second] [(.long p1)])) _
      refine X0.ldc2Long hx hown (mvT hZ (hw _ (List.mem_of_getElem? (i := 5) rfl))) (g := (mkF m 7 #[.val (.long p1), .second, .val (.long p2), .second] [(.long p1)])) rfl (hb hby own_d1_7) _ ?_
      show Steps p.tables e below (s₁.setTop (mkF m 10 #[.val (.long p1), .second, .val (.long p2), .second] [(.long (95443717689 : Int64)), (.long p1)])) _
      refine XS.lsub X0.here hx rfl (hb hby own_d1_10) rfl ?_
      show Steps p.tables e below (s₁.setTop (mkF m 11 #[.val (.long p1), .second, .val (.long p2), .second] [(.long (p1 - (95443717689 : Int64)))])) _
      refine XS.goto X0.here hx rfl (pc0 := 11) (pc' := 15) rfl (hb hby own_d1_11) (by decide) (by decide) ?_
      exact k
    obtain ⟨fs, hr, hrun, hended, hW, hsame⟩ := X0.leave (v := (some (.long (p1 - (95443717689 : Int64))))) (fun h => by rw [Bd.returns] at h; cases h)
    refine ⟨_, _, k3 _ ?_, hrun, hended, _, _, rfl, ?_, ⟨_, rfl⟩, hW, hsame.mono (by decide) (by decide)⟩
    · exact X0.lreturnOut hx Bd.returns (hb hby own_d1_15) hr
    · have hv : (own_vrb p1 p2) = (p1 - (95443717689 : Int64)) := (if_pos hc3_2)
      exact ⟨congrArg (fun z => some (Value.long z)) hv.symm, N0, e0⟩
  · have k4 : ∀ t, Steps p.tables e below (s₁.setTop (mkF m 15 #[.val (.long p1), .second, .val (.long p2), .second] [(.long p1)])) t → Steps p.tables e below (s₁.setTop (entryFrame m #[(.long p1), (.long p2)] 4)) t := by
      intro t k
      refine k1 t ?_
      show Steps p.tables e below (s₁.setTop (mkF m 3 #[.val (.long p1), .second, .val (.long p2), .second] [(.int (lcmpW p2 p1))])) _
      refine XS.ifYes X0.here hx rfl (pc0 := 3) (pc' := 14) rfl (hb hby own_d1_3) rfl ((if0 _ _).trans (flt hc3_2).2.1) (by decide) (by decide) ?_
      show Steps p.tables e below (s₁.setTop (mkF m 14 #[.val (.long p1), .second, .val (.long p2), .second] [])) _
      refine XS.lloadN X0.here hx rfl (hb hby own_d1_14) rfl ?_
      exact k
    obtain ⟨fs, hr, hrun, hended, hW, hsame⟩ := X0.leave (v := (some (.long p1))) (fun h => by rw [Bd.returns] at h; cases h)
    refine ⟨_, _, k4 _ ?_, hrun, hended, _, _, rfl, ?_, ⟨_, rfl⟩, hW, hsame.mono (by decide) (by decide)⟩
    · exact X0.lreturnOut hx Bd.returns (hb hby own_d1_15) hr
    · have hv : (own_vrb p1 p2) = p1 := (if_neg hc3_2)
      exact ⟨congrArg (fun z => some (Value.long z)) hv.symm, N0, e0⟩
def own_m0_0_L6 (p1 : Int64) (p2 : Int64) (p3 : Int32) (p4 : Int32) : Int64 := if (p4 &&& (1 : Int32)) = (0 : Int32) then p2 else (p1 + ((p3 % (4 : Int32)).toInt64))
def own_m0_28_L12 (p1 : Int64) (p2 : Int64) (p3 : Int32) (p4 : Int32) : Int32 := if (lcmpW (own_vrb p1 (own_m0_0_L6 p1 p2 p3 p4)) p1) = (0 : Int32) then (1 : Int32) else (0 : Int32)
def own_m0_47_L13 (p1 : Int64) (p2 : Int64) (p3 : Int32) (p4 : Int32) : Int32 := if (lcmpW ((own_vrb p1 (own_m0_0_L6 p1 p2 p3 p4)) + (95443717689 : Int64)) p1) = (0 : Int32) then (1 : Int32) else (0 : Int32)
def own_v0 (p1 : Int64) (p2 : Int64) (p3 : Int32) (p4 : Int32) : Int32 :=
  if (lcmpW (own_m0_0_L6 p1 p2 p3 p4) p1) < (0 : Int32) then (nar .boolean (own_m0_47_L13 p1 p2 p3 p4)) else
  (nar .boolean (own_m0_28_L12 p1 p2 p3 p4))
theorem own_one (p1 p2 : Int64) (p3 p4 : Int32) : own_v0 p1 p2 p3 p4 = 1 := by
  unfold own_v0 own_m0_28_L12 own_m0_47_L13
  generalize own_m0_0_L6 p1 p2 p3 p4 = f
  unfold own_vrb
  simp only [lw_lt, lw_eq]
  by_cases h : f < p1
  · have e : p1 - (95443717689 : Int64) + (95443717689 : Int64) = p1 := Int64.sub_add_cancel _ _
    simp only [if_pos h, if_pos e]
    rfl
  · simp only [if_neg h, if_pos rfl]
    rfl
theorem own_pd0 : parseMethodDescriptor "(JJ)J" = some ⟨[.long, .long], some .long⟩ := by decide +kernel
theorem own_pn1 : plainName "com/example/streamward/streamward/model/StreamClockReaderBasePinLaw" = true := by first | (simp [plainName, overriddenIn]; done) | decide +kernel
theorem own_ef0 (m : MethodId) (x0 : Int64) (x1 : Int64) (x2 : Int32) (x3 : Int32) : entryFrame m #[(.long x0), (.long x1), (.int x2), (.int x3)] maxLocals = mkF m 0 #[.val (.long x0), .second, .val (.long x1), .second, .val (.int x2), .val (.int x3), .unset, .unset, .unset, .unset, .unset, .unset, .unset, .unset] [] := by first | (simp [entryFrame, mkF, argsToLocals, Value.category, maxLocals]; done) | rfl
def own_Q0 (Z : State) (p1 : Int64) (p2 : Int64) (p3 : Int32) (p4 : Int32) (h0 : Heap) (n0 : Nat) (v : Option Value) (h : Heap) (L : List Loc) : Prop := v = some (.int (1 : Int32)) ∧ Fr n0 L
set_option maxRecDepth 65536 in
set_option maxHeartbeats 40000000 in
theorem own_rm0 (l : Launch) (Z : State) (a0 : Array Value) (hw : ∀ d ∈ tables_1, d.before a0 Z = true) (ws : List Jvm.Cond) (p1 : Int64) (p2 : Int64) (p3 : Int32) (p4 : Int32) (h0 : Heap) (n0 : Nat) (Z0 : n0 ≤ h0.size) (hone : (own_v0 p1 p2 p3 p4) = (1 : Int32)) :
    MetFree l x (head1 (Jvm.Cond.code x code maxLocals ret :: ws) room_1) (fun a U => a = #[(.long p1), (.long p2), (.int p3), (.int p4)] ∧ Z.Warmed39 U.vm ∧ U.heap = h0) (fun _ _ _ _ _ => True) (fun _ U o U' => ∃ v L, o = .returned v ∧ own_Q0 Z p1 p2 p3 p4 h0 n0 v U'.heap L ∧ FrameEnd U o U' L room_1.cells room_1.slots) := by
  refine MetFree.of_bodySF (plainFor_of_name own_pn1) hisR ?_
  intro p e s m args below meth c s₁ Bd hml0 hP hK
  obtain ⟨rfl, hZ, hh⟩ := hP
  have hx := Bd.exec
  have hby := Bd.bytes
  have hml : c.maxLocals = 14 := hml0
  have hown : s.vm.findClass "com/example/streamward/streamward/model/StreamClockReaderBasePinLaw" = some m.cls := findClass_of_methodNamed Bd.named
  have hnm := (name_of_methodNamed Bd.named Bd.method).1
  have X0 : Stand p l e room_1 s m #[(.long p1), (.long p2), (.int p3), (.int p4)] below meth c s₁ [] 0 0 := Stand.of_body Bd
  have e0 : s₁.heap = h0 := by rw [← hh, Bd.state]; rfl
  have N0 := Fr.nil n0
  have pre0 : ∀ t, Steps p.tables e below (s₁.setTop (mkF m 0 #[.val (.long p1), .second, .val (.long p2), .second, .val (.int p3), .val (.int p4), .unset, .unset, .unset, .unset, .unset, .unset, .unset, .unset] [])) t → Steps p.tables e below (s₁.setTop (entryFrame m #[(.long p1), (.long p2), (.int p3), (.int p4)] maxLocals)) t := fun t k => castTop (own_ef0 m p1 p2 p3 p4) k
  have k1 : ∀ t, Steps p.tables e below (s₁.setTop (mkF m 20 #[.val (.long p1), .second, .val (.long p2), .second, .val (.int p3), .val (.int p4), .val (.long (own_m0_0_L6 p1 p2 p3 p4)), .second, .unset, .unset, .unset, .unset, .unset, .unset] [])) t → Steps p.tables e below (s₁.setTop (entryFrame m #[(.long p1), (.long p2), (.int p3), (.int p4)] maxLocals)) t := by
    intro t k
    refine pre0 t ?_
    show Steps p.tables e below (s₁.setTop (mkF m 0 #[.val (.long p1), .second, .val (.long p2), .second, .val (.int p3), .val (.int p4), .unset, .unset, .unset, .unset, .unset, .unset, .unset, .unset] [])) _
    refine XS.iload X0.here hx rfl (hb hby at_0) rfl ?_
    show Steps p.tables e below (s₁.setTop (mkF m 2 #[.val (.long p1), .second, .val (.long p2), .second, .val (.int p3), .val (.int p4), .unset, .unset, .unset, .unset, .unset, .unset, .unset, .unset] [(.int p4)])) _
    refine XS.iconst X0.here hx rfl (hb hby at_2) ?_
    show Steps p.tables e below (s₁.setTop (mkF m 3 #[.val (.long p1), .second, .val (.long p2), .second, .val (.int p3), .val (.int p4), .unset, .unset, .unset, .unset, .unset, .unset, .unset, .unset] [(.int (1 : Int32)), (.int p4)])) _
    refine XS.iand X0.here hx rfl (hb hby at_3) rfl ?_
    by_cases hc4_2 : (p4 &&& (1 : Int32)) = (0 : Int32)
    · show Steps p.tables e below (s₁.setTop (mkF m 4 #[.val (.long p1), .second, .val (.long p2), .second, .val (.int p3), .val (.int p4), .unset, .unset, .unset, .unset, .unset, .unset, .unset, .unset] [(.int (p4 &&& (1 : Int32)))])) _
      refine XS.ifYes X0.here hx rfl (pc0 := 4) (pc' := 17) rfl (hb hby at_4) rfl ((if0 _ _).trans (teq hc4_2).1) (by decide) (by decide) ?_
      show Steps p.tables e below (s₁.setTop (mkF m 17 #[.val (.long p1), .second, .val (.long p2), .second, .val (.int p3), .val (.int p4), .unset, .unset, .unset, .unset, .unset, .unset, .unset, .unset] [])) _
      refine XS.lloadN X0.here hx rfl (hb hby at_17) rfl ?_
      show Steps p.tables e below (s₁.setTop (mkF m 18 #[.val (.long p1), .second, .val (.long p2), .second, .val (.int p3), .val (.int p4), .unset, .unset, .unset, .unset, .unset, .unset, .unset, .unset] [(.long p2)])) _
      refine XS.lstore X0.here hx rfl (hb hby at_18) rfl (l' := #[.val (.long p1), .second, .val (.long p2), .second, .val (.int p3), .val (.int p4), .val (.long p2), .second, .unset, .unset, .unset, .unset, .unset, .unset]) rfl ?_
      have q0 : (own_m0_0_L6 p1 p2 p3 p4) = p2 := (if_pos hc4_2)
      rw [q0] at k
      exact k
    · show Steps p.tables e below (s₁.setTop (mkF m 4 #[.val (.long p1), .second, .val (.long p2), .second, .val (.int p3), .val (.int p4), .unset, .unset, .unset, .unset, .unset, .unset, .unset, .unset] [(.int (p4 &&& (1 : Int32)))])) _
      refine XS.ifNo X0.here hx rfl (hb hby at_4) rfl ((if0 _ _).trans (feq hc4_2).1) ?_
      show Steps p.tables e below (s₁.setTop (mkF m 7 #[.val (.long p1), .second, .val (.long p2), .second, .val (.int p3), .val (.int p4), .unset, .unset, .unset, .unset, .unset, .unset, .unset, .unset] [])) _
      refine XS.lloadN X0.here hx rfl (hb hby at_7) rfl ?_
      show Steps p.tables e below (s₁.setTop (mkF m 8 #[.val (.long p1), .second, .val (.long p2), .second, .val (.int p3), .val (.int p4), .unset, .unset, .unset, .unset, .unset, .unset, .unset, .unset] [(.long p1)])) _
      refine XS.iload X0.here hx rfl (hb hby at_8) rfl ?_
      show Steps p.tables e below (s₁.setTop (mkF m 10 #[.val (.long p1), .second, .val (.long p2), .second, .val (.int p3), .val (.int p4), .unset, .unset, .unset, .unset, .unset, .unset, .unset, .unset] [(.int p3), (.long p1)])) _
      refine XS.iconst X0.here hx rfl (hb hby at_10) ?_
      show Steps p.tables e below (s₁.setTop (mkF m 11 #[.val (.long p1), .second, .val (.long p2), .second, .val (.int p3), .val (.int p4), .unset, .unset, .unset, .unset, .unset, .unset, .unset, .unset] [(.int (4 : Int32)), (.int p3), (.long p1)])) _
      refine iremM X0 hx rfl (hb hby at_11) rfl (by decide) ?_
      show Steps p.tables e below (s₁.setTop (mkF m 12 #[.val (.long p1), .second, .val (.long p2), .second, .val (.int p3), .val (.int p4), .unset, .unset, .unset, .unset, .unset, .unset, .unset, .unset] [(.int (p3 % (4 : Int32))), (.long p1)])) _
      refine XS.i2l X0.here hx rfl (hb hby at_12) rfl ?_
      show Steps p.tables e below (s₁.setTop (mkF m 13 #[.val (.long p1), .second, .val (.long p2), .second, .val (.int p3), .val (.int p4), .unset, .unset, .unset, .unset, .unset, .unset, .unset, .unset] [(.long ((p3 % (4 : Int32)).toInt64)), (.long p1)])) _
      refine XS.ladd X0.here hx rfl (hb hby at_13) rfl ?_
      show Steps p.tables e below (s₁.setTop (mkF m 14 #[.val (.long p1), .second, .val (.long p2), .second, .val (.int p3), .val (.int p4), .unset, .unset, .unset, .unset, .unset, .unset, .unset, .unset] [(.long (p1 + ((p3 % (4 : Int32)).toInt64)))])) _
      refine XS.goto X0.here hx rfl (pc0 := 14) (pc' := 18) rfl (hb hby at_14) (by decide) (by decide) ?_
      show Steps p.tables e below (s₁.setTop (mkF m 18 #[.val (.long p1), .second, .val (.long p2), .second, .val (.int p3), .val (.int p4), .unset, .unset, .unset, .unset, .unset, .unset, .unset, .unset] [(.long (p1 + ((p3 % (4 : Int32)).toInt64)))])) _
      refine XS.lstore X0.here hx rfl (hb hby at_18) rfl (l' := #[.val (.long p1), .second, .val (.long p2), .second, .val (.int p3), .val (.int p4), .val (.long (p1 + ((p3 % (4 : Int32)).toInt64))), .second, .unset, .unset, .unset, .unset, .unset, .unset]) rfl ?_
      have q0 : (own_m0_0_L6 p1 p2 p3 p4) = (p1 + ((p3 % (4 : Int32)).toInt64)) := (if_neg hc4_2)
      rw [q0] at k
      exact k
  have k3 : ∀ t, Steps p.tables e below (s₁.setTop (mkF m 23 #[.val (.long p1), .second, .val (.long p2), .second, .val (.int p3), .val (.int p4), .val (.long (own_m0_0_L6 p1 p2 p3 p4)), .second, .unset, .unset, .unset, .unset, .unset, .unset] [(.long (own_m0_0_L6 p1 p2 p3 p4)), (.long p1)])) t → Steps p.tables e below (s₁.setTop (entryFrame m #[(.long p1), (.long p2), (.int p3), (.int p4)] maxLocals)) t := by
    intro t k
    refine k1 t ?_
    show Steps p.tables e below (s₁.setTop (mkF m 20 #[.val (.long p1), .second, .val (.long p2), .second, .val (.int p3), .val (.int p4), .val (.long (own_m0_0_L6 p1 p2 p3 p4)), .second, .unset, .unset, .unset, .unset, .unset, .unset] [])) _
    refine XS.lloadN X0.here hx rfl (hb hby at_20) rfl ?_
    show Steps p.tables e below (s₁.setTop (mkF m 21 #[.val (.long p1), .second, .val (.long p2), .second, .val (.int p3), .val (.int p4), .val (.long (own_m0_0_L6 p1 p2 p3 p4)), .second, .unset, .unset, .unset, .unset, .unset, .unset] [(.long p1)])) _
    refine XS.lload X0.here hx rfl (hb hby at_21) rfl ?_
    exact k
  obtain ⟨_, _, ⟨T4, L4, k4c, n4⟩, -, X4, ⟨Lc4, hQ4, l4, y4, z4⟩, st4⟩ := Jvm.LawKit.callS X0 hx (y := (⟨"com/example/streamward/streamward/model/StreamClock", "readerBase", "(JJ)J"⟩ : MethodName)) hown (mvT hZ (hw _ (List.mem_of_getElem? (i := 0) rfl))) (mvT hZ (hw _ (List.mem_of_getElem? (i := 1) rfl))) (mvT hZ (hw _ (List.mem_of_getElem? (i := 2) rfl))) (mvT hZ (hw _ (List.mem_of_getElem? (i := 3) rfl))) (by decide) (backOf (W := 0) (own_rmrb l Z a0 hw [] p1 (own_m0_0_L6 p1 p2 p3 p4) h0 n0 Z0) hZ (hw _ (List.mem_of_getElem? (i := 3) rfl)) (hw _ (List.mem_of_getElem? (i := 2) rfl)) (by decide) (by decide)) (g := (mkF m 23 #[.val (.long p1), .second, .val (.long p2), .second, .val (.int p3), .val (.int p4), .val (.long (own_m0_0_L6 p1 p2 p3 p4)), .second, .unset, .unset, .unset, .unset, .unset, .unset] [(.long (own_m0_0_L6 p1 p2 p3 p4)), (.long p1)])) rfl (by rw [hml]; rfl) (argsL := [(.long p1), (.long (own_m0_0_L6 p1 p2 p3 p4))]) (rest := []) (lenOf own_pd0 rfl) rfl (by show 2 * 0 + _ ≤ _; exact Nat.le_of_eq rfl) (hb hby at_23) (fun _ _ => ⟨rfl, e0, (by decide : 0 + 0 ≤ _), (by decide : 0 + 0 ≤ _)⟩)
  dsimp only [Pt.U, Pt.locs, Pt.cells, Pt.slots] at X4 l4 y4 z4 st4 hQ4
  subst l4 y4 z4
  obtain ⟨rfl, N4q, e4⟩ := hQ4
  have N4 := Fr.app N0 N4q
  have k5 : ∀ t, Steps p.tables e below (T4.setTop (mkF m 26 #[.val (.long p1), .second, .val (.long p2), .second, .val (.int p3), .val (.int p4), .val (.long (own_m0_0_L6 p1 p2 p3 p4)), .second, .unset, .unset, .unset, .unset, .unset, .unset] [(.long (own_vrb p1 (own_m0_0_L6 p1 p2 p3 p4)))])) t → Steps p.tables e below (s₁.setTop (entryFrame m #[(.long p1), (.long p2), (.int p3), (.int p4)] maxLocals)) t := fun t k => k3 t (st4 t k)
  have k6 : ∀ t, Steps p.tables e below (T4.setTop (mkF m 28 #[.val (.long p1), .second, .val (.long p2), .second, .val (.int p3), .val (.int p4), .val (.long (own_m0_0_L6 p1 p2 p3 p4)), .second, .val (.long (own_vrb p1 (own_m0_0_L6 p1 p2 p3 p4))), .second, .unset, .unset, .unset, .unset] [])) t → Steps p.tables e below (s₁.setTop (entryFrame m #[(.long p1), (.long p2), (.int p3), (.int p4)] maxLocals)) t := by
    intro t k
    refine k5 t ?_
    show Steps p.tables e below (T4.setTop (mkF m 26 #[.val (.long p1), .second, .val (.long p2), .second, .val (.int p3), .val (.int p4), .val (.long (own_m0_0_L6 p1 p2 p3 p4)), .second, .unset, .unset, .unset, .unset, .unset, .unset] [(.long (own_vrb p1 (own_m0_0_L6 p1 p2 p3 p4)))])) _
    refine XS.lstore X4.here hx rfl (hb hby at_26) rfl (l' := #[.val (.long p1), .second, .val (.long p2), .second, .val (.int p3), .val (.int p4), .val (.long (own_m0_0_L6 p1 p2 p3 p4)), .second, .val (.long (own_vrb p1 (own_m0_0_L6 p1 p2 p3 p4))), .second, .unset, .unset, .unset, .unset]) rfl ?_
    exact k
  have k7 : ∀ t, Steps p.tables e below (T4.setTop (mkF m 47 #[.val (.long p1), .second, .val (.long p2), .second, .val (.int p3), .val (.int p4), .val (.long (own_m0_0_L6 p1 p2 p3 p4)), .second, .val (.long (own_vrb p1 (own_m0_0_L6 p1 p2 p3 p4))), .second, .val (.long (95443717689 : Int64)), .second, .val (.int (own_m0_28_L12 p1 p2 p3 p4)), .unset] [])) t → Steps p.tables e below (s₁.setTop (entryFrame m #[(.long p1), (.long p2), (.int p3), (.int p4)] maxLocals)) t := by
    intro t k
    refine k6 t ?_
    show Steps p.tables e below (T4.setTop (mkF m 28 #[.val (.long p1), .second, .val (.long p2), .second, .val (.int p3), .val (.int p4), .val (.long (own_m0_0_L6 p1 p2 p3 p4)), .second, .val (.long (own_vrb p1 (own_m0_0_L6 p1 p2 p3 p4))), .second, .unset, .unset, .unset, .unset] [])) _
    refine X4.ldc2Long hx hown (mvT hZ (hw _ (List.mem_of_getElem? (i := 4) rfl))) (g := (mkF m 28 #[.val (.long p1), .second, .val (.long p2), .second, .val (.int p3), .val (.int p4), .val (.long (own_m0_0_L6 p1 p2 p3 p4)), .second, .val (.long (own_vrb p1 (own_m0_0_L6 p1 p2 p3 p4))), .second, .unset, .unset, .unset, .unset] [])) rfl (hb hby at_28) _ ?_
    show Steps p.tables e below (T4.setTop (mkF m 31 #[.val (.long p1), .second, .val (.long p2), .second, .val (.int p3), .val (.int p4), .val (.long (own_m0_0_L6 p1 p2 p3 p4)), .second, .val (.long (own_vrb p1 (own_m0_0_L6 p1 p2 p3 p4))), .second, .unset, .unset, .unset, .unset] [(.long (95443717689 : Int64))])) _
    refine XS.lstore X4.here hx rfl (hb hby at_31) rfl (l' := #[.val (.long p1), .second, .val (.long p2), .second, .val (.int p3), .val (.int p4), .val (.long (own_m0_0_L6 p1 p2 p3 p4)), .second, .val (.long (own_vrb p1 (own_m0_0_L6 p1 p2 p3 p4))), .second, .val (.long (95443717689 : Int64)), .second, .unset, .unset]) rfl ?_
    show Steps p.tables e below (T4.setTop (mkF m 33 #[.val (.long p1), .second, .val (.long p2), .second, .val (.int p3), .val (.int p4), .val (.long (own_m0_0_L6 p1 p2 p3 p4)), .second, .val (.long (own_vrb p1 (own_m0_0_L6 p1 p2 p3 p4))), .second, .val (.long (95443717689 : Int64)), .second, .unset, .unset] [])) _
    refine XS.lload X4.here hx rfl (hb hby at_33) rfl ?_
    show Steps p.tables e below (T4.setTop (mkF m 35 #[.val (.long p1), .second, .val (.long p2), .second, .val (.int p3), .val (.int p4), .val (.long (own_m0_0_L6 p1 p2 p3 p4)), .second, .val (.long (own_vrb p1 (own_m0_0_L6 p1 p2 p3 p4))), .second, .val (.long (95443717689 : Int64)), .second, .unset, .unset] [(.long (own_vrb p1 (own_m0_0_L6 p1 p2 p3 p4)))])) _
    refine XS.lloadN X4.here hx rfl (hb hby at_35) rfl ?_
    show Steps p.tables e below (T4.setTop (mkF m 36 #[.val (.long p1), .second, .val (.long p2), .second, .val (.int p3), .val (.int p4), .val (.long (own_m0_0_L6 p1 p2 p3 p4)), .second, .val (.long (own_vrb p1 (own_m0_0_L6 p1 p2 p3 p4))), .second, .val (.long (95443717689 : Int64)), .second, .unset, .unset] [(.long p1), (.long (own_vrb p1 (own_m0_0_L6 p1 p2 p3 p4)))])) _
    refine XS.lcmp X4.here hx rfl (hb hby at_36) rfl ?_
    by_cases hc37_8 : (lcmpW (own_vrb p1 (own_m0_0_L6 p1 p2 p3 p4)) p1) = (0 : Int32)
    · show Steps p.tables e below (T4.setTop (mkF m 37 #[.val (.long p1), .second, .val (.long p2), .second, .val (.int p3), .val (.int p4), .val (.long (own_m0_0_L6 p1 p2 p3 p4)), .second, .val (.long (own_vrb p1 (own_m0_0_L6 p1 p2 p3 p4))), .second, .val (.long (95443717689 : Int64)), .second, .unset, .unset] [(.int (lcmpW (own_vrb p1 (own_m0_0_L6 p1 p2 p3 p4)) p1))])) _
      refine XS.ifNo X4.here hx rfl (hb hby at_37) rfl ((if0 _ _).trans (teq hc37_8).2) ?_
      show Steps p.tables e below (T4.setTop (mkF m 40 #[.val (.long p1), .second, .val (.long p2), .second, .val (.int p3), .val (.int p4), .val (.long (own_m0_0_L6 p1 p2 p3 p4)), .second, .val (.long (own_vrb p1 (own_m0_0_L6 p1 p2 p3 p4))), .second, .val (.long (95443717689 : Int64)), .second, .unset, .unset] [])) _
      refine XS.iconst X4.here hx rfl (hb hby at_40) ?_
      show Steps p.tables e below (T4.setTop (mkF m 41 #[.val (.long p1), .second, .val (.long p2), .second, .val (.int p3), .val (.int p4), .val (.long (own_m0_0_L6 p1 p2 p3 p4)), .second, .val (.long (own_vrb p1 (own_m0_0_L6 p1 p2 p3 p4))), .second, .val (.long (95443717689 : Int64)), .second, .unset, .unset] [(.int (1 : Int32))])) _
      refine XS.goto X4.here hx rfl (pc0 := 41) (pc' := 45) rfl (hb hby at_41) (by decide) (by decide) ?_
      show Steps p.tables e below (T4.setTop (mkF m 45 #[.val (.long p1), .second, .val (.long p2), .second, .val (.int p3), .val (.int p4), .val (.long (own_m0_0_L6 p1 p2 p3 p4)), .second, .val (.long (own_vrb p1 (own_m0_0_L6 p1 p2 p3 p4))), .second, .val (.long (95443717689 : Int64)), .second, .unset, .unset] [(.int (1 : Int32))])) _
      refine XS.istore X4.here hx rfl (hb hby at_45) rfl (l' := #[.val (.long p1), .second, .val (.long p2), .second, .val (.int p3), .val (.int p4), .val (.long (own_m0_0_L6 p1 p2 p3 p4)), .second, .val (.long (own_vrb p1 (own_m0_0_L6 p1 p2 p3 p4))), .second, .val (.long (95443717689 : Int64)), .second, .val (.int (1 : Int32)), .unset]) rfl ?_
      have q0 : (own_m0_28_L12 p1 p2 p3 p4) = (1 : Int32) := (if_pos hc37_8)
      rw [q0] at k
      exact k
    · show Steps p.tables e below (T4.setTop (mkF m 37 #[.val (.long p1), .second, .val (.long p2), .second, .val (.int p3), .val (.int p4), .val (.long (own_m0_0_L6 p1 p2 p3 p4)), .second, .val (.long (own_vrb p1 (own_m0_0_L6 p1 p2 p3 p4))), .second, .val (.long (95443717689 : Int64)), .second, .unset, .unset] [(.int (lcmpW (own_vrb p1 (own_m0_0_L6 p1 p2 p3 p4)) p1))])) _
      refine XS.ifYes X4.here hx rfl (pc0 := 37) (pc' := 44) rfl (hb hby at_37) rfl ((if0 _ _).trans (feq hc37_8).2) (by decide) (by decide) ?_
      show Steps p.tables e below (T4.setTop (mkF m 44 #[.val (.long p1), .second, .val (.long p2), .second, .val (.int p3), .val (.int p4), .val (.long (own_m0_0_L6 p1 p2 p3 p4)), .second, .val (.long (own_vrb p1 (own_m0_0_L6 p1 p2 p3 p4))), .second, .val (.long (95443717689 : Int64)), .second, .unset, .unset] [])) _
      refine XS.iconst X4.here hx rfl (hb hby at_44) ?_
      show Steps p.tables e below (T4.setTop (mkF m 45 #[.val (.long p1), .second, .val (.long p2), .second, .val (.int p3), .val (.int p4), .val (.long (own_m0_0_L6 p1 p2 p3 p4)), .second, .val (.long (own_vrb p1 (own_m0_0_L6 p1 p2 p3 p4))), .second, .val (.long (95443717689 : Int64)), .second, .unset, .unset] [(.int (0 : Int32))])) _
      refine XS.istore X4.here hx rfl (hb hby at_45) rfl (l' := #[.val (.long p1), .second, .val (.long p2), .second, .val (.int p3), .val (.int p4), .val (.long (own_m0_0_L6 p1 p2 p3 p4)), .second, .val (.long (own_vrb p1 (own_m0_0_L6 p1 p2 p3 p4))), .second, .val (.long (95443717689 : Int64)), .second, .val (.int (0 : Int32)), .unset]) rfl ?_
      have q0 : (own_m0_28_L12 p1 p2 p3 p4) = (0 : Int32) := (if_neg hc37_8)
      rw [q0] at k
      exact k
  have k9 : ∀ t, Steps p.tables e below (T4.setTop (mkF m 64 #[.val (.long p1), .second, .val (.long p2), .second, .val (.int p3), .val (.int p4), .val (.long (own_m0_0_L6 p1 p2 p3 p4)), .second, .val (.long (own_vrb p1 (own_m0_0_L6 p1 p2 p3 p4))), .second, .val (.long (95443717689 : Int64)), .second, .val (.int (own_m0_28_L12 p1 p2 p3 p4)), .val (.int (own_m0_47_L13 p1 p2 p3 p4))] [])) t → Steps p.tables e below (s₁.setTop (entryFrame m #[(.long p1), (.long p2), (.int p3), (.int p4)] maxLocals)) t := by
    intro t k
    refine k7 t ?_
    show Steps p.tables e below (T4.setTop (mkF m 47 #[.val (.long p1), .second, .val (.long p2), .second, .val (.int p3), .val (.int p4), .val (.long (own_m0_0_L6 p1 p2 p3 p4)), .second, .val (.long (own_vrb p1 (own_m0_0_L6 p1 p2 p3 p4))), .second, .val (.long (95443717689 : Int64)), .second, .val (.int (own_m0_28_L12 p1 p2 p3 p4)), .unset] [])) _
    refine XS.lload X4.here hx rfl (hb hby at_47) rfl ?_
    show Steps p.tables e below (T4.setTop (mkF m 49 #[.val (.long p1), .second, .val (.long p2), .second, .val (.int p3), .val (.int p4), .val (.long (own_m0_0_L6 p1 p2 p3 p4)), .second, .val (.long (own_vrb p1 (own_m0_0_L6 p1 p2 p3 p4))), .second, .val (.long (95443717689 : Int64)), .second, .val (.int (own_m0_28_L12 p1 p2 p3 p4)), .unset] [(.long (own_vrb p1 (own_m0_0_L6 p1 p2 p3 p4)))])) _
    refine XS.lload X4.here hx rfl (hb hby at_49) rfl ?_
    show Steps p.tables e below (T4.setTop (mkF m 51 #[.val (.long p1), .second, .val (.long p2), .second, .val (.int p3), .val (.int p4), .val (.long (own_m0_0_L6 p1 p2 p3 p4)), .second, .val (.long (own_vrb p1 (own_m0_0_L6 p1 p2 p3 p4))), .second, .val (.long (95443717689 : Int64)), .second, .val (.int (own_m0_28_L12 p1 p2 p3 p4)), .unset] [(.long (95443717689 : Int64)), (.long (own_vrb p1 (own_m0_0_L6 p1 p2 p3 p4)))])) _
    refine XS.ladd X4.here hx rfl (hb hby at_51) rfl ?_
    show Steps p.tables e below (T4.setTop (mkF m 52 #[.val (.long p1), .second, .val (.long p2), .second, .val (.int p3), .val (.int p4), .val (.long (own_m0_0_L6 p1 p2 p3 p4)), .second, .val (.long (own_vrb p1 (own_m0_0_L6 p1 p2 p3 p4))), .second, .val (.long (95443717689 : Int64)), .second, .val (.int (own_m0_28_L12 p1 p2 p3 p4)), .unset] [(.long ((own_vrb p1 (own_m0_0_L6 p1 p2 p3 p4)) + (95443717689 : Int64)))])) _
    refine XS.lloadN X4.here hx rfl (hb hby at_52) rfl ?_
    show Steps p.tables e below (T4.setTop (mkF m 53 #[.val (.long p1), .second, .val (.long p2), .second, .val (.int p3), .val (.int p4), .val (.long (own_m0_0_L6 p1 p2 p3 p4)), .second, .val (.long (own_vrb p1 (own_m0_0_L6 p1 p2 p3 p4))), .second, .val (.long (95443717689 : Int64)), .second, .val (.int (own_m0_28_L12 p1 p2 p3 p4)), .unset] [(.long p1), (.long ((own_vrb p1 (own_m0_0_L6 p1 p2 p3 p4)) + (95443717689 : Int64)))])) _
    refine XS.lcmp X4.here hx rfl (hb hby at_53) rfl ?_
    by_cases hc54_10 : (lcmpW ((own_vrb p1 (own_m0_0_L6 p1 p2 p3 p4)) + (95443717689 : Int64)) p1) = (0 : Int32)
    · show Steps p.tables e below (T4.setTop (mkF m 54 #[.val (.long p1), .second, .val (.long p2), .second, .val (.int p3), .val (.int p4), .val (.long (own_m0_0_L6 p1 p2 p3 p4)), .second, .val (.long (own_vrb p1 (own_m0_0_L6 p1 p2 p3 p4))), .second, .val (.long (95443717689 : Int64)), .second, .val (.int (own_m0_28_L12 p1 p2 p3 p4)), .unset] [(.int (lcmpW ((own_vrb p1 (own_m0_0_L6 p1 p2 p3 p4)) + (95443717689 : Int64)) p1))])) _
      refine XS.ifNo X4.here hx rfl (hb hby at_54) rfl ((if0 _ _).trans (teq hc54_10).2) ?_
      show Steps p.tables e below (T4.setTop (mkF m 57 #[.val (.long p1), .second, .val (.long p2), .second, .val (.int p3), .val (.int p4), .val (.long (own_m0_0_L6 p1 p2 p3 p4)), .second, .val (.long (own_vrb p1 (own_m0_0_L6 p1 p2 p3 p4))), .second, .val (.long (95443717689 : Int64)), .second, .val (.int (own_m0_28_L12 p1 p2 p3 p4)), .unset] [])) _
      refine XS.iconst X4.here hx rfl (hb hby at_57) ?_
      show Steps p.tables e below (T4.setTop (mkF m 58 #[.val (.long p1), .second, .val (.long p2), .second, .val (.int p3), .val (.int p4), .val (.long (own_m0_0_L6 p1 p2 p3 p4)), .second, .val (.long (own_vrb p1 (own_m0_0_L6 p1 p2 p3 p4))), .second, .val (.long (95443717689 : Int64)), .second, .val (.int (own_m0_28_L12 p1 p2 p3 p4)), .unset] [(.int (1 : Int32))])) _
      refine XS.goto X4.here hx rfl (pc0 := 58) (pc' := 62) rfl (hb hby at_58) (by decide) (by decide) ?_
      show Steps p.tables e below (T4.setTop (mkF m 62 #[.val (.long p1), .second, .val (.long p2), .second, .val (.int p3), .val (.int p4), .val (.long (own_m0_0_L6 p1 p2 p3 p4)), .second, .val (.long (own_vrb p1 (own_m0_0_L6 p1 p2 p3 p4))), .second, .val (.long (95443717689 : Int64)), .second, .val (.int (own_m0_28_L12 p1 p2 p3 p4)), .unset] [(.int (1 : Int32))])) _
      refine XS.istore X4.here hx rfl (hb hby at_62) rfl (l' := #[.val (.long p1), .second, .val (.long p2), .second, .val (.int p3), .val (.int p4), .val (.long (own_m0_0_L6 p1 p2 p3 p4)), .second, .val (.long (own_vrb p1 (own_m0_0_L6 p1 p2 p3 p4))), .second, .val (.long (95443717689 : Int64)), .second, .val (.int (own_m0_28_L12 p1 p2 p3 p4)), .val (.int (1 : Int32))]) rfl ?_
      have q0 : (own_m0_47_L13 p1 p2 p3 p4) = (1 : Int32) := (if_pos hc54_10)
      rw [q0] at k
      exact k
    · show Steps p.tables e below (T4.setTop (mkF m 54 #[.val (.long p1), .second, .val (.long p2), .second, .val (.int p3), .val (.int p4), .val (.long (own_m0_0_L6 p1 p2 p3 p4)), .second, .val (.long (own_vrb p1 (own_m0_0_L6 p1 p2 p3 p4))), .second, .val (.long (95443717689 : Int64)), .second, .val (.int (own_m0_28_L12 p1 p2 p3 p4)), .unset] [(.int (lcmpW ((own_vrb p1 (own_m0_0_L6 p1 p2 p3 p4)) + (95443717689 : Int64)) p1))])) _
      refine XS.ifYes X4.here hx rfl (pc0 := 54) (pc' := 61) rfl (hb hby at_54) rfl ((if0 _ _).trans (feq hc54_10).2) (by decide) (by decide) ?_
      show Steps p.tables e below (T4.setTop (mkF m 61 #[.val (.long p1), .second, .val (.long p2), .second, .val (.int p3), .val (.int p4), .val (.long (own_m0_0_L6 p1 p2 p3 p4)), .second, .val (.long (own_vrb p1 (own_m0_0_L6 p1 p2 p3 p4))), .second, .val (.long (95443717689 : Int64)), .second, .val (.int (own_m0_28_L12 p1 p2 p3 p4)), .unset] [])) _
      refine XS.iconst X4.here hx rfl (hb hby at_61) ?_
      show Steps p.tables e below (T4.setTop (mkF m 62 #[.val (.long p1), .second, .val (.long p2), .second, .val (.int p3), .val (.int p4), .val (.long (own_m0_0_L6 p1 p2 p3 p4)), .second, .val (.long (own_vrb p1 (own_m0_0_L6 p1 p2 p3 p4))), .second, .val (.long (95443717689 : Int64)), .second, .val (.int (own_m0_28_L12 p1 p2 p3 p4)), .unset] [(.int (0 : Int32))])) _
      refine XS.istore X4.here hx rfl (hb hby at_62) rfl (l' := #[.val (.long p1), .second, .val (.long p2), .second, .val (.int p3), .val (.int p4), .val (.long (own_m0_0_L6 p1 p2 p3 p4)), .second, .val (.long (own_vrb p1 (own_m0_0_L6 p1 p2 p3 p4))), .second, .val (.long (95443717689 : Int64)), .second, .val (.int (own_m0_28_L12 p1 p2 p3 p4)), .val (.int (0 : Int32))]) rfl ?_
      have q0 : (own_m0_47_L13 p1 p2 p3 p4) = (0 : Int32) := (if_neg hc54_10)
      rw [q0] at k
      exact k
  have k11 : ∀ t, Steps p.tables e below (T4.setTop (mkF m 68 #[.val (.long p1), .second, .val (.long p2), .second, .val (.int p3), .val (.int p4), .val (.long (own_m0_0_L6 p1 p2 p3 p4)), .second, .val (.long (own_vrb p1 (own_m0_0_L6 p1 p2 p3 p4))), .second, .val (.long (95443717689 : Int64)), .second, .val (.int (own_m0_28_L12 p1 p2 p3 p4)), .val (.int (own_m0_47_L13 p1 p2 p3 p4))] [(.int (lcmpW (own_m0_0_L6 p1 p2 p3 p4) p1))])) t → Steps p.tables e below (s₁.setTop (entryFrame m #[(.long p1), (.long p2), (.int p3), (.int p4)] maxLocals)) t := by
    intro t k
    refine k9 t ?_
    show Steps p.tables e below (T4.setTop (mkF m 64 #[.val (.long p1), .second, .val (.long p2), .second, .val (.int p3), .val (.int p4), .val (.long (own_m0_0_L6 p1 p2 p3 p4)), .second, .val (.long (own_vrb p1 (own_m0_0_L6 p1 p2 p3 p4))), .second, .val (.long (95443717689 : Int64)), .second, .val (.int (own_m0_28_L12 p1 p2 p3 p4)), .val (.int (own_m0_47_L13 p1 p2 p3 p4))] [])) _
    refine XS.lload X4.here hx rfl (hb hby at_64) rfl ?_
    show Steps p.tables e below (T4.setTop (mkF m 66 #[.val (.long p1), .second, .val (.long p2), .second, .val (.int p3), .val (.int p4), .val (.long (own_m0_0_L6 p1 p2 p3 p4)), .second, .val (.long (own_vrb p1 (own_m0_0_L6 p1 p2 p3 p4))), .second, .val (.long (95443717689 : Int64)), .second, .val (.int (own_m0_28_L12 p1 p2 p3 p4)), .val (.int (own_m0_47_L13 p1 p2 p3 p4))] [(.long (own_m0_0_L6 p1 p2 p3 p4))])) _
    refine XS.lloadN X4.here hx rfl (hb hby at_66) rfl ?_
    show Steps p.tables e below (T4.setTop (mkF m 67 #[.val (.long p1), .second, .val (.long p2), .second, .val (.int p3), .val (.int p4), .val (.long (own_m0_0_L6 p1 p2 p3 p4)), .second, .val (.long (own_vrb p1 (own_m0_0_L6 p1 p2 p3 p4))), .second, .val (.long (95443717689 : Int64)), .second, .val (.int (own_m0_28_L12 p1 p2 p3 p4)), .val (.int (own_m0_47_L13 p1 p2 p3 p4))] [(.long p1), (.long (own_m0_0_L6 p1 p2 p3 p4))])) _
    refine XS.lcmp X4.here hx rfl (hb hby at_67) rfl ?_
    exact k
  by_cases hc68_12 : (lcmpW (own_m0_0_L6 p1 p2 p3 p4) p1) < (0 : Int32)
  · have k13 : ∀ t, Steps p.tables e below (T4.setTop (mkF m 76 #[.val (.long p1), .second, .val (.long p2), .second, .val (.int p3), .val (.int p4), .val (.long (own_m0_0_L6 p1 p2 p3 p4)), .second, .val (.long (own_vrb p1 (own_m0_0_L6 p1 p2 p3 p4))), .second, .val (.long (95443717689 : Int64)), .second, .val (.int (own_m0_28_L12 p1 p2 p3 p4)), .val (.int (own_m0_47_L13 p1 p2 p3 p4))] [(.int (own_m0_47_L13 p1 p2 p3 p4))])) t → Steps p.tables e below (s₁.setTop (entryFrame m #[(.long p1), (.long p2), (.int p3), (.int p4)] maxLocals)) t := by
      intro t k
      refine k11 t ?_
      show Steps p.tables e below (T4.setTop (mkF m 68 #[.val (.long p1), .second, .val (.long p2), .second, .val (.int p3), .val (.int p4), .val (.long (own_m0_0_L6 p1 p2 p3 p4)), .second, .val (.long (own_vrb p1 (own_m0_0_L6 p1 p2 p3 p4))), .second, .val (.long (95443717689 : Int64)), .second, .val (.int (own_m0_28_L12 p1 p2 p3 p4)), .val (.int (own_m0_47_L13 p1 p2 p3 p4))] [(.int (lcmpW (own_m0_0_L6 p1 p2 p3 p4) p1))])) _
      refine XS.ifYes X4.here hx rfl (pc0 := 68) (pc' := 74) rfl (hb hby at_68) rfl ((if0 _ _).trans (tlt hc68_12).1) (by decide) (by decide) ?_
      show Steps p.tables e below (T4.setTop (mkF m 74 #[.val (.long p1), .second, .val (.long p2), .second, .val (.int p3), .val (.int p4), .val (.long (own_m0_0_L6 p1 p2 p3 p4)), .second, .val (.long (own_vrb p1 (own_m0_0_L6 p1 p2 p3 p4))), .second, .val (.long (95443717689 : Int64)), .second, .val (.int (own_m0_28_L12 p1 p2 p3 p4)), .val (.int (own_m0_47_L13 p1 p2 p3 p4))] [])) _
      refine XS.iload X4.here hx rfl (hb hby at_74) rfl ?_
      exact k
    obtain ⟨fs, hr, hrun, hended, hW, hsame⟩ := X4.leave (v := (some (.int (nar .boolean (own_m0_47_L13 p1 p2 p3 p4))))) (fun h => by rw [Bd.returns] at h; cases h)
    refine ⟨_, _, k13 _ ?_, hrun, hended, _, _, rfl, ?_, ⟨_, rfl⟩, hW, hsame.mono (by decide) (by decide)⟩
    · exact retN X4 hx (t := .boolean) Bd.returns (by simp) (hb hby at_76) hr
    · have hv : (own_v0 p1 p2 p3 p4) = (nar .boolean (own_m0_47_L13 p1 p2 p3 p4)) := (if_pos hc68_12)
      have h1 : (nar .boolean (own_m0_47_L13 p1 p2 p3 p4)) = (1 : Int32) := hv.symm.trans hone
      exact ⟨congrArg (fun z => some (Value.int z)) h1, N4⟩
  · have k14 : ∀ t, Steps p.tables e below (T4.setTop (mkF m 73 #[.val (.long p1), .second, .val (.long p2), .second, .val (.int p3), .val (.int p4), .val (.long (own_m0_0_L6 p1 p2 p3 p4)), .second, .val (.long (own_vrb p1 (own_m0_0_L6 p1 p2 p3 p4))), .second, .val (.long (95443717689 : Int64)), .second, .val (.int (own_m0_28_L12 p1 p2 p3 p4)), .val (.int (own_m0_47_L13 p1 p2 p3 p4))] [(.int (own_m0_28_L12 p1 p2 p3 p4))])) t → Steps p.tables e below (s₁.setTop (entryFrame m #[(.long p1), (.long p2), (.int p3), (.int p4)] maxLocals)) t := by
      intro t k
      refine k11 t ?_
      show Steps p.tables e below (T4.setTop (mkF m 68 #[.val (.long p1), .second, .val (.long p2), .second, .val (.int p3), .val (.int p4), .val (.long (own_m0_0_L6 p1 p2 p3 p4)), .second, .val (.long (own_vrb p1 (own_m0_0_L6 p1 p2 p3 p4))), .second, .val (.long (95443717689 : Int64)), .second, .val (.int (own_m0_28_L12 p1 p2 p3 p4)), .val (.int (own_m0_47_L13 p1 p2 p3 p4))] [(.int (lcmpW (own_m0_0_L6 p1 p2 p3 p4) p1))])) _
      refine XS.ifNo X4.here hx rfl (hb hby at_68) rfl ((if0 _ _).trans (flt hc68_12).1) ?_
      show Steps p.tables e below (T4.setTop (mkF m 71 #[.val (.long p1), .second, .val (.long p2), .second, .val (.int p3), .val (.int p4), .val (.long (own_m0_0_L6 p1 p2 p3 p4)), .second, .val (.long (own_vrb p1 (own_m0_0_L6 p1 p2 p3 p4))), .second, .val (.long (95443717689 : Int64)), .second, .val (.int (own_m0_28_L12 p1 p2 p3 p4)), .val (.int (own_m0_47_L13 p1 p2 p3 p4))] [])) _
      refine XS.iload X4.here hx rfl (hb hby at_71) rfl ?_
      exact k
    obtain ⟨fs, hr, hrun, hended, hW, hsame⟩ := X4.leave (v := (some (.int (nar .boolean (own_m0_28_L12 p1 p2 p3 p4))))) (fun h => by rw [Bd.returns] at h; cases h)
    refine ⟨_, _, k14 _ ?_, hrun, hended, _, _, rfl, ?_, ⟨_, rfl⟩, hW, hsame.mono (by decide) (by decide)⟩
    · exact retN X4 hx (t := .boolean) Bd.returns (by simp) (hb hby at_73) hr
    · have hv : (own_v0 p1 p2 p3 p4) = (nar .boolean (own_m0_28_L12 p1 p2 p3 p4)) := (if_neg hc68_12)
      have h1 : (nar .boolean (own_m0_28_L12 p1 p2 p3 p4)) = (1 : Int32) := hv.symm.trans hone
      exact ⟨congrArg (fun z => some (Value.int z)) h1, N4⟩
set_option maxRecDepth 65536 in
set_option maxHeartbeats 40000000 in
theorem comes_1 {Post : Tables → Env → Array Value → State → Outcome → State → Prop} (hpost : ∀ tb e args s v u, (limb_1_1.after args s (.returned v) u = true ∧ limb_1_2.after args s (.returned v) u = true ∧ True) → FrameEnd s (.returned v) u (Jvm.fieldLocs frame_1_writes args s ++ Jvm.arrayLocs frame_1_arrays args s ++ Jvm.staticLocs frame_1_statics s) 0 0 → Post tb e args s (.returned v) u) :
    ArmFor flags0 classFile x code maxLocals ret World_1 tables_1 room_1 Calls_1 rest_1 Pre_1 Post := by
  intro l hfl _ _ p e ha hc hk s m args below hf hA hF happ hP
  obtain ⟨hcalls, hrest, hpre⟩ := hP
  obtain ⟨-, -, -, hnamed, -, -, -, hat⟩ := (Spec.applies_iff hf).mp happ
  obtain ⟨hg, hn⟩ := and_e (Cond.before_iff.mp (show (Jvm.Cond.and given_1 narrow_1).before args s = true from hpre))
  obtain ⟨hg0, hg⟩ := and_e hg
  obtain ⟨hi0, hg⟩ := and_e hg
  obtain ⟨hi1, hg⟩ := and_e hg
  obtain ⟨hi2, hg⟩ := and_e hg
  have hi3 := hg
  obtain ⟨w0, w1, w2, w3, rfl⟩ : ∃ w0 w1 w2 w3 : Value, args = #[w0, w1, w2, w3] := by
    have hs : args.size = 4 := by simpa [Cond.value, given_1] using hg0
    obtain ⟨L⟩ := args
    match L, hs with
    | [w0, w1, w2, w3], _ => exact ⟨w0, w1, w2, w3, rfl⟩
  have hw := fun d (hd : d ∈ tables_1) => atoms_spec (ws := Jvm.Cond.code x code maxLocals ret :: tables_1) hat d (List.mem_cons_of_mem _ hd)
  obtain ⟨p1, ev0⟩ := isL_v hi0
  obtain rfl : w0 = (.long p1) := Option.some.inj ev0
  obtain ⟨p2, ev1⟩ := isL_v hi1
  obtain rfl : w1 = (.long p2) := Option.some.inj ev1
  obtain ⟨p3, ev2⟩ := is_v hi2
  obtain rfl : w2 = (.int p3) := Option.some.inj ev2
  obtain ⟨p4, ev3⟩ := is_v hi3
  obtain rfl : w3 = (.int p4) := Option.some.inj ev3
  obtain ⟨n, o, h1, h2, h3, _, L, rfl, ⟨rfl, N⟩, hq⟩ := own_rm0 l s _ hw tables_1 p1 p2 p3 p4  s.heap s.heap.size (Nat.le_refl _)  (own_one p1 p2 p3 p4) p e ha hc hk s m _ below hf ((Spec.applies_iff_loose hf).mp happ).1 ⟨rfl, State.Warmed39.refl s, rfl⟩ trivial
  refine ⟨n, _, h1, h2, h3, hpost _ _ _ _ _ _ ⟨Cond.after_iff.mpr rfl, Cond.after_iff.mpr (eq_i res_at (Term.int_eval (1)) rfl), trivial⟩ ⟨hq.1, hq.2.1, (hq.2.2.sift fun y hy => Or.inr (N y hy)).mono (by decide) (by decide)⟩⟩
theorem main_1_1 : Claimed_1_1 := comes_1 fun _ _ _ _ _ _ h hF => ⟨h.1, hF⟩
theorem main_1_2 : Claimed_1_2 := comes_1 fun _ _ _ _ _ _ h hF => ⟨h.2.1, hF⟩
end Jvm.Pilot.@@N@@
namespace Jvm.Pilot.@@N@@
open Jvm Jvm.ClassFile Sem Op Lib Jvm.Free Jvm.Stand Jvm.Pilot.@@N@@.Jvm.D
/-! MADE BY PROGRAM (witnessworld.py) out of the Statement's table words and the real class files: 9 classes; the members and pool entries that the words name. The judged class is class 1, her method 1. -/
namespace start1
open Jvm.ClassFile
def u (s : String) : CpInfo := .utf8 (stringToUtf16 s)
/-- a pool by its gaps: so many unusable entries, then the entry; so many at the end -/
def gap : Nat → List CpInfo → List CpInfo
  | 0, r => r
  | n + 1, r => .unusable :: gap n r
def poolList (es : List (Nat × CpInfo)) (last : Nat) : List CpInfo := es.foldr (fun e r => gap e.1 (e.2 :: r)) (gap last [])
def pool (es : List (Nat × CpInfo)) (last : Nat) : Array CpInfo := ⟨poolList es last⟩
def fileOf (pool : Array CpInfo) (this : Nat) (attrs : Array Attribute := #[]) (ms : Array MethodInfo := #[]) (fl : Nat := 33) (sup : Nat := 0) (ifs : Array Nat := #[]) (fds : Array FieldInfo := #[]) : ClassFile where
  minorVersion := 0
  majorVersion := 65
  constantPool := pool
  accessFlags := fl
  thisClass := this
  superClass := sup
  interfaces := ifs
  fields := fds
  methods := ms
  attributes := attrs
def plain (name : String) (sup : Option ClassId) : Class where
  name := name
  kind := .ordinary
  loader := none
  accessFlags := 33
  super := sup
  interfaces := #[]
  cf := none
  fields := #[]
  methods := #[]
  instanceTypes := #[]
  staticTypes := #[]
  resolved := #[]
  callSites := []
  init := .initialized
  statics := none
  mirror := none

def pool0 : Array CpInfo := pool [(5, u "<init>"), (0, u "()V"), (1, .class_ 10), (1, u "java/lang/Object")] 113

def k0m0 : Method := { name := "<init>", desc := "()V", sig := { parameters := [], returnType := none }, accessFlags := 1, code := none }
/-- java/lang/Object -/
def k0 : Class := { plain "java/lang/Object" none with
  accessFlags := 33
  interfaces := #[]
  cf := some (fileOf pool0 8 #[] #[{ accessFlags := 1, nameIndex := 5, descriptorIndex := 6, attributes := #[] }] 33 0 #[] #[])
  fields := #[]
  methods := #[k0m0]
  instanceTypes := #[]
  staticTypes := #[]
  resolved := Array.replicate 124 none
  statics := none }

def pool1 : Array CpInfo := pool [(2, .class_ 4), (1, u "java/lang/Object"), (0, u "<init>"), (0, u "()V"), (0, .methodref 8 9), (0, .class_ 10), (0, .nameAndType 11 12), (0, u "com/example/streamward/streamward/model/StreamClock"), (0, u "readerBase"), (0, u "(JJ)J"), (0, .long 95443717689), (1, .class_ 16), (0, u "com/example/streamward/streamward/model/StreamClockReaderBasePinLaw"), (2, u "law"), (0, u "(JJII)Z")] 3

def k1m0 : Method := { name := "<init>", desc := "()V", sig := { parameters := [], returnType := none }, accessFlags := 2, code := none }
def k1c1 : Code := { maxStack := 4, maxLocals := 14, code := code, exceptionTable := #[], attributes := #[] }
def k1m1 : Method := { name := "law", desc := "(JJII)Z", sig := { parameters := [.long, .long, .int, .int], returnType := some .boolean }, accessFlags := 9, code := some k1c1 }
/-- com/example/streamward/streamward/model/StreamClockReaderBasePinLaw -/
def k1 : Class := { plain "com/example/streamward/streamward/model/StreamClockReaderBasePinLaw" (some 0) with
  accessFlags := 49
  interfaces := #[]
  cf := some (fileOf pool1 15 #[] #[{ accessFlags := 2, nameIndex := 5, descriptorIndex := 6, attributes := #[] }, { accessFlags := 9, nameIndex := 19, descriptorIndex := 20, attributes := #[] }] 49 2 #[] #[])
  fields := #[]
  methods := #[k1m0, k1m1]
  instanceTypes := #[]
  staticTypes := #[]
  resolved := Array.replicate 24 none
  statics := none }

def pool2 : Array CpInfo := pool [(2, .class_ 4), (1, u "java/lang/Object"), (0, u "<init>"), (0, u "()V"), (0, .class_ 8), (0, u "com/example/streamward/streamward/model/StreamClock"), (0, .long 95443717689), (1, u "WRAP_MICROS"), (0, u "J"), (3, u "readerBase"), (0, u "(JJ)J")] 3

def k2m0 : Method := { name := "<init>", desc := "()V", sig := { parameters := [], returnType := none }, accessFlags := 2, code := none }
def k2c1 : Code := { maxStack := 4, maxLocals := 4, code := prog_52_method_2_code, exceptionTable := #[], attributes := #[] }
def k2m1 : Method := { name := "readerBase", desc := "(JJ)J", sig := { parameters := [.long, .long], returnType := some .long }, accessFlags := 9, code := some k2c1 }
/-- com/example/streamward/streamward/model/StreamClock -/
def k2 : Class := { plain "com/example/streamward/streamward/model/StreamClock" (some 0) with
  accessFlags := 49
  interfaces := #[]
  cf := some (fileOf pool2 7 #[] #[{ accessFlags := 2, nameIndex := 5, descriptorIndex := 6, attributes := #[] }, { accessFlags := 9, nameIndex := 16, descriptorIndex := 17, attributes := #[] }] 49 2 #[] #[{ accessFlags := 25, nameIndex := 11, descriptorIndex := 12, attributes := #[] }])
  fields := #[{ name := "WRAP_MICROS", type := .long, accessFlags := 25, slot := 0, constantValue := 0 }]
  methods := #[k2m0, k2m1]
  instanceTypes := #[]
  staticTypes := #[.long]
  resolved := Array.replicate 21 none
  statics := none }

def pool3 : Array CpInfo := pool [(1, u "java/lang/Cloneable"), (0, .class_ 1), (0, u "java/lang/Object"), (0, .class_ 3)] 3

/-- java/lang/Cloneable -/
def k3 : Class := { plain "java/lang/Cloneable" (some 0) with
  accessFlags := 1537
  interfaces := #[]
  cf := some (fileOf pool3 2 #[] #[] 1537 4 #[] #[])
  fields := #[]
  methods := #[]
  instanceTypes := #[]
  staticTypes := #[]
  resolved := Array.replicate 8 none
  statics := none }

def pool4 : Array CpInfo := pool [(1, u "java/io/Serializable"), (0, .class_ 1), (0, u "java/lang/Object"), (0, .class_ 3)] 3

/-- java/io/Serializable -/
def k4 : Class := { plain "java/io/Serializable" (some 0) with
  accessFlags := 1537
  interfaces := #[]
  cf := some (fileOf pool4 2 #[] #[] 1537 4 #[] #[])
  fields := #[]
  methods := #[]
  instanceTypes := #[]
  staticTypes := #[]
  resolved := Array.replicate 8 none
  statics := none }

/-- the primitive byte -/
def k5 : Class := { plain "byte" none with kind := .primitive 'B', accessFlags := 0x411 }
/-- [B -/
def k6 : Class := { plain "[B" (some 0) with kind := .array 5 .byte, interfaces := #[3, 4], accessFlags := 1041 }

/-- the primitive int -/
def k7 : Class := { plain "int" none with kind := .primitive 'I', accessFlags := 0x411 }
/-- [I -/
def k8 : Class := { plain "[I" (some 0) with kind := .array 7 .int, interfaces := #[3, 4], accessFlags := 1041 }

def heap : Heap := #[]
def classes : Array Class := #[k0, k1, k2, k3, k4, k5, k6, k7, k8]
def interned : List (Array UInt16 × Addr) := []
def slotsUsed : Nat := 0
def theMethod : MethodId := ⟨1, 1⟩
def args0 : Array Value := #[.long 5, .long 300, .int 7, .int 3]
def aboutOver (below : List Frame) : State where
  vm := { classes := classes, interned := interned.toArray }
  heap := heap
  slotsUsed := slotsUsed
  threads := #[{ frames := .invoking theMethod args0 :: below }]
def below0 : List Frame := [.native { method := ⟨0, 0⟩, args := #[] }]
def about1 : State := aboutOver below0
def p0 : Program := .bare "" "" ""
def e0 : Env := launch0.env 0 0 0
theorem w_frames : about1.frames = Frame.invoking theMethod args0 :: below0 := rfl
set_option maxRecDepth 65536 in
theorem w_args : argsFit about1.vm theMethod args0 = true := by decide +kernel
set_option maxRecDepth 65536 in
theorem w_heap : heapFits about1 = true := by decide +kernel
set_option maxRecDepth 65536 in
theorem w_runnable : about1.curStatus? = some .runnable := by decide +kernel
set_option maxRecDepth 65536 in
theorem w_alone : about1.alone = true := by decide +kernel
set_option maxRecDepth 65536 in
theorem w_named : about1.methodNamed? x = some theMethod := by decide +kernel
set_option maxRecDepth 65536 in
theorem w_hears : about1.hears theMethod below0 = true := by decide +kernel
set_option maxRecDepth 65536 in
theorem w_ripe : about1.ripe theMethod args0 below0 = true := by decide +kernel
theorem w_running : about1.status = .running := rfl
set_option maxRecDepth 65536 in
theorem w_room : about1.hasRoom e0.platform room_1 = true :=
  launch0.hasRoom_least _ room_1 (by decide +kernel) (by decide +kernel) (by decide +kernel) (by decide +kernel) (by decide +kernel) (by decide +kernel)
theorem allAtoms_all (ts : List Jvm.Cond) (a : Array Jvm.Value) (st : Jvm.State) : (allAtoms ts).before a st = ts.all (fun c => c.before a st) := by
  induction ts with
  | nil => rfl
  | cons c t ih =>
    show (Jvm.Cond.and c (allAtoms t)).before a st = _
    rw [Jvm.Cond.before_and, ih, List.all_cons]
def words1 : List Jvm.Cond := Jvm.Cond.code x code maxLocals ret :: tables_1
/-- a 'code' word, met by the world's own term for the bytes: nothing is compared byte by byte -/
theorem code_word {y : MethodName} {bytes : ByteArray} {mx : Nat} {rt : Option FieldType} {a : Array Value} {s : State} {m : MethodId} {meth : Method} {c : Code} (h1 : s.methodNamed? y = some m) (h2 : s.vm.method? m = some meth) (h3 : meth.code = some c) (h4 : c.code = bytes)
    (h5 : (c.maxLocals == mx && c.exceptionTable.isEmpty && decide (c.maxStack ≤ mostOperands) && decide (meth.sig.returnType = rt) && !meth.locks && decide (parseMethodDescriptor y.desc = some meth.sig)) = true) : (Jvm.Cond.code y bytes mx rt).before a s = true := by
  simp only [Bool.and_eq_true, beq_iff_eq, Bool.not_eq_true', decide_eq_true_eq] at h5
  obtain ⟨⟨⟨⟨⟨g1, g2⟩, g3⟩, g4⟩, g5⟩, g6⟩ := h5
  simp [Cond.before, Cond.holds, Cond.value, h1, h2, h3, h4, g1, g2, g3, g4, g5, g6]
def isCode : Jvm.Cond → Bool
  | .code _ _ _ _ => true
  | _ => false
theorem all_split {L : List Jvm.Cond} {P : Jvm.Cond → Bool} (h1 : L.all (fun c => isCode c || P c) = true) (h2 : ∀ c ∈ L.filter isCode, P c = true) : L.all P = true := by
  refine List.all_eq_true.mpr fun c hc => ?_
  have h := List.all_eq_true.mp h1 c hc
  rcases Bool.eq_false_or_eq_true (isCode c) with hi | hi
  · exact h2 c (List.mem_filter.mpr ⟨hc, hi⟩)
  · simpa [hi] using h
set_option maxRecDepth 65536 in
theorem w_c0 : (Jvm.Cond.code x code maxLocals ret).before args0 about1 = true := code_word (m := ⟨1, 1⟩) (meth := k1m1) (c := k1c1) (by decide +kernel) rfl rfl rfl (by decide +kernel)
set_option maxRecDepth 65536 in
theorem w_c1 : (Jvm.Cond.code ({ cls := "com/example/streamward/streamward/model/StreamClock", name := "readerBase", desc := "(JJ)J" } : Jvm.MethodName) prog_52_method_2_code (4 : Nat) (Option.some Jvm.ClassFile.FieldType.long)).before args0 about1 = true := code_word (m := ⟨2, 1⟩) (meth := k2m1) (c := k2c1) (by decide +kernel) rfl rfl rfl (by decide +kernel)
def codes1 : List Jvm.Cond := [Jvm.Cond.code x code maxLocals ret, Jvm.Cond.code ({ cls := "com/example/streamward/streamward/model/StreamClock", name := "readerBase", desc := "(JJ)J" } : Jvm.MethodName) prog_52_method_2_code (4 : Nat) (Option.some Jvm.ClassFile.FieldType.long)]
set_option maxRecDepth 65536 in
theorem codes_eq : words1.filter isCode = codes1 := rfl
theorem w_codes : ∀ c ∈ words1.filter isCode, c.before args0 about1 = true := by
  rw [codes_eq]
  intro c hc
  simp only [codes1, List.mem_cons, List.not_mem_nil, or_false] at hc
  rcases hc with rfl | rfl
  · exact w_c0
  · exact w_c1
set_option maxRecDepth 65536 in
theorem w_t1 : words1.all (fun c => isCode c || c.before args0 about1) = true := by decide +kernel
theorem w_tables : (allAtoms (Jvm.Cond.code x code maxLocals ret :: tables_1)).before args0 about1 = true := by
  rw [allAtoms_all]
  show words1.all (fun c => c.before args0 about1) = true
  refine all_split ?_ w_codes
  rw [w_t1]
set_option maxRecDepth 65536 in
theorem w_case : (Jvm.Cond.and given_1 narrow_1).before args0 about1 = true := by decide +kernel
theorem w_applies : (headSpec (Jvm.Cond.code x code maxLocals ret :: tables_1) room_1).applies x e0.platform about1 = true :=
  (Spec.applies_iff w_frames).mpr ⟨w_running, w_runnable, w_alone, w_named, w_hears, w_ripe, w_room, w_tables⟩
theorem atStart : AtStart classFile x code maxLocals ret World_1 tables_1 room_1 Calls_1 rest_1 Pre_1 launch0 p0 e0 about1 theMethod args0 below0 :=
  ⟨lists_1, trivial, launch0.admits_env _ _ _, launch0.least_env, fairChoices_fair.cas, fairChoices_fair.clock, w_frames, w_args, w_heap, w_applies, trivial, trivial, w_case⟩
end start1
theorem witness_1 : WitnessClaimed_1 := ⟨start1.p0, start1.e0, start1.about1, start1.theMethod, start1.args0, start1.below0, start1.atStart⟩
end Jvm.Pilot.@@N@@
