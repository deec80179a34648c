import JvmDerived
import JvmDerived.Pilot.@@N@@Statement
import JvmDerived.Pilot.@@N@@Code
set_option linter.unusedVariables false
set_option linter.unusedSimpArgs false
@@BLOCK:HandJ.lean.txt@@
@@BLOCK:SymMore.lean.txt@@
namespace Jvm.RoadKit
open Sem ClassFile Op Lib Jvm.Stand Jvm.Free Jvm.LawKit
section New
variable {p : Program} {l : Launch} {e : Env} {R : Room} {s : State} {m : MethodId} {args : Array Value} {below : List Frame} {meth : Method} {c : Code} {T : State} {locs : List Loc} {cells slots : Nat}
theorem retI (X : Stand p l e R s m args below meth c T locs cells slots) (hx : p.tables.exec = Jvm.exec) {pc : Nat} {Ls : Array Slot} {z : Int32} {rest : List Value} (hret : meth.sig.returnType = some .int) (hd : decode c.code pc = .ok (.ireturn, 1)) {fs : List Frame}
    (hl : ∀ (f : JFrame) (acts : List Action), f.method = m → f.locked = none → f.entered = [] → (doReturn e (T.setTop f) acts (some (.int z))).1 = T.setFrames fs) : Steps p.tables e below (T.setTop (mkF m pc Ls (.int z :: rest))) (T.setFrames fs) := by
  have hm' : T.vm.method? m = some meth := X.method'
  have hn : narrow .int (.int z) = .int z := rfl
  show Steps p.tables e below (T.setTop { method := m, pc := pc, locals := Ls, stack := _ :: rest, locked := none }) _
  jvm_step X.here [X.here.top, hx, hd, hm', hret, hn]
  first | (intro acts; rw [hl _ acts rfl rfl rfl]) | rw [hl _ _ rfl rfl rfl]
  exact Steps.refl _
end New
end Jvm.RoadKit
namespace Jvm.Pilot.@@N@@
open Jvm Jvm.ClassFile Sem Op Lib Jvm.Free Jvm.Stand Jvm.LawKit Jvm.RoadKit Bundle Jvm.Pilot.@@N@@.Jvm.D

def own_ch (v : Int32) : Prop := 0 ≤ v.toInt ∧ v.toInt < 65536
def own_lo (v : Int32) : Int32 := nar .byte ((v >>> ((0 : Int32) &&& 31)).toInt8.toInt32)
def own_hi (v : Int32) : Int32 := nar .byte ((v >>> ((8 : Int32) &&& 31)).toInt8.toInt32)
def own_upd (f : Nat → Int32) (i : Nat) (x : Int32) : Nat → Int32 := fun j => if j = i then x else f j
def own_u16 (c : Nat → Int32) (o : Nat) : Nat → Int32 := fun i => if i % 2 = 0 then own_lo (c (o + i / 2)) else own_hi (c (o + i / 2))
def own_b8 (c : Nat → Int32) (o : Nat) : Nat → Int32 := fun i => nar .byte ((c (o + i)).toInt8.toInt32)
def own_of (vs : List Int32) : Nat → Int32 := fun i => vs.getD i 0
def own_zero : Nat → Int32 := fun _ => 0
theorem own_ind {P : Prop} (I : Nat → Prop) (h0 : I 0 → P) (hS : ∀ d, I (d + 1) → (I d → P) → P) : ∀ d, I d → P
  | 0, h => h0 h
  | d + 1, h => hS d h (own_ind I h0 hS d)
theorem own_inc {x : Int32} {k : Nat} (h : x.toInt = (k : Int)) (hk : k < 1073741824) : (x + (1 : Int32)).toInt = ((k + 1 : Nat) : Int) := by
  have q := c_iadd x 1; have r := rng32 (x + 1); have e : (1 : Int32).toInt = 1 := rfl
  omega
theorem own_shl1 {x : Int32} {k : Nat} (h : x.toInt = (k : Int)) (hk : k < 536870912) : (x <<< ((1 : Int32) &&& 31)).toInt = ((2 * k : Nat) : Int) := by
  have q := c_ishl x 1 1 (by decide); have r := rng32 (x <<< ((1 : Int32) &&& 31))
  omega
theorem own_cl {x : Int32} {k : Nat} (h : x.toInt = (k : Int)) : x.toNatClampNeg = k := by simp only [Int32.toNatClampNeg]; omega
theorem own_nn {x : Int32} {k : Nat} (h : x.toInt = (k : Int)) : ¬ x < (0 : Int32) := by
  rw [Int32.lt_iff_toInt_lt]; have e : (0 : Int32).toInt = 0 := rfl; omega
theorem own_lt {x y : Int32} {i k : Nat} (h : x.toInt = (i : Int)) (h' : y.toInt = (k : Int)) (q : i < k) : x < y := by
  rw [Int32.lt_iff_toInt_lt]; omega
theorem own_ltm {x : Int32} {k : Nat} (h : x.toInt = (k : Int)) (hk : k < 1073741823) : x < (1073741823 : Int32) := by
  rw [Int32.lt_iff_toInt_lt]; have e : (1073741823 : Int32).toInt = 1073741823 := rfl; omega
theorem own_ne0 {x : Int32} {k : Nat} (h : x.toInt = (k : Int)) (hk : 0 < k) : ¬ (x = (0 : Int32)) := fun e => by
  rw [e] at h; have e : (0 : Int32).toInt = 0 := rfl; omega
theorem own_eq0 {x : Int32} (h : x.toInt = ((0 : Nat) : Int)) : x = (0 : Int32) := Int32.toInt_inj.mp h
theorem own_nlt {x y : Int32} {i k : Nat} (h : x.toInt = (i : Int)) (h' : y.toInt = (k : Int)) (q : k ≤ i) : ¬ x < y := by
  rw [Int32.lt_iff_toInt_lt]; omega
theorem own_of_nat {n : Nat} (h : n < 2147483648) : (Nat.toInt32 n).toInt = (n : Int) := by
  exact len_toInt h
def own_G (Z : State) (h : Heap) (a : Addr) (ty : FieldType) (n : Nat) (f : Nat → Int32) : Prop := ∃ c : Cell, Arr Z h a c ty ∧ c.slots.size = n ∧ n < 2147483648 ∧ ∀ i, i < n → c.slots[i]? = some (.int (f i)) ∧ fits ty (.int (f i)) = true
section OwnG
variable {Z : State} {h h' : Heap} {a b : Addr} {ty : FieldType} {n : Nat} {f g : Nat → Int32} {sl : Nat} {v : Value} {ws : List Addr}
theorem own_G.lt (F : own_G Z h a ty n f) : a < h.size := by obtain ⟨c, A, -⟩ := F; exact A.lt
theorem own_G.small (F : own_G Z h a ty n f) : n < 2147483648 := by obtain ⟨c, A, -, q, -⟩ := F; exact q
theorem own_G.ext (F : own_G Z h a ty n f) (E : Ext h h') : own_G Z h' a ty n f := by obtain ⟨c, A, r⟩ := F; exact ⟨c, A.ext E, r⟩
theorem own_G.other (F : own_G Z h b ty n f) (W : Wr h h' a sl v) (q : b ≠ a) : own_G Z h' b ty n f := by obtain ⟨c, A, r⟩ := F; exact ⟨c, A.other W q, r⟩
theorem own_G.keep (F : own_G Z h a ty n f) (K : Keep h h' ws) (q : a ∉ ws) : own_G Z h' a ty n f := by obtain ⟨c, A, r⟩ := F; exact ⟨c, ⟨K.2.1 a c A.1 q, A.2⟩, r⟩
theorem own_G.congr (F : own_G Z h a ty n f) (q : ∀ i, i < n → f i = g i) : own_G Z h a ty n g := by
  obtain ⟨c, A, r1, r2, r3⟩ := F
  exact ⟨c, A, r1, r2, fun i hi => by rw [← q i hi]; exact r3 i hi⟩
theorem own_G.ofV {k : ClassId} {z : Int32} {vs : List Int32} (F : Arv Z h a k ty z (vs.map Value.int) (.int 0)) (q : z.toInt = (n : Int)) : own_G Z h a ty n (own_of vs) := by
  obtain ⟨c, A, -, r2, r3, r4, r5⟩ := F
  rw [own_cl q] at r2
  have e : ∀ i, (vs.map Value.int).getD i (.int 0) = .int (own_of vs i) := fun i => by
    simp only [own_of, List.getD_eq_getElem?_getD, List.getElem?_map]; cases vs[i]? <;> rfl
  have := rng32 z
  exact ⟨c, A, r2, by omega, fun i hi => ⟨by rw [r4 i (by omega), e], by rw [← e]; exact r5 i (by omega)⟩⟩
theorem own_G.set {x : Int32} {i : Nat} (F : own_G Z h a ty n f) (W : Wr h h' a i (.int x)) (hv : fits ty (.int x) = true) : own_G Z h' a ty n (own_upd f i x) := by
  obtain ⟨c, A, r1, r2, r3⟩ := F
  refine ⟨_, A.same W, by rw [sz_set]; exact r1, r2, fun j hj => ?_⟩
  unfold own_upd
  by_cases u : j = i
  · subst u; rw [if_pos rfl]; exact ⟨by simp [Cell.setSlot, r1, hj], hv⟩
  · rw [if_neg u]; refine ⟨?_, (r3 j hj).2⟩
    have := (r3 j hj).1
    simp only [Cell.setSlot]; rw [Array.getElem?_setIfInBounds_ne (Ne.symm u)]; exact this
end OwnG
section OwnSteps
variable {p : Program} {l : Launch} {e : Env} {R : Room} {s : State} {m : MethodId} {args : Array Value} {below : List Frame} {meth : Method} {c : Code} {T : State} {locs : List Loc} {cells slots : Nat} {Z : State} {a0 : Array Value} {h : Heap} {a : Addr} {n : Nat} {f : Nat → Int32}
theorem own_in {cl : Cell} {j : Int32} {i : Nat} (S : cl.slots.size = n) (hj : j.toInt = (i : Int)) (hi : i < n) : ¬ (j < 0 ∨ cl.slots.size ≤ j.toNatClampNeg) := by
  rw [own_cl hj, S]; intro q; rcases q with q | q
  · exact own_nn hj q
  · omega
theorem own_ldC (X : Stand p l e R s m args below meth c T locs cells slots) (hx : p.tables.exec = Jvm.exec) (hZ : Z.Warmed39 s.vm) (eT : T.heap = h) (A : own_G Z h a .char n f) {j : Int32} {i : Nat} (hj : j.toInt = (i : Int)) (hi : i < n) {g : JFrame} (hg : g.method = m) {rest : List Value} (hs : g.stack = .int j :: .ref a :: rest) (hd : decode c.code g.pc = .ok (.caload, 1)) {t : State}
    (hr : Steps p.tables e below (T.setTop { g with pc := g.pc + 1, stack := .int (f i) :: rest }) t) : Steps p.tables e below (T.setTop g) t := by
  obtain ⟨cl, Ar, S, -, H⟩ := A
  exact X.caload hx (j := j) (v := .int (f i)) (by rw [eT]; exact Ar.1) (State.isArrayOf_alike hZ.alike Ar.2.1) Ar.2.2 (own_in S hj hi) (by rw [own_cl hj]; exact (H i hi).1) hg hs hd _ hr
theorem own_ldB (X : Stand p l e R s m args below meth c T locs cells slots) (hx : p.tables.exec = Jvm.exec) (hZ : Z.Warmed39 s.vm) (eT : T.heap = h) (A : own_G Z h a .byte n f) {j : Int32} {i : Nat} (hj : j.toInt = (i : Int)) (hi : i < n) {g : JFrame} (hg : g.method = m) {rest : List Value} (hs : g.stack = .int j :: .ref a :: rest) (hd : decode c.code g.pc = .ok (.baload, 1)) {t : State}
    (hr : Steps p.tables e below (T.setTop { g with pc := g.pc + 1, stack := .int (f i) :: rest }) t) : Steps p.tables e below (T.setTop g) t := by
  obtain ⟨cl, Ar, S, -, H⟩ := A
  exact X.baloadBytes hx (j := j) (v := .int (f i)) (by rw [eT]; exact Ar.1) (State.isArrayOf_alike hZ.alike Ar.2.1) Ar.2.2 (own_in S hj hi) (by rw [own_cl hj]; exact (H i hi).1) hg hs hd _ hr
theorem own_len (X : Stand p l e R s m args below meth c T locs cells slots) (hx : p.tables.exec = Jvm.exec) (hZ : Z.Warmed39 s.vm) (eT : T.heap = h) {ty : FieldType} (A : own_G Z h a ty n f) {g : JFrame} (hg : g.method = m) {rest : List Value} (hs : g.stack = .ref a :: rest) (hd : decode c.code g.pc = .ok (.arraylength, 1)) {t : State}
    (hr : Steps p.tables e below (T.setTop { g with pc := g.pc + 1, stack := .int (Nat.toInt32 n) :: rest }) t) : Steps p.tables e below (T.setTop g) t := by
  obtain ⟨cl, Ar, S, -, H⟩ := A
  refine X.arraylength hx (by rw [eT]; exact Ar.1) (State.isArrayOf_alike hZ.alike Ar.2.1) hg hs hd _ ?_
  rw [S]; exact hr
theorem own_stB (X : Stand p l e R s m args below meth c T locs cells slots) (hx : p.tables.exec = Jvm.exec) (hZ : Z.Warmed39 s.vm) (eT : T.heap = h) (A : own_G Z h a .byte n f) {j x : Int32} {i : Nat} (hj : j.toInt = (i : Int)) (hi : i < n) {g : JFrame} (hg : g.method = m) {rest : List Value} (hs : g.stack = .int x :: .int j :: .ref a :: rest) (hd : decode c.code g.pc = .ok (.bastore, 1)) :
    ∃ T' h', Stand p l e R s m args below meth c T' (locs ++ [⟨a, i⟩]) cells slots ∧ T'.heap = h' ∧ Wr h h' a i (.int (nar .byte x)) ∧ own_G Z h' a .byte n (own_upd f i (nar .byte x)) ∧ ∀ target, Steps p.tables e below (T'.setTop { g with pc := g.pc + 1, stack := rest }) target → Steps p.tables e below (T.setTop g) target := by
  have A0 := A
  obtain ⟨cl, Ar, S, -, H⟩ := A
  obtain ⟨T', h', X', e', W, st⟩ := stB X hx hZ eT Ar (j := j) (own_in S hj hi) hg hs hd
  rw [own_cl hj] at X' W
  exact ⟨T', h', X', e', W, A0.set W (fits_nar_byte _), st⟩
theorem own_stC (X : Stand p l e R s m args below meth c T locs cells slots) (hx : p.tables.exec = Jvm.exec) (hZ : Z.Warmed39 s.vm) (eT : T.heap = h) (A : own_G Z h a .char n f) {j x : Int32} {i : Nat} (hj : j.toInt = (i : Int)) (hi : i < n) {g : JFrame} (hg : g.method = m) {rest : List Value} (hs : g.stack = .int x :: .int j :: .ref a :: rest) (hd : decode c.code g.pc = .ok (.castore, 1)) :
    ∃ T' h', Stand p l e R s m args below meth c T' (locs ++ [⟨a, i⟩]) cells slots ∧ T'.heap = h' ∧ Wr h h' a i (.int (nar .char x)) ∧ own_G Z h' a .char n (own_upd f i (nar .char x)) ∧ ∀ target, Steps p.tables e below (T'.setTop { g with pc := g.pc + 1, stack := rest }) target → Steps p.tables e below (T.setTop g) target := by
  have A0 := A
  obtain ⟨cl, Ar, S, -, H⟩ := A
  obtain ⟨T', h', X', e', W, st⟩ := stC X hx hZ eT Ar (j := j) (own_in S hj hi) hg hs hd
  rw [own_cl hj] at X' W
  exact ⟨T', h', X', e', W, A0.set W (fits_nar_char _), st⟩
theorem own_newB (X : Stand p l e R s m args below meth c T locs cells slots) (hx : p.tables.exec = Jvm.exec) (hZ : Z.Warmed39 s.vm) (w : (Cond.arrayClass .byte).before a0 Z = true) (eT : T.heap = h) {g : JFrame} (hg : g.method = m) (hd : decode c.code g.pc = .ok (.newarray .byte, 2)) {z : Int32} {rest : List Value} (hs : g.stack = .int z :: rest) (hz : z.toInt = (n : Int))
    {cap : Nat} (hcap : n ≤ cap) (hb : cap * 8 ≤ 536870912) (hc : cells + 1 ≤ R.cells) (hl : slots + cap ≤ R.slots) :
    ∃ T' h', Stand p l e R s m args below meth c T' locs (cells + 1) (slots + cap) ∧ T'.heap = h' ∧ Ext h h' ∧ own_G Z h' h.size .byte n own_zero ∧ ∀ target, Steps p.tables e below (T'.setTop { g with pc := g.pc + 2, stack := .ref h.size :: rest }) target → Steps p.tables e below (T.setTop g) target := by
  obtain ⟨T', h', k, X', e', E, A, st⟩ := newP X hx hZ (aty := .byte) w eT hg hd hs (own_nn hz) (cap := cap) (by rw [own_cl hz]; exact hcap) hb hc hl
  have V : Arv Z h' h.size k .byte z (([] : List Int32).map Value.int) (.int 0) := Arv.new A (own_nn hz)
  exact ⟨T', h', X', e', E, (own_G.ofV V hz).congr (fun i _ => rfl), st⟩
theorem own_newC (X : Stand p l e R s m args below meth c T locs cells slots) (hx : p.tables.exec = Jvm.exec) (hZ : Z.Warmed39 s.vm) (w : (Cond.arrayClass .char).before a0 Z = true) (eT : T.heap = h) {g : JFrame} (hg : g.method = m) (hd : decode c.code g.pc = .ok (.newarray .char, 2)) {z : Int32} {rest : List Value} (hs : g.stack = .int z :: rest) (hz : z.toInt = (n : Int))
    {cap : Nat} (hcap : n ≤ cap) (hb : cap * 8 ≤ 536870912) (hc : cells + 1 ≤ R.cells) (hl : slots + cap ≤ R.slots) :
    ∃ T' h', Stand p l e R s m args below meth c T' locs (cells + 1) (slots + cap) ∧ T'.heap = h' ∧ Ext h h' ∧ own_G Z h' h.size .char n own_zero ∧ ∀ target, Steps p.tables e below (T'.setTop { g with pc := g.pc + 2, stack := .ref h.size :: rest }) target → Steps p.tables e below (T.setTop g) target := by
  obtain ⟨T', h', k, X', e', E, A, st⟩ := newP X hx hZ (aty := .char) w eT hg hd hs (own_nn hz) (cap := cap) (by rw [own_cl hz]; exact hcap) hb hc hl
  have V : Arv Z h' h.size k .char z (([] : List Int32).map Value.int) (.int 0) := Arv.new A (own_nn hz)
  exact ⟨T', h', X', e', E, (own_G.ofV V hz).congr (fun i _ => rfl), st⟩
end OwnSteps

def own_EL : List (String × Nat) := consts_1
theorem own_EW {a0 : Array Value} {Z : State} (hw : ∀ d ∈ tables_1, d.before a0 Z = true) : EW Z a0 own_EL := EW.cons (own := "java/lang/String") (index := 7) (text := "") (hw _ (List.mem_of_getElem? (i := 21) rfl)) (by intro c hc; exact absurd hc (by decide +revert)) EW.nil
theorem own_SA {a0 : Array Value} {Z : State} (hw : ∀ d ∈ tables_1, d.before a0 Z = true) : ∀ a ∈ Bundle.stringAtoms, a.before a0 Z = true := by
  intro d hd
  simp only [Bundle.stringAtoms, Bundle.sN, List.mem_cons, List.not_mem_nil, or_false] at hd
  rcases hd with rfl | rfl | rfl | rfl | rfl | rfl | rfl
  · exact hw _ (List.mem_of_getElem? (i := 10) rfl)
  · exact hw _ (List.mem_of_getElem? (i := 9) rfl)
  · exact hw _ (List.mem_of_getElem? (i := 22) rfl)
  · exact hw _ (List.mem_of_getElem? (i := 23) rfl)
  · exact hw _ (List.mem_of_getElem? (i := 24) rfl)
  · exact hw _ (List.mem_of_getElem? (i := 25) rfl)
  · exact hw _ (List.mem_of_getElem? (i := 26) rfl)
theorem own_fld1 {Z : State} {h : Heap} {a : Addr} {C n d : String} {v w : Value} (F : Fld Z h a C n d v) (G : Fld Z h a C n d w) : v = w := by
  obtain ⟨c1, cf1, k1, i1, f1, a1, a2, -, -, -, -, a3⟩ := F
  obtain ⟨c2, cf2, k2, i2, f2, b1, b2, -, -, -, -, b3⟩ := G
  cases a1.symm.trans b1
  cases a2.symm.trans b2
  exact Option.some.inj (a3.symm.trans b3)
section OwnWide
variable {p : Program} {l : Launch} {e : Env} {R : Room} {s : State} {m : MethodId} {args : Array Value} {below : List Frame} {meth : Method} {c : Code} {T : State} {locs : List Loc} {cells slots : Nat} {Z : State} {a0 : Array Value} {h : Heap}
theorem own_since (s : State) (n : Nat) : s.Since s.vm n := (State.WarmedH.refl s).since n
theorem own_ldcE (X : Stand p l e R s m args below meth c T locs cells slots) (hx : p.tables.exec = Jvm.exec) (hZ : Z.Warmed39 s.vm) (hown : s.vm.findClass "java/lang/String" = some m.cls) (hw : ∀ d ∈ tables_1, d.before a0 Z = true) (eT : T.heap = h) (H : CHv Z own_EL s.vm h)
    {g : JFrame} (hg : g.method = m) (hd : decode c.code g.pc = .ok (.ldc 7, 2)) (hc : cells + 2 ≤ R.cells) (hl : slots + 4 ≤ R.slots) :
    ∃ (a : Addr) (T' : State) (h' : Heap) (b : Addr) (k1 : Nat), Stand p l e R (s.setVm T'.vm) m args below meth c T' locs (cells + 2) (slots + 4) ∧ T'.heap = h' ∧ Ext h h' ∧ s.Since T'.vm k1 ∧ k1 ≤ h'.size ∧ Z.Warmed39 (s.setVm T'.vm).vm ∧ (s.setVm T'.vm).vm.findClass "java/lang/String" = some m.cls ∧
      Exa Z h' a "java/lang/String" ∧ Fld Z h' a "java/lang/String" "coder" "B" (.int 0) ∧ Fld Z h' a "java/lang/String" "value" "[B" (.ref b) ∧ own_G Z h' b .byte 0 own_zero ∧ Lit (s.setVm T'.vm) "java/lang/String" 7 a ∧ (∀ x, Exa Z h' x "java/lang/String" → x ≠ b) ∧
      ∀ target, Steps p.tables e below (T'.setTop { g with pc := g.pc + 2, stack := .ref a :: g.stack }) target → Steps p.tables e below (T.setTop g) target := by
  obtain ⟨a, T', h', k1, b, k, X', e', E, hS, hk, hW, hf, A, FC, FV, AV, -, -, -, hL, -, st⟩ := ldcCH (vm0 := s.vm) (s := s) (text := "") (own := "java/lang/String") (index := 7) X hx hZ hown (hw _ (List.mem_of_getElem? (i := 21) rfl)) (own_SA hw) eT (own_since s 0) (Nat.zero_le _) (own_EW hw) (List.mem_of_getElem? (i := 0) rfl) H (vs := []) (z := 0) ⟨by intro c hc; exact absurd hc (by decide +revert), rfl⟩ (by decide) rfl hg hd (n := 0) (by decide) (by decide) hc hl
  exact ⟨a, T', h', b, k1, X', e', E, hS, hk, hW, hf, A, FC, FV, (own_G.ofV (vs := []) AV (n := 0) rfl).congr (fun i _ => rfl), hL, fun x Ex => Ex.neArv AV (hw _ (List.mem_of_getElem? (i := 9) rfl)), st⟩
theorem own_backW {y : MethodName} {bytes : ByteArray} {maxL : Nat} {ret : Option FieldType} {rm : Room} {len W : Nat} {as' : Array Value} {Q : Option Value → Heap → List Loc → Prop}
    (hM : MetFree l y (head1 [Cond.code y bytes maxL ret] rm) (fun a U => a = as' ∧ Z.Warmed39 U.vm ∧ U.heap = h ∧ CHv Z own_EL U.vm h) (fun _ _ _ _ _ => True) (fun _ U o U' => ∃ v L, o = .returned v ∧ Q v U'.heap L ∧ ReturnedEndW U o U' L rm.cells rm.slots))
    (hw : ∀ d ∈ tables_1, d.before a0 Z = true) (hZ : Z.Warmed39 s.vm) (wc : (Cond.code y bytes maxL ret).before a0 Z = true) (wz : (Cond.initialized y.cls).before a0 Z = true) (hf : rm.frames + 1 ≤ R.frames) (hl : W + (maxL + 11) + rm.locals ≤ R.locals) (H : CHv Z own_EL s.vm h) :
    BackS l R p e below s args y len W (fun A a => a = as' ∧ A.U.heap = h ∧ A.cells + rm.cells ≤ R.cells ∧ A.slots + rm.slots ≤ R.slots)
      (fun A _ v B => ∃ L, Q v B.U.heap L ∧ B.locs = A.locs ++ L ∧ B.cells = A.cells + rm.cells ∧ B.slots = A.slots + rm.slots) := by
  refine BackS.of_freeW (bytes := bytes) (maxL := maxL) (ret := ret) (E := fun _ _ o t L k n => (∃ v, o = .returned v ∧ Q v t.heap L) ∧ k = rm.cells ∧ n = rm.slots) hM hf hl ?_ ?_ (fun _ _ _ _ _ _ _ _ _ => trivial) ?_ ?_
  · intro m meth c A a Y hp
    have hU : Z.Warmed39 A.U.vm := wtrans hZ Y.warmed
    exact ⟨by show (Cond.and _ .tt).before a A.U = true; rw [Cond.before_and, mv hU wc]; rfl, mv hU wc, mv hU wz, hp.2.2.1, hp.2.2.2⟩
  · intro m meth c A a g mk Y hp
    exact ⟨hp.1, wtrans hZ Y.warmed, hp.2.1, (CHv.at (s := s) (vm0 := s.vm) Y hZ (own_EW hw) H).1⟩
  · rintro _ _ _ _ ⟨v, L, h1, h2, h3⟩
    exact ⟨L, _, _, h3, ⟨v, h1, h2⟩, rfl, rfl⟩
  · rintro m meth c A a g mk v t L k n Y hp - - ⟨⟨v', e3, e4⟩, e1, e2⟩
    cases e3; subst e1 e2; exact ⟨L, e4, rfl, rfl, rfl⟩
theorem own_callIW {own : String} {index : Nat} {y : MethodName} {bytes : ByteArray} {ml W : Nat} {rm : Room} {A : Array Value} {Q : Option Value → Heap → List Loc → Prop} (X : Stand p l e R s m args below meth c T locs cells slots) (hx : p.tables.exec = Jvm.exec) (hw : ∀ d ∈ tables_1, d.before a0 Z = true) (hZ : Z.Warmed39 s.vm) (hown : s.vm.findClass own = some m.cls) (H : CHv Z own_EL s.vm h)
    (w1 : (Cond.methodLink own index y).before a0 Z = true) (w2 : (Cond.instanceMethod y).before a0 Z = true) (w3 : (Cond.initialized y.cls).before a0 Z = true) (w4 : (Cond.code y bytes ml none).before a0 Z = true) (hy1 : y.name = "<init>") (hy : y.cls ≠ "java/lang/invoke/MethodHandle" ∧ y.cls ≠ "java/lang/invoke/VarHandle")
    (hM : MetFree l y (head1 [Cond.code y bytes ml none] rm) (fun a U => a = A ∧ Z.Warmed39 U.vm ∧ U.heap = h ∧ CHv Z own_EL U.vm h) (fun _ _ _ _ _ => True) (fun _ U o U' => ∃ v L, o = .returned v ∧ Q v U'.heap L ∧ ReturnedEndW U o U' L rm.cells rm.slots)) (hf : rm.frames + 1 ≤ R.frames) (hl : W + (ml + 11) + rm.locals ≤ R.locals) (hT : T.heap = h) {g : JFrame} (hg : g.method = m) (hsize : g.locals.size = c.maxLocals)
    {ps : List FieldType} {r : Option FieldType} (hp : parseMethodDescriptor y.desc = some ⟨ps, r⟩) {a : Addr} {argsL rest : List Value} (hlen : argsL.length = ps.length) (hstack : g.stack = argsL.reverse ++ .ref a :: rest) (hA : (.ref a :: argsL).toArray = A) (hW : 2 * g.monitorRoom + (rest.map fun v => v.category).sum ≤ W) (hd : decode c.code g.pc = .ok (.invokespecial index, 3)) (hc : cells + rm.cells ≤ R.cells) (hs : slots + rm.slots ≤ R.slots) :
    ∃ v T' L', Stand p l e R (s.setVm T'.vm) m args below meth c T' (locs ++ L') (cells + rm.cells) (slots + rm.slots) ∧ s.Since T'.vm T'.heap.size ∧ Z.Warmed39 (s.setVm T'.vm).vm ∧ (s.setVm T'.vm).vm.findClass own = some m.cls ∧ Q v T'.heap L' ∧ ∀ t, Steps p.tables e below (T'.setTop { g with pc := g.pc + 3, stack := v.toList ++ rest }) t → Steps p.tables e below (T.setTop g) t := by
  obtain ⟨v, _, ⟨T', L', k', n'⟩, -, X', hS, -, ⟨Lc, hQ, l1, l2, l3⟩, st⟩ := X.specialBackS hx hy1 hown (mvT hZ w1) (mvT hZ w2) (mvT hZ w4) hy (own_backW (W := W) hM hw hZ w4 w3 hf hl H) hg hsize (Steps.refl _) (a := a) (argsL := argsL) (rest := rest) (lenOf hp hlen) hstack hW hd (fun _ _ => ⟨hA, hT, hc, hs⟩)
  dsimp only [Pt.U, Pt.locs, Pt.cells, Pt.slots] at X' l1 l2 l3 st hQ hS
  subst l1 l2 l3
  exact ⟨v, T', Lc, X', hS, State.Warmed39.trans hZ hS.1, by rw [show (s.setVm T'.vm).vm = T'.vm from rfl, hS.1.alike.findClass]; exact hown, hQ, fun t q => st.trans q⟩
end OwnWide

theorem own_byte (y : Int32) : (nar .byte (y.toInt8.toInt32) &&& (255 : Int32)).toInt = y.toInt % 256 := by
  have h1 := c_mask (nar .byte (y.toInt8.toInt32)) 255 8 (by decide) (by decide)
  have h2 := c_i2b y
  have h3 : (((y.toInt8.toInt32).toInt8.toInt32).toInt - (y.toInt8.toInt32).toInt) % 256 = 0 := (c_i2b (y.toInt8.toInt32)).1
  have h4 : (nar .byte (y.toInt8.toInt32)).toInt = ((y.toInt8.toInt32).toInt8.toInt32).toInt := rfl
  rw [h1, h4]
  omega
theorem own_gc (v : Int32) (h : own_ch v) : (nar .char (((((own_lo v) &&& (255 : Int32)) <<< ((0 : Int32) &&& 31)) ||| (((own_hi v) &&& (255 : Int32)) <<< ((8 : Int32) &&& 31))).toUInt32.toUInt16.toUInt32.toInt32)) = v := by
  unfold own_ch at h
  have l1 : ((own_lo v) &&& (255 : Int32)).toInt = v.toInt % 256 := by
    have q := own_byte (v >>> ((0 : Int32) &&& 31)); have q2 := c_ishr v 0 0 (by decide)
    have e : (own_lo v &&& (255 : Int32)) = nar .byte ((v >>> ((0 : Int32) &&& 31)).toInt8.toInt32) &&& (255 : Int32) := rfl
    rw [e, q, q2]; omega
  have l2 : ((own_hi v) &&& (255 : Int32)).toInt = v.toInt / 256 % 256 := by
    have q := own_byte (v >>> ((8 : Int32) &&& 31)); have q2 := c_ishr v 8 8 (by decide)
    have e : (own_hi v &&& (255 : Int32)) = nar .byte ((v >>> ((8 : Int32) &&& 31)).toInt8.toInt32) &&& (255 : Int32) := rfl
    rw [e, q, q2]; omega
  generalize (own_lo v) &&& (255 : Int32) = x at *
  generalize (own_hi v) &&& (255 : Int32) = y at *
  have s1 : (x <<< ((0 : Int32) &&& 31)).toInt = x.toInt := by
    have q := c_ishl x 0 0 (by decide); have q2 := rng32 (x <<< ((0 : Int32) &&& 31)); have q3 := rng32 x; omega
  have s2 : (y <<< ((8 : Int32) &&& 31)).toInt = y.toInt * 256 := by
    have q := c_ishl y 8 8 (by decide); have q2 := rng32 (y <<< ((8 : Int32) &&& 31)); omega
  generalize x <<< ((0 : Int32) &&& 31) = x' at *
  generalize y <<< ((8 : Int32) &&& 31) = y' at *
  have s3 := c_or' x' y' 8 (by decide) 256 rfl (by omega) (by omega) (by omega)
  have s4 := rng32 (x' ||| y')
  have s5 : (x' ||| y').toInt = v.toInt := by omega
  generalize x' ||| y' = z at *
  have s6 := c_i2c z
  have s7 := c_i2c (z.toUInt32.toUInt16.toUInt32.toInt32)
  apply Int32.toInt_inj.mp
  have e : (nar .char (z.toUInt32.toUInt16.toUInt32.toInt32)).toInt = ((z.toUInt32.toUInt16.toUInt32.toInt32).toUInt32.toUInt16.toUInt32.toInt32).toInt := rfl
  rw [e]
  omega
theorem own_narb (y : Int32) : own_ch (nar .char y) := by
  have h := c_i2c y
  exact ⟨h.2.1, h.2.2⟩
theorem own_narn (y : Int32) : nar .char (nar .char y) = nar .char y := by
  have h := c_i2c y
  have h2 := c_i2c (nar .char y)
  apply Int32.toInt_inj.mp
  have e1 : (nar .char y).toInt = (y.toUInt32.toUInt16.toUInt32.toInt32).toInt := rfl
  have e2 : (nar .char (nar .char y)).toInt = ((nar .char y).toUInt32.toUInt16.toUInt32.toInt32).toInt := rfl
  omega
theorem own_gcv {x y v : Int32} (h0 : x = own_lo v) (h1 : y = own_hi v) (h : own_ch v) : (nar .char ((((x &&& (255 : Int32)) <<< ((0 : Int32) &&& 31)) ||| ((y &&& (255 : Int32)) <<< ((8 : Int32) &&& 31))).toUInt32.toUInt16.toUInt32.toInt32)) = v := by subst h0 h1; exact own_gc v h
theorem own_u16s {cf gf : Nat → Int32} {o j : Nat} (hg : ∀ i, i < 2 * j → gf i = own_u16 cf o i) : ∀ i, i < 2 * (j + 1) → own_upd (own_upd gf (2 * j) (own_lo (cf (o + j)))) (2 * j + 1) (own_hi (cf (o + j))) i = own_u16 cf o i := by
  intro i hi
  unfold own_upd
  by_cases h1 : i = 2 * j + 1
  · subst h1; rw [if_pos rfl]; unfold own_u16; rw [if_neg (by omega), show (2 * j + 1) / 2 = j by omega]
  · rw [if_neg h1]
    by_cases h2 : i = 2 * j
    · subst h2; rw [if_pos rfl]; unfold own_u16; rw [if_pos (by omega), show (2 * j) / 2 = j by omega]
    · rw [if_neg h2]; exact hg i (by omega)
theorem own_b8s {cf gf : Nat → Int32} {o j : Nat} (hg : ∀ i, i < j → ¬ ((255 : Int32) < cf (o + i)) ∧ gf i = own_b8 cf o i) (h : ¬ ((255 : Int32) < cf (o + j))) : ∀ i, i < j + 1 → ¬ ((255 : Int32) < cf (o + i)) ∧ own_upd gf j (nar .byte ((cf (o + j)).toInt8.toInt32)) i = own_b8 cf o i := by
  intro i hi
  unfold own_upd
  by_cases h1 : i = j
  · subst h1; rw [if_pos rfl]; exact ⟨h, rfl⟩
  · rw [if_neg h1]; exact hg i (by omega)
theorem own_u0 (cf : Nat → Int32) (o j : Nat) : own_u16 cf o (2 * j) = own_lo (cf (o + j)) := by unfold own_u16; rw [if_pos (by omega), show (2 * j) / 2 = j by omega]
theorem own_u1 (cf : Nat → Int32) (o j : Nat) : own_u16 cf o (2 * j + 1) = own_hi (cf (o + j)) := by unfold own_u16; rw [if_neg (by omega), show (2 * j + 1) / 2 = j by omega]
theorem own_cf0 {x : Int32} {n : Nat} (h : x.toInt = (n : Int)) (hn : n < 2147483648) : (nar .byte (((x - Nat.toInt32 n).toUInt32 >>> ((31 : Int32) &&& 31).toUInt32).toInt32.toInt8.toInt32)) = 0 := by
  have e : x = Nat.toInt32 n := Int32.toInt_inj.mp (by rw [h, own_of_nat hn])
  subst e; rw [Int32.sub_self]; rfl
theorem own_cf1 {x : Int32} {n : Nat} (h : x.toInt = (n : Int)) (hn : n < 536870912) (h0 : 0 < n) : (nar .byte (((x - Nat.toInt32 (2 * n)).toUInt32 >>> ((31 : Int32) &&& 31).toUInt32).toInt32.toInt8.toInt32)) = 1 := by
  have e := own_of_nat (n := 2 * n) (by omega)
  have q := c_isub x (Nat.toInt32 (2 * n)); have r := rng32 (x - Nat.toInt32 (2 * n))
  have u := c_iushr (x - Nat.toInt32 (2 * n)) 31 31 (by decide) (by decide)
  have z : ((x - Nat.toInt32 (2 * n)).toUInt32 >>> ((31 : Int32) &&& 31).toUInt32).toInt32 = 1 := Int32.toInt_inj.mp (by rw [u]; show _ = (1 : Int); omega)
  rw [z]; rfl
theorem own_nej {r p : Int32} {j n : Nat} (h : r.toInt = (j : Int)) (hp : p.toInt = (n : Int)) (q : j < n) : ¬ (r = p) := fun e => by rw [e] at h; omega
def own_By (Z : State) (h : Heap) (b : Addr) (n o : Nat) (cf : Nat → Int32) (cd : Int32) : Prop := (cd = 0 ∧ (∀ i, i < n → ¬ ((255 : Int32) < cf (o + i))) ∧ own_G Z h b .byte n (own_b8 cf o)) ∨ (cd = 1 ∧ (∃ i, i < n ∧ (255 : Int32) < cf (o + i)) ∧ own_G Z h b .byte (2 * n) (own_u16 cf o))
def own_Str (Z : State) (h : Heap) (a : Addr) (n o : Nat) (cf : Nat → Int32) : Prop := Exa Z h a "java/lang/String" ∧ n ≤ 4 ∧ (∀ i, i < n → own_ch (cf (o + i))) ∧ ∃ (b : Addr) (cd : Int32), Fld Z h a "java/lang/String" "value" "[B" (.ref b) ∧ Fld Z h a "java/lang/String" "coder" "B" (.int cd) ∧ own_By Z h b n o cf cd

def own_vnl (p1 : Int32) : Int32 :=
  (p1 <<< ((1 : Int32) &&& 31))
theorem own_d16_0 : decode jdk_52_method_3_code 0 = .ok (.iload_n 0, 1) := by decide +kernel
theorem own_d16_1 : decode jdk_52_method_3_code 1 = .ok (.ifCond .ge 11, 3) := by decide +kernel
theorem own_d16_12 : decode jdk_52_method_3_code 12 = .ok (.iload_n 0, 1) := by decide +kernel
theorem own_d16_13 : decode jdk_52_method_3_code 13 = .ok (.ldc 20, 2) := by decide +kernel
theorem own_d16_15 : decode jdk_52_method_3_code 15 = .ok (.if_icmp .lt 40, 3) := by decide +kernel
theorem own_d16_55 : decode jdk_52_method_3_code 55 = .ok (.iload_n 0, 1) := by decide +kernel
theorem own_d16_56 : decode jdk_52_method_3_code 56 = .ok (.iconst 1, 1) := by decide +kernel
theorem own_d16_57 : decode jdk_52_method_3_code 57 = .ok (.ishl, 1) := by decide +kernel
theorem own_d16_58 : decode jdk_52_method_3_code 58 = .ok (.ireturn, 1) := by decide +kernel
theorem own_pn0 : plainName "java/lang/StringUTF16" = true := by first | (simp [plainName, overriddenIn]; done) | decide +kernel
theorem own_efnl (m : MethodId) (x0 : Int32) : entryFrame m #[(.int x0)] 1 = mkF m 0 #[.val (.int x0)] [] := by first | (simp [entryFrame, mkF, argsToLocals, Value.category]; done) | rfl
def own_Qnl (Z : State) (p1 : Int32) (h0 : Heap) (n0 : Nat) (v : Option Value) (h : Heap) (L : List Loc) : Prop := v = some (.int (own_vnl p1)) ∧ Fr n0 L ∧ h = h0
set_option maxRecDepth 65536 in
set_option maxHeartbeats 40000000 in
theorem own_rmnl (l : Launch) (Z : State) (a0 : Array Value) (hw : ∀ d ∈ tables_1, d.before a0 Z = true) (ws : List Jvm.Cond) (p1 : Int32) (h0 : Heap) (n0 : Nat) (Z0 : n0 ≤ h0.size) (hs1 : ¬ (p1 < (0 : Int32))) (hs15 : p1 < (1073741823 : Int32)) :
    MetFree l (⟨"java/lang/StringUTF16", "newBytesLength", "(I)I"⟩ : MethodName) (head1 (Jvm.Cond.code (⟨"java/lang/StringUTF16", "newBytesLength", "(I)I"⟩ : MethodName) jdk_52_method_3_code 1 (some .int) :: ws) ({ frames := 0, cells := 0, slots := 0, locals := 0 } : Room)) (fun aa U => aa = #[(.int p1)] ∧ Z.Warmed39 U.vm ∧ U.heap = h0) (fun _ _ _ _ _ => True) (fun _ U o U' => ∃ v L, o = .returned v ∧ own_Qnl Z p1 h0 n0 v U'.heap L ∧ FrameEnd U o U' L ({ frames := 0, cells := 0, slots := 0, locals := 0 } : Room).cells ({ frames := 0, cells := 0, slots := 0, locals := 0 } : Room).slots) := by
  refine MetFree.of_bodySF (plainFor_of_name own_pn0) hisR ?_
  intro p e s m args below meth c s₁ Bd hml0 hP hK
  obtain ⟨rfl, hZ, hh⟩ := hP
  have hx := Bd.exec
  have hby := Bd.bytes
  have hml : c.maxLocals = 1 := hml0
  have hown : s.vm.findClass "java/lang/StringUTF16" = some m.cls := findClass_of_methodNamed Bd.named
  have hnm := (name_of_methodNamed Bd.named Bd.method).1
  have X0 : Stand p l e ({ frames := 0, cells := 0, slots := 0, locals := 0 } : Room) s m #[(.int p1)] below meth c s₁ [] 0 0 := Stand.of_body Bd
  have e0 : s₁.heap = h0 := by rw [← hh, Bd.state]; rfl
  have N0 := Fr.nil n0
  have pre0 : ∀ t, Steps p.tables e below (s₁.setTop (mkF m 0 #[.val (.int p1)] [])) t → Steps p.tables e below (s₁.setTop (entryFrame m #[(.int p1)] 1)) t := fun t k => castTop (own_efnl m p1) k
  have k1 : ∀ t, Steps p.tables e below (s₁.setTop (mkF m 58 #[.val (.int p1)] [(.int (p1 <<< ((1 : Int32) &&& 31)))])) t → Steps p.tables e below (s₁.setTop (entryFrame m #[(.int p1)] 1)) t := by
    intro t k
    refine pre0 t ?_
    show Steps p.tables e below (s₁.setTop (mkF m 0 #[.val (.int p1)] [])) _
    refine XS.iloadN X0.here hx rfl (hb hby own_d16_0) rfl ?_
    show Steps p.tables e below (s₁.setTop (mkF m 1 #[.val (.int p1)] [(.int p1)])) _
    refine XS.ifYes X0.here hx rfl (pc0 := 1) (pc' := 12) rfl (hb hby own_d16_1) rfl ((if0 _ _).trans (flt hs1).2.1) (by decide) (by decide) ?_
    show Steps p.tables e below (s₁.setTop (mkF m 12 #[.val (.int p1)] [])) _
    refine XS.iloadN X0.here hx rfl (hb hby own_d16_12) rfl ?_
    show Steps p.tables e below (s₁.setTop (mkF m 13 #[.val (.int p1)] [(.int p1)])) _
    refine X0.ldcInt hx hown (mvT hZ (hw _ (List.mem_of_getElem? (i := 79) rfl))) (g := (mkF m 13 #[.val (.int p1)] [(.int p1)])) rfl (hb hby own_d16_13) _ ?_
    show Steps p.tables e below (s₁.setTop (mkF m 15 #[.val (.int p1)] [(.int (1073741823 : Int32)), (.int p1)])) _
    refine XS.icmpYes X0.here hx rfl (pc0 := 15) (pc' := 55) rfl (hb hby own_d16_15) rfl (tlt hs15).1 (by decide) (by decide) ?_
    show Steps p.tables e below (s₁.setTop (mkF m 55 #[.val (.int p1)] [])) _
    refine XS.iloadN X0.here hx rfl (hb hby own_d16_55) rfl ?_
    show Steps p.tables e below (s₁.setTop (mkF m 56 #[.val (.int p1)] [(.int p1)])) _
    refine XS.iconst X0.here hx rfl (hb hby own_d16_56) ?_
    show Steps p.tables e below (s₁.setTop (mkF m 57 #[.val (.int p1)] [(.int (1 : Int32)), (.int p1)])) _
    refine XS.ishl X0.here hx rfl (hb hby own_d16_57) rfl ?_
    exact k
  obtain ⟨fs, hr, hrun, hended, hW, hsame⟩ := X0.leave (v := (some (.int (p1 <<< ((1 : Int32) &&& 31))))) (fun h => by rw [Bd.returns] at h; cases h)
  refine ⟨_, _, k1 _ ?_, hrun, hended, _, _, rfl, ?_, ⟨_, rfl⟩, hW, hsame.mono (by decide) (by decide)⟩
  · exact retI X0 hx Bd.returns (hb hby own_d16_58) hr
  · have hv : (own_vnl p1) = (p1 <<< ((1 : Int32) &&& 31)) := rfl
    exact ⟨congrArg (fun z => some (Value.int z)) hv.symm, N0, e0⟩
theorem own_nl2 {x : Int32} {k : Nat} (h : x.toInt = (k : Int)) (hk : k < 536870912) : (own_vnl x).toInt = ((2 * k : Nat) : Int) := own_shl1 h hk
theorem own_d15_0 : decode jdk_52_method_2_code 0 = .ok (.iload_n 0, 1) := by decide +kernel
theorem own_d15_1 : decode jdk_52_method_2_code 1 = .ok (.invokestatic 11, 3) := by decide +kernel
theorem own_d15_4 : decode jdk_52_method_2_code 4 = .ok (.newarray .byte, 2) := by decide +kernel
theorem own_d15_6 : decode jdk_52_method_2_code 6 = .ok (.areturn, 1) := by decide +kernel
theorem own_pd0 : parseMethodDescriptor "(I)I" = some ⟨[.int], some .int⟩ := by decide +kernel
theorem own_efnf (m : MethodId) (x0 : Int32) : entryFrame m #[(.int x0)] 1 = mkF m 0 #[.val (.int x0)] [] := by first | (simp [entryFrame, mkF, argsToLocals, Value.category]; done) | rfl
def own_Qnf (Z : State) (p1 : Int32) (nn : Nat) (h0 : Heap) (n0 : Nat) (v : Option Value) (h : Heap) (L : List Loc) : Prop := ∃ (b : Addr), v = some (.ref b) ∧ Fr n0 L ∧ Keep h0 h [] ∧ h0.size ≤ b ∧ own_G Z h b .byte (2 * nn) own_zero
def own_Rnf : Room := { frames := 1, cells := 1, slots := 8, locals := 12 }
set_option maxRecDepth 65536 in
set_option maxHeartbeats 40000000 in
theorem own_rmnf (l : Launch) (Z : State) (a0 : Array Value) (hw : ∀ d ∈ tables_1, d.before a0 Z = true) (ws : List Jvm.Cond) (p1 : Int32) (nn : Nat) (h0 : Heap) (n0 : Nat) (Z0 : n0 ≤ h0.size) (hp1 : p1.toInt = (nn : Int)) (hn : nn ≤ 4) :
    MetFree l (⟨"java/lang/StringUTF16", "newBytesFor", "(I)[B"⟩ : MethodName) (head1 (Jvm.Cond.code (⟨"java/lang/StringUTF16", "newBytesFor", "(I)[B"⟩ : MethodName) jdk_52_method_2_code 1 (some (.array .byte)) :: ws) own_Rnf) (fun aa U => aa = #[(.int p1)] ∧ Z.Warmed39 U.vm ∧ U.heap = h0) (fun _ _ _ _ _ => True) (fun _ U o U' => ∃ v L, o = .returned v ∧ own_Qnf Z p1 nn h0 n0 v U'.heap L ∧ FrameEnd U o U' L own_Rnf.cells own_Rnf.slots) := by
  refine MetFree.of_bodySF (plainFor_of_name own_pn0) hisR ?_
  intro p e s m args below meth c s₁ Bd hml0 hP hK
  obtain ⟨rfl, hZ, hh⟩ := hP
  have hx := Bd.exec
  have hby := Bd.bytes
  have hml : c.maxLocals = 1 := hml0
  have hown : s.vm.findClass "java/lang/StringUTF16" = some m.cls := findClass_of_methodNamed Bd.named
  have hnm := (name_of_methodNamed Bd.named Bd.method).1
  have X0 : Stand p l e own_Rnf s m #[(.int p1)] below meth c s₁ [] 0 0 := Stand.of_body Bd
  have e0 : s₁.heap = h0 := by rw [← hh, Bd.state]; rfl
  have N0 := Fr.nil n0
  have pre0 : ∀ t, Steps p.tables e below (s₁.setTop (mkF m 0 #[.val (.int p1)] [])) t → Steps p.tables e below (s₁.setTop (entryFrame m #[(.int p1)] 1)) t := fun t k => castTop (own_efnf m p1) k
  have k1 : ∀ t, Steps p.tables e below (s₁.setTop (mkF m 1 #[.val (.int p1)] [(.int p1)])) t → Steps p.tables e below (s₁.setTop (entryFrame m #[(.int p1)] 1)) t := by
    intro t k
    refine pre0 t ?_
    show Steps p.tables e below (s₁.setTop (mkF m 0 #[.val (.int p1)] [])) _
    refine XS.iloadN X0.here hx rfl (hb hby own_d15_0) rfl ?_
    exact k
  obtain ⟨_, _, ⟨T2, L2, k2c, n2⟩, -, X2, ⟨Lc2, hQ2, l2, y2, z2⟩, st2⟩ := Jvm.LawKit.callS X0 hx (y := (⟨"java/lang/StringUTF16", "newBytesLength", "(I)I"⟩ : MethodName)) hown (mvT hZ (hw _ (List.mem_of_getElem? (i := 76) rfl))) (mvT hZ (hw _ (List.mem_of_getElem? (i := 77) rfl))) (mvT hZ (hw _ (List.mem_of_getElem? (i := 65) rfl))) (mvT hZ (hw _ (List.mem_of_getElem? (i := 78) rfl))) (by decide) (backOf (W := 0) (own_rmnl l Z a0 hw [] p1 h0 n0 Z0 (own_nn hp1) (own_ltm hp1 (by omega))) hZ (hw _ (List.mem_of_getElem? (i := 78) rfl)) (hw _ (List.mem_of_getElem? (i := 65) rfl)) (by decide) (by decide)) (g := (mkF m 1 #[.val (.int p1)] [(.int p1)])) rfl (by rw [hml]; rfl) (argsL := [(.int p1)]) (rest := []) (lenOf own_pd0 rfl) rfl (by show 2 * 0 + _ ≤ _; exact Nat.le_of_eq rfl) (hb hby own_d15_1) (fun _ _ => ⟨rfl, e0, (by decide : 0 + 0 ≤ _), (by decide : 0 + 0 ≤ _)⟩)
  dsimp only [Pt.U, Pt.locs, Pt.cells, Pt.slots] at X2 l2 y2 z2 st2 hQ2
  subst l2 y2 z2
  obtain ⟨rfl, N2q, e2⟩ := hQ2
  have N2 := Fr.app N0 N2q
  have k3 : ∀ t, Steps p.tables e below (T2.setTop (mkF m 4 #[.val (.int p1)] [(.int (own_vnl p1))])) t → Steps p.tables e below (s₁.setTop (entryFrame m #[(.int p1)] 1)) t := fun t k => k1 t (st2 t k)
  obtain ⟨T4, h4, X4, e4, E4, A4, st4⟩ := own_newB X2 hx hZ (hw _ (List.mem_of_getElem? (i := 22) rfl)) e2 (g := (mkF m 4 #[.val (.int p1)] [(.int (own_vnl p1))])) rfl (hb hby own_d15_4) rfl (n := (2 * nn)) (own_nl2 hp1 (by omega)) (cap := 8) (by omega) (by decide) (by decide) (by decide)
  obtain ⟨b4, g4⟩ : ∃ z, z = h0.size := ⟨_, rfl⟩
  rw [← g4] at A4 st4
  have ge4 : n0 ≤ b4 := Nat.le_trans Z0 (Nat.le_of_eq g4.symm)
  have bo4 : h0.size ≤ b4 := Nat.le_trans (Keep.refl h0 []).1 (Nat.le_of_eq g4.symm)
  have Z4 : n0 ≤ h4.size := Nat.le_trans Z0 E4.1
  have K4 : Keep h0 h4 [] := (Keep.refl h0 []).ext E4
  have k5 : ∀ t, Steps p.tables e below (T4.setTop (mkF m 6 #[.val (.int p1)] [(.ref b4)])) t → Steps p.tables e below (s₁.setTop (entryFrame m #[(.int p1)] 1)) t := fun t k => k3 t (st4 t k)
  obtain ⟨fs, hr, hrun, hended, hW, hsame⟩ := X4.leave (v := (some (.ref b4))) (fun h => by rw [Bd.returns] at h; cases h)
  refine ⟨_, _, k5 _ ?_, hrun, hended, _, _, rfl, ?_, ⟨_, rfl⟩, hW, hsame.mono (by decide) (by decide)⟩
  · exact retOut X4 hx Bd.returns rfl (Or.inr (Or.inr (Or.inr (Or.inr ⟨rfl, rfl, rfl⟩)))) (hb hby own_d15_6) hr
  · show own_Qnf Z p1 nn h0 n0 _ T4.heap _
    rw [e4]
    exact ⟨b4, rfl, N2, K4, bo4, A4⟩
theorem own_d17_0 : decode jdk_52_method_4_code 0 = .ok (.getstatic 44, 3) := by decide +kernel
theorem own_d17_3 : decode jdk_52_method_4_code 3 = .ok (.ifCond .ne 25, 3) := by decide +kernel
theorem own_d17_28 : decode jdk_52_method_4_code 28 = .ok (.iload_n 1, 1) := by decide +kernel
theorem own_d17_29 : decode jdk_52_method_4_code 29 = .ok (.iconst 1, 1) := by decide +kernel
theorem own_d17_30 : decode jdk_52_method_4_code 30 = .ok (.ishl, 1) := by decide +kernel
theorem own_d17_31 : decode jdk_52_method_4_code 31 = .ok (.istore_n 1, 1) := by decide +kernel
theorem own_d17_32 : decode jdk_52_method_4_code 32 = .ok (.aload_n 0, 1) := by decide +kernel
theorem own_d17_33 : decode jdk_52_method_4_code 33 = .ok (.iload_n 1, 1) := by decide +kernel
theorem own_d17_34 : decode jdk_52_method_4_code 34 = .ok (.iinc 1 1, 3) := by decide +kernel
theorem own_d17_37 : decode jdk_52_method_4_code 37 = .ok (.iload_n 2, 1) := by decide +kernel
theorem own_d17_38 : decode jdk_52_method_4_code 38 = .ok (.getstatic 59, 3) := by decide +kernel
theorem own_d17_41 : decode jdk_52_method_4_code 41 = .ok (.ishr, 1) := by decide +kernel
theorem own_d17_42 : decode jdk_52_method_4_code 42 = .ok (.i2b, 1) := by decide +kernel
theorem own_d17_43 : decode jdk_52_method_4_code 43 = .ok (.bastore, 1) := by decide +kernel
theorem own_d17_44 : decode jdk_52_method_4_code 44 = .ok (.aload_n 0, 1) := by decide +kernel
theorem own_d17_45 : decode jdk_52_method_4_code 45 = .ok (.iload_n 1, 1) := by decide +kernel
theorem own_d17_46 : decode jdk_52_method_4_code 46 = .ok (.iload_n 2, 1) := by decide +kernel
theorem own_d17_47 : decode jdk_52_method_4_code 47 = .ok (.getstatic 63, 3) := by decide +kernel
theorem own_d17_50 : decode jdk_52_method_4_code 50 = .ok (.ishr, 1) := by decide +kernel
theorem own_d17_51 : decode jdk_52_method_4_code 51 = .ok (.i2b, 1) := by decide +kernel
theorem own_d17_52 : decode jdk_52_method_4_code 52 = .ok (.bastore, 1) := by decide +kernel
theorem own_d17_53 : decode jdk_52_method_4_code 53 = .ok (.return_, 1) := by decide +kernel
theorem own_efpc (m : MethodId) (x0 : Addr) (x1 : Int32) (x2 : Int32) : entryFrame m #[(.ref x0), (.int x1), (.int x2)] 3 = mkF m 0 #[.val (.ref x0), .val (.int x1), .val (.int x2)] [] := by first | (simp [entryFrame, mkF, argsToLocals, Value.category]; done) | rfl
def own_Qpc (Z : State) (p1 : Addr) (p2 : Int32) (p3 : Int32) (nn : Nat) (bf : Nat → Int32) (ii : Nat) (h0 : Heap) (n0 : Nat) (v : Option Value) (h : Heap) (L : List Loc) : Prop := v = none ∧ Fr n0 L ∧ Keep h0 h [p1] ∧ own_G Z h p1 .byte (2 * nn) (own_upd (own_upd bf (2 * ii) (own_lo p3)) (2 * ii + 1) (own_hi p3))
def own_Rpc : Room := { frames := 0, cells := 0, slots := 0, locals := 0 }
set_option maxRecDepth 65536 in
set_option maxHeartbeats 40000000 in
theorem own_rmpc (l : Launch) (Z : State) (a0 : Array Value) (hw : ∀ d ∈ tables_1, d.before a0 Z = true) (ws : List Jvm.Cond) (p1 : Addr) (p2 : Int32) (p3 : Int32) (nn : Nat) (bf : Nat → Int32) (ii : Nat) (h0 : Heap) (n0 : Nat) (Z0 : n0 ≤ h0.size) (P0 : own_G Z h0 p1 .byte (2 * nn) bf) (ge_p1 : n0 ≤ p1) (Xo : Old Z n0 h0) (hp2 : p2.toInt = (ii : Int)) (SA : Sta Z Z.heap "java/lang/StringUTF16" "$assertionsDisabled" "Z" (.int (1 : Int32))) (SH : Sta Z Z.heap "java/lang/StringUTF16" "HI_BYTE_SHIFT" "I" (.int (0 : Int32))) (SL : Sta Z Z.heap "java/lang/StringUTF16" "LO_BYTE_SHIFT" "I" (.int (8 : Int32))) (hi : ii < nn) (hn : nn ≤ 4) :
    MetFree l (⟨"java/lang/StringUTF16", "putChar", "([BII)V"⟩ : MethodName) (head1 (Jvm.Cond.code (⟨"java/lang/StringUTF16", "putChar", "([BII)V"⟩ : MethodName) jdk_52_method_4_code 3 none :: ws) own_Rpc) (fun aa U => aa = #[(.ref p1), (.int p2), (.int p3)] ∧ Z.Warmed39 U.vm ∧ U.heap = h0) (fun _ _ _ _ _ => True) (fun _ U o U' => ∃ v L, o = .returned v ∧ own_Qpc Z p1 p2 p3 nn bf ii h0 n0 v U'.heap L ∧ FrameEnd U o U' L own_Rpc.cells own_Rpc.slots) := by
  refine MetFree.of_bodySF (plainFor_of_name own_pn0) hisR ?_
  intro p e s m args below meth c s₁ Bd hml0 hP hK
  obtain ⟨rfl, hZ, hh⟩ := hP
  have hx := Bd.exec
  have hby := Bd.bytes
  have hml : c.maxLocals = 3 := hml0
  have hown : s.vm.findClass "java/lang/StringUTF16" = some m.cls := findClass_of_methodNamed Bd.named
  have hnm := (name_of_methodNamed Bd.named Bd.method).1
  have X0 : Stand p l e own_Rpc s m #[(.ref p1), (.int p2), (.int p3)] below meth c s₁ [] 0 0 := Stand.of_body Bd
  have e0 : s₁.heap = h0 := by rw [← hh, Bd.state]; rfl
  have N0 := Fr.nil n0
  have pre0 : ∀ t, Steps p.tables e below (s₁.setTop (mkF m 0 #[.val (.ref p1), .val (.int p2), .val (.int p3)] [])) t → Steps p.tables e below (s₁.setTop (entryFrame m #[(.ref p1), (.int p2), (.int p3)] 3)) t := fun t k => castTop (own_efpc m p1 p2 p3) k
  obtain ⟨T1, X1, e1, st1⟩ := getS2 X0 hx hZ hown (host := "") (Or.inl (hw _ (List.mem_of_getElem? (i := 83) rfl))) Via.refl e0 (SA.ext Xo.2) (g := (mkF m 0 #[.val (.ref p1), .val (.int p2), .val (.int p3)] [])) rfl (hb hby own_d17_0)
  have k2 : ∀ t, Steps p.tables e below (T1.setTop (mkF m 3 #[.val (.ref p1), .val (.int p2), .val (.int p3)] [(.int (1 : Int32))])) t → Steps p.tables e below (s₁.setTop (entryFrame m #[(.ref p1), (.int p2), (.int p3)] 3)) t := fun t k => pre0 t (st1 t k)
  have k3 : ∀ t, Steps p.tables e below (T1.setTop (mkF m 38 #[.val (.ref p1), .val (.int ((p2 <<< ((1 : Int32) &&& 31)) + (1 : Int32))), .val (.int p3)] [(.int p3), (.int (p2 <<< ((1 : Int32) &&& 31))), (.ref p1)])) t → Steps p.tables e below (s₁.setTop (entryFrame m #[(.ref p1), (.int p2), (.int p3)] 3)) t := by
    intro t k
    refine k2 t ?_
    show Steps p.tables e below (T1.setTop (mkF m 3 #[.val (.ref p1), .val (.int p2), .val (.int p3)] [(.int (1 : Int32))])) _
    refine XS.ifYes X1.here hx rfl (pc0 := 3) (pc' := 28) rfl (hb hby own_d17_3) rfl ((if0 _ _).trans (feq (by decide : ¬ ((1 : Int32) = (0 : Int32)))).2) (by decide) (by decide) ?_
    show Steps p.tables e below (T1.setTop (mkF m 28 #[.val (.ref p1), .val (.int p2), .val (.int p3)] [])) _
    refine XS.iloadN X1.here hx rfl (hb hby own_d17_28) rfl ?_
    show Steps p.tables e below (T1.setTop (mkF m 29 #[.val (.ref p1), .val (.int p2), .val (.int p3)] [(.int p2)])) _
    refine XS.iconst X1.here hx rfl (hb hby own_d17_29) ?_
    show Steps p.tables e below (T1.setTop (mkF m 30 #[.val (.ref p1), .val (.int p2), .val (.int p3)] [(.int (1 : Int32)), (.int p2)])) _
    refine XS.ishl X1.here hx rfl (hb hby own_d17_30) rfl ?_
    show Steps p.tables e below (T1.setTop (mkF m 31 #[.val (.ref p1), .val (.int p2), .val (.int p3)] [(.int (p2 <<< ((1 : Int32) &&& 31)))])) _
    refine XS.istoreN X1.here hx rfl (hb hby own_d17_31) rfl (l' := #[.val (.ref p1), .val (.int (p2 <<< ((1 : Int32) &&& 31))), .val (.int p3)]) rfl ?_
    show Steps p.tables e below (T1.setTop (mkF m 32 #[.val (.ref p1), .val (.int (p2 <<< ((1 : Int32) &&& 31))), .val (.int p3)] [])) _
    refine XS.aloadN X1.here hx rfl (hb hby own_d17_32) rfl rfl ?_
    show Steps p.tables e below (T1.setTop (mkF m 33 #[.val (.ref p1), .val (.int (p2 <<< ((1 : Int32) &&& 31))), .val (.int p3)] [(.ref p1)])) _
    refine XS.iloadN X1.here hx rfl (hb hby own_d17_33) rfl ?_
    show Steps p.tables e below (T1.setTop (mkF m 34 #[.val (.ref p1), .val (.int (p2 <<< ((1 : Int32) &&& 31))), .val (.int p3)] [(.int (p2 <<< ((1 : Int32) &&& 31))), (.ref p1)])) _
    refine XS.iinc X1.here hx rfl (hb hby own_d17_34) rfl (l' := #[.val (.ref p1), .val (.int ((p2 <<< ((1 : Int32) &&& 31)) + (1 : Int32))), .val (.int p3)]) rfl ?_
    show Steps p.tables e below (T1.setTop (mkF m 37 #[.val (.ref p1), .val (.int ((p2 <<< ((1 : Int32) &&& 31)) + (1 : Int32))), .val (.int p3)] [(.int (p2 <<< ((1 : Int32) &&& 31))), (.ref p1)])) _
    refine XS.iloadN X1.here hx rfl (hb hby own_d17_37) rfl ?_
    exact k
  obtain ⟨T4, X4, e4, st4⟩ := getS2 X1 hx hZ hown (host := "") (Or.inl (hw _ (List.mem_of_getElem? (i := 84) rfl))) Via.refl e1 (SH.ext Xo.2) (g := (mkF m 38 #[.val (.ref p1), .val (.int ((p2 <<< ((1 : Int32) &&& 31)) + (1 : Int32))), .val (.int p3)] [(.int p3), (.int (p2 <<< ((1 : Int32) &&& 31))), (.ref p1)])) rfl (hb hby own_d17_38)
  have k5 : ∀ t, Steps p.tables e below (T4.setTop (mkF m 41 #[.val (.ref p1), .val (.int ((p2 <<< ((1 : Int32) &&& 31)) + (1 : Int32))), .val (.int p3)] [(.int (0 : Int32)), (.int p3), (.int (p2 <<< ((1 : Int32) &&& 31))), (.ref p1)])) t → Steps p.tables e below (s₁.setTop (entryFrame m #[(.ref p1), (.int p2), (.int p3)] 3)) t := fun t k => k3 t (st4 t k)
  have k6 : ∀ t, Steps p.tables e below (T4.setTop (mkF m 43 #[.val (.ref p1), .val (.int ((p2 <<< ((1 : Int32) &&& 31)) + (1 : Int32))), .val (.int p3)] [(.int ((p3 >>> ((0 : Int32) &&& 31)).toInt8.toInt32)), (.int (p2 <<< ((1 : Int32) &&& 31))), (.ref p1)])) t → Steps p.tables e below (s₁.setTop (entryFrame m #[(.ref p1), (.int p2), (.int p3)] 3)) t := by
    intro t k
    refine k5 t ?_
    show Steps p.tables e below (T4.setTop (mkF m 41 #[.val (.ref p1), .val (.int ((p2 <<< ((1 : Int32) &&& 31)) + (1 : Int32))), .val (.int p3)] [(.int (0 : Int32)), (.int p3), (.int (p2 <<< ((1 : Int32) &&& 31))), (.ref p1)])) _
    refine XS.ishr X4.here hx rfl (hb hby own_d17_41) rfl ?_
    show Steps p.tables e below (T4.setTop (mkF m 42 #[.val (.ref p1), .val (.int ((p2 <<< ((1 : Int32) &&& 31)) + (1 : Int32))), .val (.int p3)] [(.int (p3 >>> ((0 : Int32) &&& 31))), (.int (p2 <<< ((1 : Int32) &&& 31))), (.ref p1)])) _
    refine XS.i2b X4.here hx rfl (hb hby own_d17_42) rfl ?_
    exact k
  obtain ⟨T7, h7, X7, e7, W7, G7, st7⟩ := own_stB X4 hx hZ e4 P0 (j := (p2 <<< ((1 : Int32) &&& 31))) (own_shl1 hp2 (by omega)) (by omega) (g := (mkF m 43 #[.val (.ref p1), .val (.int ((p2 <<< ((1 : Int32) &&& 31)) + (1 : Int32))), .val (.int p3)] [(.int ((p3 >>> ((0 : Int32) &&& 31)).toInt8.toInt32)), (.int (p2 <<< ((1 : Int32) &&& 31))), (.ref p1)])) rfl rfl (hb hby own_d17_43)
  have N7 := Fr.snoc X7 N0 ge_p1
  have K7 : Keep h0 h7 [p1] := (Keep.refl h0 [p1]).wr W7 (Or.inl (List.mem_of_getElem? (i := 0) rfl))
  have Z7 : n0 ≤ h7.size := Nat.le_trans Z0 (Keep.of_wr W7).1
  have Xo7 := Xo.wr W7 ge_p1
  have k8 : ∀ t, Steps p.tables e below (T7.setTop (mkF m 44 #[.val (.ref p1), .val (.int ((p2 <<< ((1 : Int32) &&& 31)) + (1 : Int32))), .val (.int p3)] [])) t → Steps p.tables e below (s₁.setTop (entryFrame m #[(.ref p1), (.int p2), (.int p3)] 3)) t := fun t k => k6 t (st7 t k)
  have k9 : ∀ t, Steps p.tables e below (T7.setTop (mkF m 47 #[.val (.ref p1), .val (.int ((p2 <<< ((1 : Int32) &&& 31)) + (1 : Int32))), .val (.int p3)] [(.int p3), (.int ((p2 <<< ((1 : Int32) &&& 31)) + (1 : Int32))), (.ref p1)])) t → Steps p.tables e below (s₁.setTop (entryFrame m #[(.ref p1), (.int p2), (.int p3)] 3)) t := by
    intro t k
    refine k8 t ?_
    show Steps p.tables e below (T7.setTop (mkF m 44 #[.val (.ref p1), .val (.int ((p2 <<< ((1 : Int32) &&& 31)) + (1 : Int32))), .val (.int p3)] [])) _
    refine XS.aloadN X7.here hx rfl (hb hby own_d17_44) rfl rfl ?_
    show Steps p.tables e below (T7.setTop (mkF m 45 #[.val (.ref p1), .val (.int ((p2 <<< ((1 : Int32) &&& 31)) + (1 : Int32))), .val (.int p3)] [(.ref p1)])) _
    refine XS.iloadN X7.here hx rfl (hb hby own_d17_45) rfl ?_
    show Steps p.tables e below (T7.setTop (mkF m 46 #[.val (.ref p1), .val (.int ((p2 <<< ((1 : Int32) &&& 31)) + (1 : Int32))), .val (.int p3)] [(.int ((p2 <<< ((1 : Int32) &&& 31)) + (1 : Int32))), (.ref p1)])) _
    refine XS.iloadN X7.here hx rfl (hb hby own_d17_46) rfl ?_
    exact k
  obtain ⟨T10, X10, e10, st10⟩ := getS2 X7 hx hZ hown (host := "") (Or.inl (hw _ (List.mem_of_getElem? (i := 85) rfl))) Via.refl e7 (SL.ext Xo7.2) (g := (mkF m 47 #[.val (.ref p1), .val (.int ((p2 <<< ((1 : Int32) &&& 31)) + (1 : Int32))), .val (.int p3)] [(.int p3), (.int ((p2 <<< ((1 : Int32) &&& 31)) + (1 : Int32))), (.ref p1)])) rfl (hb hby own_d17_47)
  have k11 : ∀ t, Steps p.tables e below (T10.setTop (mkF m 50 #[.val (.ref p1), .val (.int ((p2 <<< ((1 : Int32) &&& 31)) + (1 : Int32))), .val (.int p3)] [(.int (8 : Int32)), (.int p3), (.int ((p2 <<< ((1 : Int32) &&& 31)) + (1 : Int32))), (.ref p1)])) t → Steps p.tables e below (s₁.setTop (entryFrame m #[(.ref p1), (.int p2), (.int p3)] 3)) t := fun t k => k9 t (st10 t k)
  have k12 : ∀ t, Steps p.tables e below (T10.setTop (mkF m 52 #[.val (.ref p1), .val (.int ((p2 <<< ((1 : Int32) &&& 31)) + (1 : Int32))), .val (.int p3)] [(.int ((p3 >>> ((8 : Int32) &&& 31)).toInt8.toInt32)), (.int ((p2 <<< ((1 : Int32) &&& 31)) + (1 : Int32))), (.ref p1)])) t → Steps p.tables e below (s₁.setTop (entryFrame m #[(.ref p1), (.int p2), (.int p3)] 3)) t := by
    intro t k
    refine k11 t ?_
    show Steps p.tables e below (T10.setTop (mkF m 50 #[.val (.ref p1), .val (.int ((p2 <<< ((1 : Int32) &&& 31)) + (1 : Int32))), .val (.int p3)] [(.int (8 : Int32)), (.int p3), (.int ((p2 <<< ((1 : Int32) &&& 31)) + (1 : Int32))), (.ref p1)])) _
    refine XS.ishr X10.here hx rfl (hb hby own_d17_50) rfl ?_
    show Steps p.tables e below (T10.setTop (mkF m 51 #[.val (.ref p1), .val (.int ((p2 <<< ((1 : Int32) &&& 31)) + (1 : Int32))), .val (.int p3)] [(.int (p3 >>> ((8 : Int32) &&& 31))), (.int ((p2 <<< ((1 : Int32) &&& 31)) + (1 : Int32))), (.ref p1)])) _
    refine XS.i2b X10.here hx rfl (hb hby own_d17_51) rfl ?_
    exact k
  obtain ⟨T13, h13, X13, e13, W13, G13, st13⟩ := own_stB X10 hx hZ e10 G7 (j := ((p2 <<< ((1 : Int32) &&& 31)) + (1 : Int32))) (own_inc (own_shl1 hp2 (by omega)) (by omega)) (by omega) (g := (mkF m 52 #[.val (.ref p1), .val (.int ((p2 <<< ((1 : Int32) &&& 31)) + (1 : Int32))), .val (.int p3)] [(.int ((p3 >>> ((8 : Int32) &&& 31)).toInt8.toInt32)), (.int ((p2 <<< ((1 : Int32) &&& 31)) + (1 : Int32))), (.ref p1)])) rfl rfl (hb hby own_d17_52)
  have N13 := Fr.snoc X13 N7 ge_p1
  have K13 : Keep h0 h13 [p1] := K7.wr W13 (Or.inl (List.mem_of_getElem? (i := 0) rfl))
  have Z13 : n0 ≤ h13.size := Nat.le_trans Z7 (Keep.of_wr W13).1
  have Xo13 := Xo7.wr W13 ge_p1
  have k14 : ∀ t, Steps p.tables e below (T13.setTop (mkF m 53 #[.val (.ref p1), .val (.int ((p2 <<< ((1 : Int32) &&& 31)) + (1 : Int32))), .val (.int p3)] [])) t → Steps p.tables e below (s₁.setTop (entryFrame m #[(.ref p1), (.int p2), (.int p3)] 3)) t := fun t k => k12 t (st13 t k)
  obtain ⟨fs, hr, hrun, hended, hW, hsame⟩ := X13.leave (v := none) (fun _ => rfl)
  refine ⟨_, _, k14 _ ?_, hrun, hended, _, _, rfl, ?_, ⟨_, rfl⟩, hW, hsame.mono (by decide) (by decide)⟩
  · exact X13.returnOut hx Bd.returns (hb hby own_d17_53) hr
  · show own_Qpc Z p1 p2 p3 nn bf ii h0 n0 _ T13.heap _
    rw [e13]
    exact ⟨rfl, N13, K13, G13⟩
theorem own_d18_0 : decode jdk_52_method_5_code 0 = .ok (.getstatic 44, 3) := by decide +kernel
theorem own_d18_3 : decode jdk_52_method_5_code 3 = .ok (.ifCond .ne 25, 3) := by decide +kernel
theorem own_d18_28 : decode jdk_52_method_5_code 28 = .ok (.iload_n 1, 1) := by decide +kernel
theorem own_d18_29 : decode jdk_52_method_5_code 29 = .ok (.iconst 1, 1) := by decide +kernel
theorem own_d18_30 : decode jdk_52_method_5_code 30 = .ok (.ishl, 1) := by decide +kernel
theorem own_d18_31 : decode jdk_52_method_5_code 31 = .ok (.istore_n 1, 1) := by decide +kernel
theorem own_d18_32 : decode jdk_52_method_5_code 32 = .ok (.aload_n 0, 1) := by decide +kernel
theorem own_d18_33 : decode jdk_52_method_5_code 33 = .ok (.iload_n 1, 1) := by decide +kernel
theorem own_d18_34 : decode jdk_52_method_5_code 34 = .ok (.iinc 1 1, 3) := by decide +kernel
theorem own_d18_37 : decode jdk_52_method_5_code 37 = .ok (.baload, 1) := by decide +kernel
theorem own_d18_38 : decode jdk_52_method_5_code 38 = .ok (.sipush 255, 3) := by decide +kernel
theorem own_d18_41 : decode jdk_52_method_5_code 41 = .ok (.iand, 1) := by decide +kernel
theorem own_d18_42 : decode jdk_52_method_5_code 42 = .ok (.getstatic 59, 3) := by decide +kernel
theorem own_d18_45 : decode jdk_52_method_5_code 45 = .ok (.ishl, 1) := by decide +kernel
theorem own_d18_46 : decode jdk_52_method_5_code 46 = .ok (.aload_n 0, 1) := by decide +kernel
theorem own_d18_47 : decode jdk_52_method_5_code 47 = .ok (.iload_n 1, 1) := by decide +kernel
theorem own_d18_48 : decode jdk_52_method_5_code 48 = .ok (.baload, 1) := by decide +kernel
theorem own_d18_49 : decode jdk_52_method_5_code 49 = .ok (.sipush 255, 3) := by decide +kernel
theorem own_d18_52 : decode jdk_52_method_5_code 52 = .ok (.iand, 1) := by decide +kernel
theorem own_d18_53 : decode jdk_52_method_5_code 53 = .ok (.getstatic 63, 3) := by decide +kernel
theorem own_d18_56 : decode jdk_52_method_5_code 56 = .ok (.ishl, 1) := by decide +kernel
theorem own_d18_57 : decode jdk_52_method_5_code 57 = .ok (.ior, 1) := by decide +kernel
theorem own_d18_58 : decode jdk_52_method_5_code 58 = .ok (.i2c, 1) := by decide +kernel
theorem own_d18_59 : decode jdk_52_method_5_code 59 = .ok (.ireturn, 1) := by decide +kernel
theorem own_efgc (m : MethodId) (x0 : Addr) (x1 : Int32) : entryFrame m #[(.ref x0), (.int x1)] 2 = mkF m 0 #[.val (.ref x0), .val (.int x1)] [] := by first | (simp [entryFrame, mkF, argsToLocals, Value.category]; done) | rfl
def own_Qgc (Z : State) (p1 : Addr) (p2 : Int32) (zb : Nat) (bf : Nat → Int32) (ii : Nat) (cv : Int32) (h0 : Heap) (n0 : Nat) (v : Option Value) (h : Heap) (L : List Loc) : Prop := v = some (.int cv) ∧ Fr n0 L ∧ h = h0
def own_Rgc : Room := { frames := 0, cells := 0, slots := 0, locals := 0 }
set_option maxRecDepth 65536 in
set_option maxHeartbeats 40000000 in
theorem own_rmgc (l : Launch) (Z : State) (a0 : Array Value) (hw : ∀ d ∈ tables_1, d.before a0 Z = true) (ws : List Jvm.Cond) (p1 : Addr) (p2 : Int32) (zb : Nat) (bf : Nat → Int32) (ii : Nat) (cv : Int32) (h0 : Heap) (n0 : Nat) (Z0 : n0 ≤ h0.size) (P0 : own_G Z h0 p1 .byte zb bf) (Xo : Old Z n0 h0) (hp2 : p2.toInt = (ii : Int)) (SA : Sta Z Z.heap "java/lang/StringUTF16" "$assertionsDisabled" "Z" (.int (1 : Int32))) (SH : Sta Z Z.heap "java/lang/StringUTF16" "HI_BYTE_SHIFT" "I" (.int (0 : Int32))) (SL : Sta Z Z.heap "java/lang/StringUTF16" "LO_BYTE_SHIFT" "I" (.int (8 : Int32))) (hi : 2 * ii + 1 < zb) (hz : zb ≤ 8) (hv0 : bf (2 * ii) = own_lo cv) (hv1 : bf (2 * ii + 1) = own_hi cv) (hcv : own_ch cv) :
    MetFree l (⟨"java/lang/StringUTF16", "getChar", "([BI)C"⟩ : MethodName) (head1 (Jvm.Cond.code (⟨"java/lang/StringUTF16", "getChar", "([BI)C"⟩ : MethodName) jdk_52_method_5_code 2 (some .char) :: ws) own_Rgc) (fun aa U => aa = #[(.ref p1), (.int p2)] ∧ Z.Warmed39 U.vm ∧ U.heap = h0) (fun _ _ _ _ _ => True) (fun _ U o U' => ∃ v L, o = .returned v ∧ own_Qgc Z p1 p2 zb bf ii cv h0 n0 v U'.heap L ∧ FrameEnd U o U' L own_Rgc.cells own_Rgc.slots) := by
  refine MetFree.of_bodySF (plainFor_of_name own_pn0) hisR ?_
  intro p e s m args below meth c s₁ Bd hml0 hP hK
  obtain ⟨rfl, hZ, hh⟩ := hP
  have hx := Bd.exec
  have hby := Bd.bytes
  have hml : c.maxLocals = 2 := hml0
  have hown : s.vm.findClass "java/lang/StringUTF16" = some m.cls := findClass_of_methodNamed Bd.named
  have hnm := (name_of_methodNamed Bd.named Bd.method).1
  have X0 : Stand p l e own_Rgc s m #[(.ref p1), (.int p2)] below meth c s₁ [] 0 0 := Stand.of_body Bd
  have e0 : s₁.heap = h0 := by rw [← hh, Bd.state]; rfl
  have N0 := Fr.nil n0
  have pre0 : ∀ t, Steps p.tables e below (s₁.setTop (mkF m 0 #[.val (.ref p1), .val (.int p2)] [])) t → Steps p.tables e below (s₁.setTop (entryFrame m #[(.ref p1), (.int p2)] 2)) t := fun t k => castTop (own_efgc m p1 p2) k
  obtain ⟨T1, X1, e1, st1⟩ := getS2 X0 hx hZ hown (host := "") (Or.inl (hw _ (List.mem_of_getElem? (i := 83) rfl))) Via.refl e0 (SA.ext Xo.2) (g := (mkF m 0 #[.val (.ref p1), .val (.int p2)] [])) rfl (hb hby own_d18_0)
  have k2 : ∀ t, Steps p.tables e below (T1.setTop (mkF m 3 #[.val (.ref p1), .val (.int p2)] [(.int (1 : Int32))])) t → Steps p.tables e below (s₁.setTop (entryFrame m #[(.ref p1), (.int p2)] 2)) t := fun t k => pre0 t (st1 t k)
  have k3 : ∀ t, Steps p.tables e below (T1.setTop (mkF m 42 #[.val (.ref p1), .val (.int ((p2 <<< ((1 : Int32) &&& 31)) + (1 : Int32)))] [(.int ((bf (2 * ii)) &&& (255 : Int32)))])) t → Steps p.tables e below (s₁.setTop (entryFrame m #[(.ref p1), (.int p2)] 2)) t := by
    intro t k
    refine k2 t ?_
    show Steps p.tables e below (T1.setTop (mkF m 3 #[.val (.ref p1), .val (.int p2)] [(.int (1 : Int32))])) _
    refine XS.ifYes X1.here hx rfl (pc0 := 3) (pc' := 28) rfl (hb hby own_d18_3) rfl ((if0 _ _).trans (feq (by decide : ¬ ((1 : Int32) = (0 : Int32)))).2) (by decide) (by decide) ?_
    show Steps p.tables e below (T1.setTop (mkF m 28 #[.val (.ref p1), .val (.int p2)] [])) _
    refine XS.iloadN X1.here hx rfl (hb hby own_d18_28) rfl ?_
    show Steps p.tables e below (T1.setTop (mkF m 29 #[.val (.ref p1), .val (.int p2)] [(.int p2)])) _
    refine XS.iconst X1.here hx rfl (hb hby own_d18_29) ?_
    show Steps p.tables e below (T1.setTop (mkF m 30 #[.val (.ref p1), .val (.int p2)] [(.int (1 : Int32)), (.int p2)])) _
    refine XS.ishl X1.here hx rfl (hb hby own_d18_30) rfl ?_
    show Steps p.tables e below (T1.setTop (mkF m 31 #[.val (.ref p1), .val (.int p2)] [(.int (p2 <<< ((1 : Int32) &&& 31)))])) _
    refine XS.istoreN X1.here hx rfl (hb hby own_d18_31) rfl (l' := #[.val (.ref p1), .val (.int (p2 <<< ((1 : Int32) &&& 31)))]) rfl ?_
    show Steps p.tables e below (T1.setTop (mkF m 32 #[.val (.ref p1), .val (.int (p2 <<< ((1 : Int32) &&& 31)))] [])) _
    refine XS.aloadN X1.here hx rfl (hb hby own_d18_32) rfl rfl ?_
    show Steps p.tables e below (T1.setTop (mkF m 33 #[.val (.ref p1), .val (.int (p2 <<< ((1 : Int32) &&& 31)))] [(.ref p1)])) _
    refine XS.iloadN X1.here hx rfl (hb hby own_d18_33) rfl ?_
    show Steps p.tables e below (T1.setTop (mkF m 34 #[.val (.ref p1), .val (.int (p2 <<< ((1 : Int32) &&& 31)))] [(.int (p2 <<< ((1 : Int32) &&& 31))), (.ref p1)])) _
    refine XS.iinc X1.here hx rfl (hb hby own_d18_34) rfl (l' := #[.val (.ref p1), .val (.int ((p2 <<< ((1 : Int32) &&& 31)) + (1 : Int32)))]) rfl ?_
    show Steps p.tables e below (T1.setTop (mkF m 37 #[.val (.ref p1), .val (.int ((p2 <<< ((1 : Int32) &&& 31)) + (1 : Int32)))] [(.int (p2 <<< ((1 : Int32) &&& 31))), (.ref p1)])) _
    refine own_ldB X1 hx hZ e1 P0 (j := (p2 <<< ((1 : Int32) &&& 31))) (own_shl1 hp2 (by omega)) (by omega) (g := (mkF m 37 #[.val (.ref p1), .val (.int ((p2 <<< ((1 : Int32) &&& 31)) + (1 : Int32)))] [(.int (p2 <<< ((1 : Int32) &&& 31))), (.ref p1)])) rfl rfl (hb hby own_d18_37) ?_
    show Steps p.tables e below (T1.setTop (mkF m 38 #[.val (.ref p1), .val (.int ((p2 <<< ((1 : Int32) &&& 31)) + (1 : Int32)))] [(.int (bf (2 * ii)))])) _
    refine XS.sipush X1.here hx rfl (hb hby own_d18_38) ?_
    show Steps p.tables e below (T1.setTop (mkF m 41 #[.val (.ref p1), .val (.int ((p2 <<< ((1 : Int32) &&& 31)) + (1 : Int32)))] [(.int (255 : Int32)), (.int (bf (2 * ii)))])) _
    refine XS.iand X1.here hx rfl (hb hby own_d18_41) rfl ?_
    exact k
  obtain ⟨T4, X4, e4, st4⟩ := getS2 X1 hx hZ hown (host := "") (Or.inl (hw _ (List.mem_of_getElem? (i := 84) rfl))) Via.refl e1 (SH.ext Xo.2) (g := (mkF m 42 #[.val (.ref p1), .val (.int ((p2 <<< ((1 : Int32) &&& 31)) + (1 : Int32)))] [(.int ((bf (2 * ii)) &&& (255 : Int32)))])) rfl (hb hby own_d18_42)
  have k5 : ∀ t, Steps p.tables e below (T4.setTop (mkF m 45 #[.val (.ref p1), .val (.int ((p2 <<< ((1 : Int32) &&& 31)) + (1 : Int32)))] [(.int (0 : Int32)), (.int ((bf (2 * ii)) &&& (255 : Int32)))])) t → Steps p.tables e below (s₁.setTop (entryFrame m #[(.ref p1), (.int p2)] 2)) t := fun t k => k3 t (st4 t k)
  have k6 : ∀ t, Steps p.tables e below (T4.setTop (mkF m 53 #[.val (.ref p1), .val (.int ((p2 <<< ((1 : Int32) &&& 31)) + (1 : Int32)))] [(.int ((bf ((2 * ii) + 1)) &&& (255 : Int32))), (.int (((bf (2 * ii)) &&& (255 : Int32)) <<< ((0 : Int32) &&& 31)))])) t → Steps p.tables e below (s₁.setTop (entryFrame m #[(.ref p1), (.int p2)] 2)) t := by
    intro t k
    refine k5 t ?_
    show Steps p.tables e below (T4.setTop (mkF m 45 #[.val (.ref p1), .val (.int ((p2 <<< ((1 : Int32) &&& 31)) + (1 : Int32)))] [(.int (0 : Int32)), (.int ((bf (2 * ii)) &&& (255 : Int32)))])) _
    refine XS.ishl X4.here hx rfl (hb hby own_d18_45) rfl ?_
    show Steps p.tables e below (T4.setTop (mkF m 46 #[.val (.ref p1), .val (.int ((p2 <<< ((1 : Int32) &&& 31)) + (1 : Int32)))] [(.int (((bf (2 * ii)) &&& (255 : Int32)) <<< ((0 : Int32) &&& 31)))])) _
    refine XS.aloadN X4.here hx rfl (hb hby own_d18_46) rfl rfl ?_
    show Steps p.tables e below (T4.setTop (mkF m 47 #[.val (.ref p1), .val (.int ((p2 <<< ((1 : Int32) &&& 31)) + (1 : Int32)))] [(.ref p1), (.int (((bf (2 * ii)) &&& (255 : Int32)) <<< ((0 : Int32) &&& 31)))])) _
    refine XS.iloadN X4.here hx rfl (hb hby own_d18_47) rfl ?_
    show Steps p.tables e below (T4.setTop (mkF m 48 #[.val (.ref p1), .val (.int ((p2 <<< ((1 : Int32) &&& 31)) + (1 : Int32)))] [(.int ((p2 <<< ((1 : Int32) &&& 31)) + (1 : Int32))), (.ref p1), (.int (((bf (2 * ii)) &&& (255 : Int32)) <<< ((0 : Int32) &&& 31)))])) _
    refine own_ldB X4 hx hZ e4 P0 (j := ((p2 <<< ((1 : Int32) &&& 31)) + (1 : Int32))) (own_inc (own_shl1 hp2 (by omega)) (by omega)) (by omega) (g := (mkF m 48 #[.val (.ref p1), .val (.int ((p2 <<< ((1 : Int32) &&& 31)) + (1 : Int32)))] [(.int ((p2 <<< ((1 : Int32) &&& 31)) + (1 : Int32))), (.ref p1), (.int (((bf (2 * ii)) &&& (255 : Int32)) <<< ((0 : Int32) &&& 31)))])) rfl rfl (hb hby own_d18_48) ?_
    show Steps p.tables e below (T4.setTop (mkF m 49 #[.val (.ref p1), .val (.int ((p2 <<< ((1 : Int32) &&& 31)) + (1 : Int32)))] [(.int (bf ((2 * ii) + 1))), (.int (((bf (2 * ii)) &&& (255 : Int32)) <<< ((0 : Int32) &&& 31)))])) _
    refine XS.sipush X4.here hx rfl (hb hby own_d18_49) ?_
    show Steps p.tables e below (T4.setTop (mkF m 52 #[.val (.ref p1), .val (.int ((p2 <<< ((1 : Int32) &&& 31)) + (1 : Int32)))] [(.int (255 : Int32)), (.int (bf ((2 * ii) + 1))), (.int (((bf (2 * ii)) &&& (255 : Int32)) <<< ((0 : Int32) &&& 31)))])) _
    refine XS.iand X4.here hx rfl (hb hby own_d18_52) rfl ?_
    exact k
  obtain ⟨T7, X7, e7, st7⟩ := getS2 X4 hx hZ hown (host := "") (Or.inl (hw _ (List.mem_of_getElem? (i := 85) rfl))) Via.refl e4 (SL.ext Xo.2) (g := (mkF m 53 #[.val (.ref p1), .val (.int ((p2 <<< ((1 : Int32) &&& 31)) + (1 : Int32)))] [(.int ((bf ((2 * ii) + 1)) &&& (255 : Int32))), (.int (((bf (2 * ii)) &&& (255 : Int32)) <<< ((0 : Int32) &&& 31)))])) rfl (hb hby own_d18_53)
  have k8 : ∀ t, Steps p.tables e below (T7.setTop (mkF m 56 #[.val (.ref p1), .val (.int ((p2 <<< ((1 : Int32) &&& 31)) + (1 : Int32)))] [(.int (8 : Int32)), (.int ((bf ((2 * ii) + 1)) &&& (255 : Int32))), (.int (((bf (2 * ii)) &&& (255 : Int32)) <<< ((0 : Int32) &&& 31)))])) t → Steps p.tables e below (s₁.setTop (entryFrame m #[(.ref p1), (.int p2)] 2)) t := fun t k => k6 t (st7 t k)
  have k9 : ∀ t, Steps p.tables e below (T7.setTop (mkF m 59 #[.val (.ref p1), .val (.int ((p2 <<< ((1 : Int32) &&& 31)) + (1 : Int32)))] [(.int (((((bf (2 * ii)) &&& (255 : Int32)) <<< ((0 : Int32) &&& 31)) ||| (((bf ((2 * ii) + 1)) &&& (255 : Int32)) <<< ((8 : Int32) &&& 31))).toUInt32.toUInt16.toUInt32.toInt32))])) t → Steps p.tables e below (s₁.setTop (entryFrame m #[(.ref p1), (.int p2)] 2)) t := by
    intro t k
    refine k8 t ?_
    show Steps p.tables e below (T7.setTop (mkF m 56 #[.val (.ref p1), .val (.int ((p2 <<< ((1 : Int32) &&& 31)) + (1 : Int32)))] [(.int (8 : Int32)), (.int ((bf ((2 * ii) + 1)) &&& (255 : Int32))), (.int (((bf (2 * ii)) &&& (255 : Int32)) <<< ((0 : Int32) &&& 31)))])) _
    refine XS.ishl X7.here hx rfl (hb hby own_d18_56) rfl ?_
    show Steps p.tables e below (T7.setTop (mkF m 57 #[.val (.ref p1), .val (.int ((p2 <<< ((1 : Int32) &&& 31)) + (1 : Int32)))] [(.int (((bf ((2 * ii) + 1)) &&& (255 : Int32)) <<< ((8 : Int32) &&& 31))), (.int (((bf (2 * ii)) &&& (255 : Int32)) <<< ((0 : Int32) &&& 31)))])) _
    refine XS.ior X7.here hx rfl (hb hby own_d18_57) rfl ?_
    show Steps p.tables e below (T7.setTop (mkF m 58 #[.val (.ref p1), .val (.int ((p2 <<< ((1 : Int32) &&& 31)) + (1 : Int32)))] [(.int ((((bf (2 * ii)) &&& (255 : Int32)) <<< ((0 : Int32) &&& 31)) ||| (((bf ((2 * ii) + 1)) &&& (255 : Int32)) <<< ((8 : Int32) &&& 31))))])) _
    refine XS.i2c X7.here hx rfl (hb hby own_d18_58) rfl ?_
    exact k
  obtain ⟨fs, hr, hrun, hended, hW, hsame⟩ := X7.leave (v := (some (.int (nar .char (((((bf (2 * ii)) &&& (255 : Int32)) <<< ((0 : Int32) &&& 31)) ||| (((bf ((2 * ii) + 1)) &&& (255 : Int32)) <<< ((8 : Int32) &&& 31))).toUInt32.toUInt16.toUInt32.toInt32))))) (fun h => by rw [Bd.returns] at h; cases h)
  refine ⟨_, _, k9 _ ?_, hrun, hended, _, _, rfl, ?_, ⟨_, rfl⟩, hW, hsame.mono (by decide) (by decide)⟩
  · exact retN X7 hx (t := .char) Bd.returns (by simp) (hb hby own_d18_59) hr
  · show own_Qgc Z p1 p2 zb bf ii cv h0 n0 _ T7.heap _
    exact ⟨(congrArg (fun z => some (Value.int z)) (own_gcv hv0 hv1 hcv)), N0, e7⟩
theorem own_d14_0 : decode jdk_52_method_14_code 0 = .ok (.iload_n 2, 1) := by decide +kernel
theorem own_d14_1 : decode jdk_52_method_14_code 1 = .ok (.invokestatic 107, 3) := by decide +kernel
theorem own_d14_4 : decode jdk_52_method_14_code 4 = .ok (.astore_n 3, 1) := by decide +kernel
theorem own_d14_5 : decode jdk_52_method_14_code 5 = .ok (.iconst 0, 1) := by decide +kernel
theorem own_d14_6 : decode jdk_52_method_14_code 6 = .ok (.istore 4, 2) := by decide +kernel
theorem own_d14_8 : decode jdk_52_method_14_code 8 = .ok (.iload 4, 2) := by decide +kernel
theorem own_d14_10 : decode jdk_52_method_14_code 10 = .ok (.iload_n 2, 1) := by decide +kernel
theorem own_d14_11 : decode jdk_52_method_14_code 11 = .ok (.if_icmp .ge 21, 3) := by decide +kernel
theorem own_d14_14 : decode jdk_52_method_14_code 14 = .ok (.aload_n 3, 1) := by decide +kernel
theorem own_d14_15 : decode jdk_52_method_14_code 15 = .ok (.iload 4, 2) := by decide +kernel
theorem own_d14_17 : decode jdk_52_method_14_code 17 = .ok (.aload_n 0, 1) := by decide +kernel
theorem own_d14_18 : decode jdk_52_method_14_code 18 = .ok (.iload_n 1, 1) := by decide +kernel
theorem own_d14_19 : decode jdk_52_method_14_code 19 = .ok (.caload, 1) := by decide +kernel
theorem own_d14_20 : decode jdk_52_method_14_code 20 = .ok (.invokestatic 111, 3) := by decide +kernel
theorem own_d14_23 : decode jdk_52_method_14_code 23 = .ok (.iinc 1 1, 3) := by decide +kernel
theorem own_d14_26 : decode jdk_52_method_14_code 26 = .ok (.iinc 4 1, 3) := by decide +kernel
theorem own_d14_29 : decode jdk_52_method_14_code 29 = .ok (.goto (-21), 3) := by decide +kernel
theorem own_d14_32 : decode jdk_52_method_14_code 32 = .ok (.aload_n 3, 1) := by decide +kernel
theorem own_d14_33 : decode jdk_52_method_14_code 33 = .ok (.areturn, 1) := by decide +kernel
theorem own_pd1 : parseMethodDescriptor "(I)[B" = some ⟨[.int], some (.array .byte)⟩ := by decide +kernel
theorem own_pd2 : parseMethodDescriptor "([BII)V" = some ⟨[(.array .byte), .int, .int], none⟩ := by decide +kernel
theorem own_eftb (m : MethodId) (x0 : Addr) (x1 : Int32) (x2 : Int32) : entryFrame m #[(.ref x0), (.int x1), (.int x2)] 5 = mkF m 0 #[.val (.ref x0), .val (.int x1), .val (.int x2), .unset, .unset] [] := by first | (simp [entryFrame, mkF, argsToLocals, Value.category]; done) | rfl
def own_Qtb (Z : State) (p1 : Addr) (p2 : Int32) (p3 : Int32) (zc : Nat) (cf : Nat → Int32) (of_ : Nat) (nn : Nat) (h0 : Heap) (n0 : Nat) (v : Option Value) (h : Heap) (L : List Loc) : Prop := ∃ (b : Addr), v = some (.ref b) ∧ Fr n0 L ∧ Keep h0 h [] ∧ h0.size ≤ b ∧ own_G Z h b .byte (2 * nn) (own_u16 cf of_)
def own_Rtb : Room := { frames := 2, cells := 1, slots := 8, locals := 24 }
set_option maxRecDepth 65536 in
set_option maxHeartbeats 40000000 in
theorem own_rmtb (l : Launch) (Z : State) (a0 : Array Value) (hw : ∀ d ∈ tables_1, d.before a0 Z = true) (ws : List Jvm.Cond) (p1 : Addr) (p2 : Int32) (p3 : Int32) (zc : Nat) (cf : Nat → Int32) (of_ : Nat) (nn : Nat) (h0 : Heap) (n0 : Nat) (Z0 : n0 ≤ h0.size) (P0 : own_G Z h0 p1 .char zc cf) (Xo : Old Z n0 h0) (hp2 : p2.toInt = (of_ : Int)) (hp3 : p3.toInt = (nn : Int)) (SA : Sta Z Z.heap "java/lang/StringUTF16" "$assertionsDisabled" "Z" (.int (1 : Int32))) (SH : Sta Z Z.heap "java/lang/StringUTF16" "HI_BYTE_SHIFT" "I" (.int (0 : Int32))) (SL : Sta Z Z.heap "java/lang/StringUTF16" "LO_BYTE_SHIFT" "I" (.int (8 : Int32))) (hbo : of_ + nn ≤ zc) (hz : zc ≤ 1000000) (hn : nn ≤ 4) :
    MetFree l (⟨"java/lang/StringUTF16", "toBytes", "([CII)[B"⟩ : MethodName) (head1 (Jvm.Cond.code (⟨"java/lang/StringUTF16", "toBytes", "([CII)[B"⟩ : MethodName) jdk_52_method_14_code 5 (some (.array .byte)) :: ws) own_Rtb) (fun aa U => aa = #[(.ref p1), (.int p2), (.int p3)] ∧ Z.Warmed39 U.vm ∧ U.heap = h0) (fun _ _ _ _ _ => True) (fun _ U o U' => ∃ v L, o = .returned v ∧ own_Qtb Z p1 p2 p3 zc cf of_ nn h0 n0 v U'.heap L ∧ FrameEnd U o U' L own_Rtb.cells own_Rtb.slots) := by
  refine MetFree.of_bodySF (plainFor_of_name own_pn0) hisR ?_
  intro p e s m args below meth c s₁ Bd hml0 hP hK
  obtain ⟨rfl, hZ, hh⟩ := hP
  have hx := Bd.exec
  have hby := Bd.bytes
  have hml : c.maxLocals = 5 := hml0
  have hown : s.vm.findClass "java/lang/StringUTF16" = some m.cls := findClass_of_methodNamed Bd.named
  have hnm := (name_of_methodNamed Bd.named Bd.method).1
  have X0 : Stand p l e own_Rtb s m #[(.ref p1), (.int p2), (.int p3)] below meth c s₁ [] 0 0 := Stand.of_body Bd
  have e0 : s₁.heap = h0 := by rw [← hh, Bd.state]; rfl
  have N0 := Fr.nil n0
  have pre0 : ∀ t, Steps p.tables e below (s₁.setTop (mkF m 0 #[.val (.ref p1), .val (.int p2), .val (.int p3), .unset, .unset] [])) t → Steps p.tables e below (s₁.setTop (entryFrame m #[(.ref p1), (.int p2), (.int p3)] 5)) t := fun t k => castTop (own_eftb m p1 p2 p3) k
  have k1 : ∀ t, Steps p.tables e below (s₁.setTop (mkF m 1 #[.val (.ref p1), .val (.int p2), .val (.int p3), .unset, .unset] [(.int p3)])) t → Steps p.tables e below (s₁.setTop (entryFrame m #[(.ref p1), (.int p2), (.int p3)] 5)) t := by
    intro t k
    refine pre0 t ?_
    show Steps p.tables e below (s₁.setTop (mkF m 0 #[.val (.ref p1), .val (.int p2), .val (.int p3), .unset, .unset] [])) _
    refine XS.iloadN X0.here hx rfl (hb hby own_d14_0) rfl ?_
    exact k
  obtain ⟨_, _, ⟨T2, L2, k2c, n2⟩, -, X2, ⟨Lc2, hQ2, l2, y2, z2⟩, st2⟩ := Jvm.LawKit.callS X0 hx (y := (⟨"java/lang/StringUTF16", "newBytesFor", "(I)[B"⟩ : MethodName)) hown (mvT hZ (hw _ (List.mem_of_getElem? (i := 73) rfl))) (mvT hZ (hw _ (List.mem_of_getElem? (i := 74) rfl))) (mvT hZ (hw _ (List.mem_of_getElem? (i := 65) rfl))) (mvT hZ (hw _ (List.mem_of_getElem? (i := 75) rfl))) (by decide) (backOf (W := 0) (own_rmnf l Z a0 hw [] p3 nn h0 n0 Z0 hp3 (by omega)) hZ (hw _ (List.mem_of_getElem? (i := 75) rfl)) (hw _ (List.mem_of_getElem? (i := 65) rfl)) (by decide) (by decide)) (g := (mkF m 1 #[.val (.ref p1), .val (.int p2), .val (.int p3), .unset, .unset] [(.int p3)])) rfl (by rw [hml]; rfl) (argsL := [(.int p3)]) (rest := []) (lenOf own_pd1 rfl) rfl (by show 2 * 0 + _ ≤ _; exact Nat.le_of_eq rfl) (hb hby own_d14_1) (fun _ _ => ⟨rfl, e0, (by decide : 0 + 1 ≤ _), (by decide : 0 + 8 ≤ _)⟩)
  dsimp only [Pt.U, Pt.locs, Pt.cells, Pt.slots] at X2 l2 y2 z2 st2 hQ2
  subst l2 y2 z2
  obtain ⟨rb_2, rfl, N2q, Kq2, gz2_b, fq2_0⟩ := hQ2
  have N2 := Fr.app N0 N2q
  have ge2_b : n0 ≤ rb_2 := Nat.le_trans Z0 gz2_b
  have bo2_b : h0.size ≤ rb_2 := Nat.le_trans (Keep.refl h0 []).1 gz2_b
  have ne3 : p1 ≠ rb_2 := Nat.ne_of_lt (Nat.lt_of_lt_of_le P0.lt gz2_b)
  have f4 := P0.keep Kq2 List.not_mem_nil
  have Z2 : n0 ≤ T2.heap.size := Nat.le_trans Z0 Kq2.1
  have K2 : Keep h0 T2.heap [] := (Keep.refl h0 []).trans Kq2 (fun x hx => nomatch hx)
  have Xo2 := Xo.keep Kq2 all0
  have k5 : ∀ t, Steps p.tables e below (T2.setTop (mkF m 4 #[.val (.ref p1), .val (.int p2), .val (.int p3), .unset, .unset] [(.ref rb_2)])) t → Steps p.tables e below (s₁.setTop (entryFrame m #[(.ref p1), (.int p2), (.int p3)] 5)) t := fun t k => k1 t (st2 t k)
  have k6 : ∀ t, Steps p.tables e below (T2.setTop (mkF m 8 #[.val (.ref p1), .val (.int p2), .val (.int p3), .val (.ref rb_2), .val (.int (0 : Int32))] [])) t → Steps p.tables e below (s₁.setTop (entryFrame m #[(.ref p1), (.int p2), (.int p3)] 5)) t := by
    intro t k
    refine k5 t ?_
    show Steps p.tables e below (T2.setTop (mkF m 4 #[.val (.ref p1), .val (.int p2), .val (.int p3), .unset, .unset] [(.ref rb_2)])) _
    refine XS.astoreN X2.here hx rfl (hb hby own_d14_4) rfl rfl (l' := #[.val (.ref p1), .val (.int p2), .val (.int p3), .val (.ref rb_2), .unset]) rfl ?_
    show Steps p.tables e below (T2.setTop (mkF m 5 #[.val (.ref p1), .val (.int p2), .val (.int p3), .val (.ref rb_2), .unset] [])) _
    refine XS.iconst X2.here hx rfl (hb hby own_d14_5) ?_
    show Steps p.tables e below (T2.setTop (mkF m 6 #[.val (.ref p1), .val (.int p2), .val (.int p3), .val (.ref rb_2), .unset] [(.int (0 : Int32))])) _
    refine XS.istore X2.here hx rfl (hb hby own_d14_6) rfl (l' := #[.val (.ref p1), .val (.int p2), .val (.int p3), .val (.ref rb_2), .val (.int (0 : Int32))]) rfl ?_
    exact k
  refine own_ind (fun dd => ∃ (jj : Nat) (i1 : Int32) (i4 : Int32) (gf : Nat → Int32) (Tl7 : State) (Ll7 : List Loc) (hl7 : Heap), jj + dd = nn ∧ i1.toInt = ((of_ + jj : Nat) : Int) ∧ i4.toInt = (jj : Int) ∧ (∀ i, i < 2 * jj → gf i = own_u16 cf of_ i) ∧ Stand p l e own_Rtb s m #[(.ref p1), (.int p2), (.int p3)] below meth c Tl7 Ll7 1 8 ∧ Tl7.heap = hl7 ∧ Fr n0 Ll7 ∧ Keep h0 hl7 [] ∧ n0 ≤ hl7.size ∧ Old Z n0 hl7 ∧ own_G Z hl7 p1 .char zc cf ∧ own_G Z hl7 rb_2 .byte (2 * nn) gf ∧ ∀ t, Steps p.tables e below (Tl7.setTop (mkF m 8 #[.val (.ref p1), .val (.int i1), .val (.int p3), .val (.ref rb_2), .val (.int i4)] [])) t → Steps p.tables e below (s₁.setTop (entryFrame m #[(.ref p1), (.int p2), (.int p3)] 5)) t) ?_ ?_ (nn) ⟨0, p2, (0 : Int32), own_zero, _, _, _, (by omega), (by omega), rfl, fun i hi => absurd hi (by omega), X2, rfl, N2, K2, Z2, Xo2, f4, fq2_0, k6⟩
  · rintro ⟨jj, i1, i4, gf, Tl7, Ll7, hl7, ivj, iv1, iv4, ivg, Xl7, el7, Nl7, Kl7, Zl7, Ol7, Fl7_0, Fl7_1, kl7⟩
    have k8 : ∀ t, Steps p.tables e below (Tl7.setTop (mkF m 33 #[.val (.ref p1), .val (.int i1), .val (.int p3), .val (.ref rb_2), .val (.int i4)] [(.ref rb_2)])) t → Steps p.tables e below (s₁.setTop (entryFrame m #[(.ref p1), (.int p2), (.int p3)] 5)) t := by
      intro t k
      refine kl7 t ?_
      show Steps p.tables e below (Tl7.setTop (mkF m 8 #[.val (.ref p1), .val (.int i1), .val (.int p3), .val (.ref rb_2), .val (.int i4)] [])) _
      refine XS.iload Xl7.here hx rfl (hb hby own_d14_8) rfl ?_
      show Steps p.tables e below (Tl7.setTop (mkF m 10 #[.val (.ref p1), .val (.int i1), .val (.int p3), .val (.ref rb_2), .val (.int i4)] [(.int i4)])) _
      refine XS.iloadN Xl7.here hx rfl (hb hby own_d14_10) rfl ?_
      show Steps p.tables e below (Tl7.setTop (mkF m 11 #[.val (.ref p1), .val (.int i1), .val (.int p3), .val (.ref rb_2), .val (.int i4)] [(.int p3), (.int i4)])) _
      refine XS.icmpYes Xl7.here hx rfl (pc0 := 11) (pc' := 32) rfl (hb hby own_d14_11) rfl (flt (own_nlt iv4 hp3 (by omega))).2.1 (by decide) (by decide) ?_
      show Steps p.tables e below (Tl7.setTop (mkF m 32 #[.val (.ref p1), .val (.int i1), .val (.int p3), .val (.ref rb_2), .val (.int i4)] [])) _
      refine XS.aloadN Xl7.here hx rfl (hb hby own_d14_32) rfl rfl ?_
      exact k
    obtain ⟨fs, hr, hrun, hended, hW, hsame⟩ := Xl7.leave (v := (some (.ref rb_2))) (fun h => by rw [Bd.returns] at h; cases h)
    refine ⟨_, _, k8 _ ?_, hrun, hended, _, _, rfl, ?_, ⟨_, rfl⟩, hW, hsame.mono (by decide) (by decide)⟩
    · exact retOut Xl7 hx Bd.returns rfl (Or.inr (Or.inr (Or.inr (Or.inr ⟨rfl, rfl, rfl⟩)))) (hb hby own_d14_33) hr
    · show own_Qtb Z p1 p2 p3 zc cf of_ nn h0 n0 _ Tl7.heap _
      rw [el7]
      exact ⟨rb_2, rfl, Nl7, Kl7, bo2_b, (Fl7_1.congr (fun i hi => ivg i (by omega)))⟩
  · rintro dd ⟨jj, i1, i4, gf, Tl7, Ll7, hl7, ivj, iv1, iv4, ivg, Xl7, el7, Nl7, Kl7, Zl7, Ol7, Fl7_0, Fl7_1, kl7⟩ ih
    have k9 : ∀ t, Steps p.tables e below (Tl7.setTop (mkF m 20 #[.val (.ref p1), .val (.int i1), .val (.int p3), .val (.ref rb_2), .val (.int i4)] [(.int (cf (of_ + jj))), (.int i4), (.ref rb_2)])) t → Steps p.tables e below (s₁.setTop (entryFrame m #[(.ref p1), (.int p2), (.int p3)] 5)) t := by
      intro t k
      refine kl7 t ?_
      show Steps p.tables e below (Tl7.setTop (mkF m 8 #[.val (.ref p1), .val (.int i1), .val (.int p3), .val (.ref rb_2), .val (.int i4)] [])) _
      refine XS.iload Xl7.here hx rfl (hb hby own_d14_8) rfl ?_
      show Steps p.tables e below (Tl7.setTop (mkF m 10 #[.val (.ref p1), .val (.int i1), .val (.int p3), .val (.ref rb_2), .val (.int i4)] [(.int i4)])) _
      refine XS.iloadN Xl7.here hx rfl (hb hby own_d14_10) rfl ?_
      show Steps p.tables e below (Tl7.setTop (mkF m 11 #[.val (.ref p1), .val (.int i1), .val (.int p3), .val (.ref rb_2), .val (.int i4)] [(.int p3), (.int i4)])) _
      refine XS.icmpNo Xl7.here hx rfl (hb hby own_d14_11) rfl (tlt (own_lt iv4 hp3 (by omega))).2.1 ?_
      show Steps p.tables e below (Tl7.setTop (mkF m 14 #[.val (.ref p1), .val (.int i1), .val (.int p3), .val (.ref rb_2), .val (.int i4)] [])) _
      refine XS.aloadN Xl7.here hx rfl (hb hby own_d14_14) rfl rfl ?_
      show Steps p.tables e below (Tl7.setTop (mkF m 15 #[.val (.ref p1), .val (.int i1), .val (.int p3), .val (.ref rb_2), .val (.int i4)] [(.ref rb_2)])) _
      refine XS.iload Xl7.here hx rfl (hb hby own_d14_15) rfl ?_
      show Steps p.tables e below (Tl7.setTop (mkF m 17 #[.val (.ref p1), .val (.int i1), .val (.int p3), .val (.ref rb_2), .val (.int i4)] [(.int i4), (.ref rb_2)])) _
      refine XS.aloadN Xl7.here hx rfl (hb hby own_d14_17) rfl rfl ?_
      show Steps p.tables e below (Tl7.setTop (mkF m 18 #[.val (.ref p1), .val (.int i1), .val (.int p3), .val (.ref rb_2), .val (.int i4)] [(.ref p1), (.int i4), (.ref rb_2)])) _
      refine XS.iloadN Xl7.here hx rfl (hb hby own_d14_18) rfl ?_
      show Steps p.tables e below (Tl7.setTop (mkF m 19 #[.val (.ref p1), .val (.int i1), .val (.int p3), .val (.ref rb_2), .val (.int i4)] [(.int i1), (.ref p1), (.int i4), (.ref rb_2)])) _
      refine own_ldC Xl7 hx hZ el7 Fl7_0 (j := i1) iv1 (by omega) (g := (mkF m 19 #[.val (.ref p1), .val (.int i1), .val (.int p3), .val (.ref rb_2), .val (.int i4)] [(.int i1), (.ref p1), (.int i4), (.ref rb_2)])) rfl rfl (hb hby own_d14_19) ?_
      exact k
    obtain ⟨_, _, ⟨T10, L10, k10c, n10⟩, -, X10, ⟨Lc10, hQ10, l10, y10, z10⟩, st10⟩ := Jvm.LawKit.callS Xl7 hx (y := (⟨"java/lang/StringUTF16", "putChar", "([BII)V"⟩ : MethodName)) hown (mvT hZ (hw _ (List.mem_of_getElem? (i := 80) rfl))) (mvT hZ (hw _ (List.mem_of_getElem? (i := 81) rfl))) (mvT hZ (hw _ (List.mem_of_getElem? (i := 65) rfl))) (mvT hZ (hw _ (List.mem_of_getElem? (i := 82) rfl))) (by decide) (backOf (W := 0) (own_rmpc l Z a0 hw [] rb_2 i4 (cf (of_ + jj)) nn gf jj hl7 n0 Zl7 Fl7_1 ge2_b Ol7 iv4 SA SH SL (by omega) (by omega)) hZ (hw _ (List.mem_of_getElem? (i := 82) rfl)) (hw _ (List.mem_of_getElem? (i := 65) rfl)) (by decide) (by decide)) (g := (mkF m 20 #[.val (.ref p1), .val (.int i1), .val (.int p3), .val (.ref rb_2), .val (.int i4)] [(.int (cf (of_ + jj))), (.int i4), (.ref rb_2)])) rfl (by rw [hml]; rfl) (argsL := [(.ref rb_2), (.int i4), (.int (cf (of_ + jj)))]) (rest := []) (lenOf own_pd2 rfl) rfl (by show 2 * 0 + _ ≤ _; exact Nat.le_of_eq rfl) (hb hby own_d14_20) (fun _ _ => ⟨rfl, el7, (by decide : 1 + 0 ≤ _), (by decide : 8 + 0 ≤ _)⟩)
    dsimp only [Pt.U, Pt.locs, Pt.cells, Pt.slots] at X10 l10 y10 z10 st10 hQ10
    subst l10 y10 z10
    obtain ⟨rfl, N10q, Kq10, fq10_0⟩ := hQ10
    have N10 := Fr.app Nl7 N10q
    have f11 := Fl7_0.keep Kq10 (List.not_mem_cons_of_ne_of_not_mem ne3 List.not_mem_nil)
    have Z10 : n0 ≤ T10.heap.size := Nat.le_trans Zl7 Kq10.1
    have K10 : Keep h0 T10.heap [] := Kl7.trans Kq10 (fun x hx => by rcases List.mem_cons.mp hx with rfl | hx; exact Or.inr bo2_b; exact nomatch hx)
    have Xo10 := Ol7.keep Kq10 (allS ge2_b all0)
    have k12 : ∀ t, Steps p.tables e below (T10.setTop (mkF m 23 #[.val (.ref p1), .val (.int i1), .val (.int p3), .val (.ref rb_2), .val (.int i4)] [])) t → Steps p.tables e below (s₁.setTop (entryFrame m #[(.ref p1), (.int p2), (.int p3)] 5)) t := fun t k => k9 t (st10 t k)
    have k13 : ∀ t, Steps p.tables e below (T10.setTop (mkF m 8 #[.val (.ref p1), .val (.int (i1 + (1 : Int32))), .val (.int p3), .val (.ref rb_2), .val (.int (i4 + (1 : Int32)))] [])) t → Steps p.tables e below (s₁.setTop (entryFrame m #[(.ref p1), (.int p2), (.int p3)] 5)) t := by
      intro t k
      refine k12 t ?_
      show Steps p.tables e below (T10.setTop (mkF m 23 #[.val (.ref p1), .val (.int i1), .val (.int p3), .val (.ref rb_2), .val (.int i4)] [])) _
      refine XS.iinc X10.here hx rfl (hb hby own_d14_23) rfl (l' := #[.val (.ref p1), .val (.int (i1 + (1 : Int32))), .val (.int p3), .val (.ref rb_2), .val (.int i4)]) rfl ?_
      show Steps p.tables e below (T10.setTop (mkF m 26 #[.val (.ref p1), .val (.int (i1 + (1 : Int32))), .val (.int p3), .val (.ref rb_2), .val (.int i4)] [])) _
      refine XS.iinc X10.here hx rfl (hb hby own_d14_26) rfl (l' := #[.val (.ref p1), .val (.int (i1 + (1 : Int32))), .val (.int p3), .val (.ref rb_2), .val (.int (i4 + (1 : Int32)))]) rfl ?_
      show Steps p.tables e below (T10.setTop (mkF m 29 #[.val (.ref p1), .val (.int (i1 + (1 : Int32))), .val (.int p3), .val (.ref rb_2), .val (.int (i4 + (1 : Int32)))] [])) _
      refine XS.goto X10.here hx rfl (pc0 := 29) (pc' := 8) rfl (hb hby own_d14_29) (by decide) (by decide) ?_
      exact k
    exact ih ⟨(jj + 1), (i1 + (1 : Int32)), (i4 + (1 : Int32)), _, _, _, _, (by omega), (by have z := own_inc iv1 (by omega); omega), (own_inc iv4 (by omega)), (own_u16s ivg), X10, rfl, N10, K10, Z10, Xo10, f11, fq10_0, k13⟩
theorem own_d13_0 : decode jdk_52_method_21_code 0 = .ok (.iconst 0, 1) := by decide +kernel
theorem own_d13_1 : decode jdk_52_method_21_code 1 = .ok (.istore 5, 2) := by decide +kernel
theorem own_d13_3 : decode jdk_52_method_21_code 3 = .ok (.iload 5, 2) := by decide +kernel
theorem own_d13_5 : decode jdk_52_method_21_code 5 = .ok (.iload 4, 2) := by decide +kernel
theorem own_d13_7 : decode jdk_52_method_21_code 7 = .ok (.if_icmp .ge 37, 3) := by decide +kernel
theorem own_d13_10 : decode jdk_52_method_21_code 10 = .ok (.aload_n 0, 1) := by decide +kernel
theorem own_d13_11 : decode jdk_52_method_21_code 11 = .ok (.iload_n 1, 1) := by decide +kernel
theorem own_d13_12 : decode jdk_52_method_21_code 12 = .ok (.caload, 1) := by decide +kernel
theorem own_d13_13 : decode jdk_52_method_21_code 13 = .ok (.istore 6, 2) := by decide +kernel
theorem own_d13_15 : decode jdk_52_method_21_code 15 = .ok (.iload 6, 2) := by decide +kernel
theorem own_d13_17 : decode jdk_52_method_21_code 17 = .ok (.sipush 255, 3) := by decide +kernel
theorem own_d13_20 : decode jdk_52_method_21_code 20 = .ok (.if_icmp .le 6, 3) := by decide +kernel
theorem own_d13_23 : decode jdk_52_method_21_code 23 = .ok (.iload 5, 2) := by decide +kernel
theorem own_d13_25 : decode jdk_52_method_21_code 25 = .ok (.ireturn, 1) := by decide +kernel
theorem own_d13_26 : decode jdk_52_method_21_code 26 = .ok (.aload_n 2, 1) := by decide +kernel
theorem own_d13_27 : decode jdk_52_method_21_code 27 = .ok (.iload_n 3, 1) := by decide +kernel
theorem own_d13_28 : decode jdk_52_method_21_code 28 = .ok (.iload 6, 2) := by decide +kernel
theorem own_d13_30 : decode jdk_52_method_21_code 30 = .ok (.i2b, 1) := by decide +kernel
theorem own_d13_31 : decode jdk_52_method_21_code 31 = .ok (.bastore, 1) := by decide +kernel
theorem own_d13_32 : decode jdk_52_method_21_code 32 = .ok (.iinc 1 1, 3) := by decide +kernel
theorem own_d13_35 : decode jdk_52_method_21_code 35 = .ok (.iinc 3 1, 3) := by decide +kernel
theorem own_d13_38 : decode jdk_52_method_21_code 38 = .ok (.iinc 5 1, 3) := by decide +kernel
theorem own_d13_41 : decode jdk_52_method_21_code 41 = .ok (.goto (-38), 3) := by decide +kernel
theorem own_d13_44 : decode jdk_52_method_21_code 44 = .ok (.iload 4, 2) := by decide +kernel
theorem own_d13_46 : decode jdk_52_method_21_code 46 = .ok (.ireturn, 1) := by decide +kernel
theorem own_efc5 (m : MethodId) (x0 : Addr) (x1 : Int32) (x2 : Addr) (x4 : Int32) : entryFrame m #[(.ref x0), (.int x1), (.ref x2), (.int (0 : Int32)), (.int x4)] 7 = mkF m 0 #[.val (.ref x0), .val (.int x1), .val (.ref x2), .val (.int (0 : Int32)), .val (.int x4), .unset, .unset] [] := by first | (simp [entryFrame, mkF, argsToLocals, Value.category]; done) | rfl
def own_Qc5 (Z : State) (p1 : Addr) (p2 : Int32) (p3 : Addr) (p5 : Int32) (zc : Nat) (cf : Nat → Int32) (zb : Nat) (bf : Nat → Int32) (of_ : Nat) (nn : Nat) (h0 : Heap) (n0 : Nat) (v : Option Value) (h : Heap) (L : List Loc) : Prop := ∃ (r : Int32) (gf : Nat → Int32), v = some (.int r) ∧ Fr n0 L ∧ Keep h0 h [p3] ∧ own_G Z h p3 .byte zb gf ∧ ((r = p5 ∧ (∀ i, i < nn → ¬ ((255 : Int32) < cf (of_ + i))) ∧ (∀ i, i < nn → gf i = own_b8 cf of_ i)) ∨ (∃ j, j < nn ∧ r.toInt = (j : Int) ∧ (255 : Int32) < cf (of_ + j)))
def own_Rc5 : Room := { frames := 0, cells := 0, slots := 0, locals := 0 }
set_option maxRecDepth 65536 in
set_option maxHeartbeats 40000000 in
theorem own_rmc5 (l : Launch) (Z : State) (a0 : Array Value) (hw : ∀ d ∈ tables_1, d.before a0 Z = true) (ws : List Jvm.Cond) (p1 : Addr) (p2 : Int32) (p3 : Addr) (p5 : Int32) (zc : Nat) (cf : Nat → Int32) (zb : Nat) (bf : Nat → Int32) (of_ : Nat) (nn : Nat) (h0 : Heap) (n0 : Nat) (Z0 : n0 ≤ h0.size) (P0 : own_G Z h0 p1 .char zc cf) (P1 : own_G Z h0 p3 .byte zb bf) (ge_p3 : n0 ≤ p3) (ne_p1_p3 : p1 ≠ p3) (hp2 : p2.toInt = (of_ : Int)) (hp5 : p5.toInt = (nn : Int)) (hbo : of_ + nn ≤ zc) (hz : zc ≤ 1000000) (hn : nn ≤ 4) (hzb : nn ≤ zb) :
    MetFree l (⟨"java/lang/StringUTF16", "compress", "([CI[BII)I"⟩ : MethodName) (head1 (Jvm.Cond.code (⟨"java/lang/StringUTF16", "compress", "([CI[BII)I"⟩ : MethodName) jdk_52_method_21_code 7 (some .int) :: ws) own_Rc5) (fun aa U => aa = #[(.ref p1), (.int p2), (.ref p3), (.int (0 : Int32)), (.int p5)] ∧ Z.Warmed39 U.vm ∧ U.heap = h0) (fun _ _ _ _ _ => True) (fun _ U o U' => ∃ v L, o = .returned v ∧ own_Qc5 Z p1 p2 p3 p5 zc cf zb bf of_ nn h0 n0 v U'.heap L ∧ FrameEnd U o U' L own_Rc5.cells own_Rc5.slots) := by
  refine MetFree.of_bodySF (plainFor_of_name own_pn0) hisR ?_
  intro p e s m args below meth c s₁ Bd hml0 hP hK
  obtain ⟨rfl, hZ, hh⟩ := hP
  have hx := Bd.exec
  have hby := Bd.bytes
  have hml : c.maxLocals = 7 := hml0
  have hown : s.vm.findClass "java/lang/StringUTF16" = some m.cls := findClass_of_methodNamed Bd.named
  have hnm := (name_of_methodNamed Bd.named Bd.method).1
  have X0 : Stand p l e own_Rc5 s m #[(.ref p1), (.int p2), (.ref p3), (.int (0 : Int32)), (.int p5)] below meth c s₁ [] 0 0 := Stand.of_body Bd
  have e0 : s₁.heap = h0 := by rw [← hh, Bd.state]; rfl
  have N0 := Fr.nil n0
  have pre0 : ∀ t, Steps p.tables e below (s₁.setTop (mkF m 0 #[.val (.ref p1), .val (.int p2), .val (.ref p3), .val (.int (0 : Int32)), .val (.int p5), .unset, .unset] [])) t → Steps p.tables e below (s₁.setTop (entryFrame m #[(.ref p1), (.int p2), (.ref p3), (.int (0 : Int32)), (.int p5)] 7)) t := fun t k => castTop (own_efc5 m p1 p2 p3 p5) k
  have k1 : ∀ t, Steps p.tables e below (s₁.setTop (mkF m 3 #[.val (.ref p1), .val (.int p2), .val (.ref p3), .val (.int (0 : Int32)), .val (.int p5), .val (.int (0 : Int32)), .unset] [])) t → Steps p.tables e below (s₁.setTop (entryFrame m #[(.ref p1), (.int p2), (.ref p3), (.int (0 : Int32)), (.int p5)] 7)) t := by
    intro t k
    refine pre0 t ?_
    show Steps p.tables e below (s₁.setTop (mkF m 0 #[.val (.ref p1), .val (.int p2), .val (.ref p3), .val (.int (0 : Int32)), .val (.int p5), .unset, .unset] [])) _
    refine XS.iconst X0.here hx rfl (hb hby own_d13_0) ?_
    show Steps p.tables e below (s₁.setTop (mkF m 1 #[.val (.ref p1), .val (.int p2), .val (.ref p3), .val (.int (0 : Int32)), .val (.int p5), .unset, .unset] [(.int (0 : Int32))])) _
    refine XS.istore X0.here hx rfl (hb hby own_d13_1) rfl (l' := #[.val (.ref p1), .val (.int p2), .val (.ref p3), .val (.int (0 : Int32)), .val (.int p5), .val (.int (0 : Int32)), .unset]) rfl ?_
    exact k
  refine own_ind (fun dd => ∃ (jj : Nat) (i1 : Int32) (i3 : Int32) (i5 : Int32) (q6 : Slot) (gf : Nat → Int32) (Tl2 : State) (Ll2 : List Loc) (hl2 : Heap), jj + dd = nn ∧ i1.toInt = ((of_ + jj : Nat) : Int) ∧ i3.toInt = (jj : Int) ∧ i5.toInt = (jj : Int) ∧ (q6 = .unset ∨ ∃ x6, q6 = .val (.int x6)) ∧ (∀ i, i < jj → ¬ ((255 : Int32) < cf (of_ + i)) ∧ gf i = own_b8 cf of_ i) ∧ Stand p l e own_Rc5 s m #[(.ref p1), (.int p2), (.ref p3), (.int (0 : Int32)), (.int p5)] below meth c Tl2 Ll2 0 0 ∧ Tl2.heap = hl2 ∧ Fr n0 Ll2 ∧ Keep h0 hl2 [p3] ∧ n0 ≤ hl2.size ∧ own_G Z hl2 p1 .char zc cf ∧ own_G Z hl2 p3 .byte zb gf ∧ ∀ t, Steps p.tables e below (Tl2.setTop (mkF m 3 #[.val (.ref p1), .val (.int i1), .val (.ref p3), .val (.int i3), .val (.int p5), .val (.int i5), q6] [])) t → Steps p.tables e below (s₁.setTop (entryFrame m #[(.ref p1), (.int p2), (.ref p3), (.int (0 : Int32)), (.int p5)] 7)) t) ?_ ?_ (nn) ⟨0, p2, (0 : Int32), (0 : Int32), .unset, bf, _, _, _, (by omega), (by omega), rfl, rfl, Or.inl rfl, fun i hi => absurd hi (by omega), X0, e0, N0, (Keep.refl h0 [p3]), Z0, P0, P1, k1⟩
  · rintro ⟨jj, i1, i3, i5, q6, gf, Tl2, Ll2, hl2, ivj, iv1, iv3, iv5, iv6, ivg, Xl2, el2, Nl2, Kl2, Zl2, Fl2_0, Fl2_1, kl2⟩
    have k3 : ∀ t, Steps p.tables e below (Tl2.setTop (mkF m 46 #[.val (.ref p1), .val (.int i1), .val (.ref p3), .val (.int i3), .val (.int p5), .val (.int i5), q6] [(.int p5)])) t → Steps p.tables e below (s₁.setTop (entryFrame m #[(.ref p1), (.int p2), (.ref p3), (.int (0 : Int32)), (.int p5)] 7)) t := by
      intro t k
      refine kl2 t ?_
      show Steps p.tables e below (Tl2.setTop (mkF m 3 #[.val (.ref p1), .val (.int i1), .val (.ref p3), .val (.int i3), .val (.int p5), .val (.int i5), q6] [])) _
      refine XS.iload Xl2.here hx rfl (hb hby own_d13_3) rfl ?_
      show Steps p.tables e below (Tl2.setTop (mkF m 5 #[.val (.ref p1), .val (.int i1), .val (.ref p3), .val (.int i3), .val (.int p5), .val (.int i5), q6] [(.int i5)])) _
      refine XS.iload Xl2.here hx rfl (hb hby own_d13_5) rfl ?_
      show Steps p.tables e below (Tl2.setTop (mkF m 7 #[.val (.ref p1), .val (.int i1), .val (.ref p3), .val (.int i3), .val (.int p5), .val (.int i5), q6] [(.int p5), (.int i5)])) _
      refine XS.icmpYes Xl2.here hx rfl (pc0 := 7) (pc' := 44) rfl (hb hby own_d13_7) rfl (flt (own_nlt iv5 hp5 (by omega))).2.1 (by decide) (by decide) ?_
      show Steps p.tables e below (Tl2.setTop (mkF m 44 #[.val (.ref p1), .val (.int i1), .val (.ref p3), .val (.int i3), .val (.int p5), .val (.int i5), q6] [])) _
      refine XS.iload Xl2.here hx rfl (hb hby own_d13_44) rfl ?_
      exact k
    obtain ⟨fs, hr, hrun, hended, hW, hsame⟩ := Xl2.leave (v := (some (.int p5))) (fun h => by rw [Bd.returns] at h; cases h)
    refine ⟨_, _, k3 _ ?_, hrun, hended, _, _, rfl, ?_, ⟨_, rfl⟩, hW, hsame.mono (by decide) (by decide)⟩
    · exact retI Xl2 hx Bd.returns (hb hby own_d13_46) hr
    · show own_Qc5 Z p1 p2 p3 p5 zc cf zb bf of_ nn h0 n0 _ Tl2.heap _
      rw [el2]
      exact ⟨p5, gf, rfl, Nl2, Kl2, Fl2_1, Or.inl ⟨rfl, fun i hi => (ivg i (by omega)).1, fun i hi => (ivg i (by omega)).2⟩⟩
  · rintro dd ⟨jj, i1, i3, i5, q6, gf, Tl2, Ll2, hl2, ivj, iv1, iv3, iv5, iv6, ivg, Xl2, el2, Nl2, Kl2, Zl2, Fl2_0, Fl2_1, kl2⟩ ih
    have k4 : ∀ t, Steps p.tables e below (Tl2.setTop (mkF m 10 #[.val (.ref p1), .val (.int i1), .val (.ref p3), .val (.int i3), .val (.int p5), .val (.int i5), q6] [])) t → Steps p.tables e below (s₁.setTop (entryFrame m #[(.ref p1), (.int p2), (.ref p3), (.int (0 : Int32)), (.int p5)] 7)) t := by
      intro t k
      refine kl2 t ?_
      show Steps p.tables e below (Tl2.setTop (mkF m 3 #[.val (.ref p1), .val (.int i1), .val (.ref p3), .val (.int i3), .val (.int p5), .val (.int i5), q6] [])) _
      refine XS.iload Xl2.here hx rfl (hb hby own_d13_3) rfl ?_
      show Steps p.tables e below (Tl2.setTop (mkF m 5 #[.val (.ref p1), .val (.int i1), .val (.ref p3), .val (.int i3), .val (.int p5), .val (.int i5), q6] [(.int i5)])) _
      refine XS.iload Xl2.here hx rfl (hb hby own_d13_5) rfl ?_
      show Steps p.tables e below (Tl2.setTop (mkF m 7 #[.val (.ref p1), .val (.int i1), .val (.ref p3), .val (.int i3), .val (.int p5), .val (.int i5), q6] [(.int p5), (.int i5)])) _
      refine XS.icmpNo Xl2.here hx rfl (hb hby own_d13_7) rfl (tlt (own_lt iv5 hp5 (by omega))).2.1 ?_
      exact k
    rcases iv6 with rfl | ⟨x6, rfl⟩
    · skip
      have k5 : ∀ t, Steps p.tables e below (Tl2.setTop (mkF m 20 #[.val (.ref p1), .val (.int i1), .val (.ref p3), .val (.int i3), .val (.int p5), .val (.int i5), .val (.int (cf (of_ + jj)))] [(.int (255 : Int32)), (.int (cf (of_ + jj)))])) t → Steps p.tables e below (s₁.setTop (entryFrame m #[(.ref p1), (.int p2), (.ref p3), (.int (0 : Int32)), (.int p5)] 7)) t := by
        intro t k
        refine k4 t ?_
        show Steps p.tables e below (Tl2.setTop (mkF m 10 #[.val (.ref p1), .val (.int i1), .val (.ref p3), .val (.int i3), .val (.int p5), .val (.int i5), .unset] [])) _
        refine XS.aloadN Xl2.here hx rfl (hb hby own_d13_10) rfl rfl ?_
        show Steps p.tables e below (Tl2.setTop (mkF m 11 #[.val (.ref p1), .val (.int i1), .val (.ref p3), .val (.int i3), .val (.int p5), .val (.int i5), .unset] [(.ref p1)])) _
        refine XS.iloadN Xl2.here hx rfl (hb hby own_d13_11) rfl ?_
        show Steps p.tables e below (Tl2.setTop (mkF m 12 #[.val (.ref p1), .val (.int i1), .val (.ref p3), .val (.int i3), .val (.int p5), .val (.int i5), .unset] [(.int i1), (.ref p1)])) _
        refine own_ldC Xl2 hx hZ el2 Fl2_0 (j := i1) iv1 (by omega) (g := (mkF m 12 #[.val (.ref p1), .val (.int i1), .val (.ref p3), .val (.int i3), .val (.int p5), .val (.int i5), .unset] [(.int i1), (.ref p1)])) rfl rfl (hb hby own_d13_12) ?_
        show Steps p.tables e below (Tl2.setTop (mkF m 13 #[.val (.ref p1), .val (.int i1), .val (.ref p3), .val (.int i3), .val (.int p5), .val (.int i5), .unset] [(.int (cf (of_ + jj)))])) _
        refine XS.istore Xl2.here hx rfl (hb hby own_d13_13) rfl (l' := #[.val (.ref p1), .val (.int i1), .val (.ref p3), .val (.int i3), .val (.int p5), .val (.int i5), .val (.int (cf (of_ + jj)))]) rfl ?_
        show Steps p.tables e below (Tl2.setTop (mkF m 15 #[.val (.ref p1), .val (.int i1), .val (.ref p3), .val (.int i3), .val (.int p5), .val (.int i5), .val (.int (cf (of_ + jj)))] [])) _
        refine XS.iload Xl2.here hx rfl (hb hby own_d13_15) rfl ?_
        show Steps p.tables e below (Tl2.setTop (mkF m 17 #[.val (.ref p1), .val (.int i1), .val (.ref p3), .val (.int i3), .val (.int p5), .val (.int i5), .val (.int (cf (of_ + jj)))] [(.int (cf (of_ + jj)))])) _
        refine XS.sipush Xl2.here hx rfl (hb hby own_d13_17) ?_
        exact k
      by_cases hc20_6 : (255 : Int32) < (cf (of_ + jj))
      · have k7 : ∀ t, Steps p.tables e below (Tl2.setTop (mkF m 25 #[.val (.ref p1), .val (.int i1), .val (.ref p3), .val (.int i3), .val (.int p5), .val (.int i5), .val (.int (cf (of_ + jj)))] [(.int i5)])) t → Steps p.tables e below (s₁.setTop (entryFrame m #[(.ref p1), (.int p2), (.ref p3), (.int (0 : Int32)), (.int p5)] 7)) t := by
          intro t k
          refine k5 t ?_
          show Steps p.tables e below (Tl2.setTop (mkF m 20 #[.val (.ref p1), .val (.int i1), .val (.ref p3), .val (.int i3), .val (.int p5), .val (.int i5), .val (.int (cf (of_ + jj)))] [(.int (255 : Int32)), (.int (cf (of_ + jj)))])) _
          refine XS.icmpNo Xl2.here hx rfl (hb hby own_d13_20) rfl (tlt hc20_6).2.2.2 ?_
          show Steps p.tables e below (Tl2.setTop (mkF m 23 #[.val (.ref p1), .val (.int i1), .val (.ref p3), .val (.int i3), .val (.int p5), .val (.int i5), .val (.int (cf (of_ + jj)))] [])) _
          refine XS.iload Xl2.here hx rfl (hb hby own_d13_23) rfl ?_
          exact k
        obtain ⟨fs, hr, hrun, hended, hW, hsame⟩ := Xl2.leave (v := (some (.int i5))) (fun h => by rw [Bd.returns] at h; cases h)
        refine ⟨_, _, k7 _ ?_, hrun, hended, _, _, rfl, ?_, ⟨_, rfl⟩, hW, hsame.mono (by decide) (by decide)⟩
        · exact retI Xl2 hx Bd.returns (hb hby own_d13_25) hr
        · show own_Qc5 Z p1 p2 p3 p5 zc cf zb bf of_ nn h0 n0 _ Tl2.heap _
          rw [el2]
          exact ⟨i5, gf, rfl, Nl2, Kl2, Fl2_1, Or.inr ⟨jj, by omega, iv5, hc20_6⟩⟩
      · have k8 : ∀ t, Steps p.tables e below (Tl2.setTop (mkF m 31 #[.val (.ref p1), .val (.int i1), .val (.ref p3), .val (.int i3), .val (.int p5), .val (.int i5), .val (.int (cf (of_ + jj)))] [(.int ((cf (of_ + jj)).toInt8.toInt32)), (.int i3), (.ref p3)])) t → Steps p.tables e below (s₁.setTop (entryFrame m #[(.ref p1), (.int p2), (.ref p3), (.int (0 : Int32)), (.int p5)] 7)) t := by
          intro t k
          refine k5 t ?_
          show Steps p.tables e below (Tl2.setTop (mkF m 20 #[.val (.ref p1), .val (.int i1), .val (.ref p3), .val (.int i3), .val (.int p5), .val (.int i5), .val (.int (cf (of_ + jj)))] [(.int (255 : Int32)), (.int (cf (of_ + jj)))])) _
          refine XS.icmpYes Xl2.here hx rfl (pc0 := 20) (pc' := 26) rfl (hb hby own_d13_20) rfl (flt hc20_6).2.2.2 (by decide) (by decide) ?_
          show Steps p.tables e below (Tl2.setTop (mkF m 26 #[.val (.ref p1), .val (.int i1), .val (.ref p3), .val (.int i3), .val (.int p5), .val (.int i5), .val (.int (cf (of_ + jj)))] [])) _
          refine XS.aloadN Xl2.here hx rfl (hb hby own_d13_26) rfl rfl ?_
          show Steps p.tables e below (Tl2.setTop (mkF m 27 #[.val (.ref p1), .val (.int i1), .val (.ref p3), .val (.int i3), .val (.int p5), .val (.int i5), .val (.int (cf (of_ + jj)))] [(.ref p3)])) _
          refine XS.iloadN Xl2.here hx rfl (hb hby own_d13_27) rfl ?_
          show Steps p.tables e below (Tl2.setTop (mkF m 28 #[.val (.ref p1), .val (.int i1), .val (.ref p3), .val (.int i3), .val (.int p5), .val (.int i5), .val (.int (cf (of_ + jj)))] [(.int i3), (.ref p3)])) _
          refine XS.iload Xl2.here hx rfl (hb hby own_d13_28) rfl ?_
          show Steps p.tables e below (Tl2.setTop (mkF m 30 #[.val (.ref p1), .val (.int i1), .val (.ref p3), .val (.int i3), .val (.int p5), .val (.int i5), .val (.int (cf (of_ + jj)))] [(.int (cf (of_ + jj))), (.int i3), (.ref p3)])) _
          refine XS.i2b Xl2.here hx rfl (hb hby own_d13_30) rfl ?_
          exact k
        obtain ⟨T9, h9, X9, e9, W9, G9, st9⟩ := own_stB Xl2 hx hZ el2 Fl2_1 (j := i3) iv3 (by omega) (g := (mkF m 31 #[.val (.ref p1), .val (.int i1), .val (.ref p3), .val (.int i3), .val (.int p5), .val (.int i5), .val (.int (cf (of_ + jj)))] [(.int ((cf (of_ + jj)).toInt8.toInt32)), (.int i3), (.ref p3)])) rfl rfl (hb hby own_d13_31)
        have f10 := Fl2_0.other W9 ne_p1_p3
        have N9 := Fr.snoc X9 Nl2 ge_p3
        have K9 : Keep h0 h9 [p3] := Kl2.wr W9 (Or.inl (List.mem_of_getElem? (i := 0) rfl))
        have Z9 : n0 ≤ h9.size := Nat.le_trans Zl2 (Keep.of_wr W9).1
        have k11 : ∀ t, Steps p.tables e below (T9.setTop (mkF m 32 #[.val (.ref p1), .val (.int i1), .val (.ref p3), .val (.int i3), .val (.int p5), .val (.int i5), .val (.int (cf (of_ + jj)))] [])) t → Steps p.tables e below (s₁.setTop (entryFrame m #[(.ref p1), (.int p2), (.ref p3), (.int (0 : Int32)), (.int p5)] 7)) t := fun t k => k8 t (st9 t k)
        have k12 : ∀ t, Steps p.tables e below (T9.setTop (mkF m 3 #[.val (.ref p1), .val (.int (i1 + (1 : Int32))), .val (.ref p3), .val (.int (i3 + (1 : Int32))), .val (.int p5), .val (.int (i5 + (1 : Int32))), .val (.int (cf (of_ + jj)))] [])) t → Steps p.tables e below (s₁.setTop (entryFrame m #[(.ref p1), (.int p2), (.ref p3), (.int (0 : Int32)), (.int p5)] 7)) t := by
          intro t k
          refine k11 t ?_
          show Steps p.tables e below (T9.setTop (mkF m 32 #[.val (.ref p1), .val (.int i1), .val (.ref p3), .val (.int i3), .val (.int p5), .val (.int i5), .val (.int (cf (of_ + jj)))] [])) _
          refine XS.iinc X9.here hx rfl (hb hby own_d13_32) rfl (l' := #[.val (.ref p1), .val (.int (i1 + (1 : Int32))), .val (.ref p3), .val (.int i3), .val (.int p5), .val (.int i5), .val (.int (cf (of_ + jj)))]) rfl ?_
          show Steps p.tables e below (T9.setTop (mkF m 35 #[.val (.ref p1), .val (.int (i1 + (1 : Int32))), .val (.ref p3), .val (.int i3), .val (.int p5), .val (.int i5), .val (.int (cf (of_ + jj)))] [])) _
          refine XS.iinc X9.here hx rfl (hb hby own_d13_35) rfl (l' := #[.val (.ref p1), .val (.int (i1 + (1 : Int32))), .val (.ref p3), .val (.int (i3 + (1 : Int32))), .val (.int p5), .val (.int i5), .val (.int (cf (of_ + jj)))]) rfl ?_
          show Steps p.tables e below (T9.setTop (mkF m 38 #[.val (.ref p1), .val (.int (i1 + (1 : Int32))), .val (.ref p3), .val (.int (i3 + (1 : Int32))), .val (.int p5), .val (.int i5), .val (.int (cf (of_ + jj)))] [])) _
          refine XS.iinc X9.here hx rfl (hb hby own_d13_38) rfl (l' := #[.val (.ref p1), .val (.int (i1 + (1 : Int32))), .val (.ref p3), .val (.int (i3 + (1 : Int32))), .val (.int p5), .val (.int (i5 + (1 : Int32))), .val (.int (cf (of_ + jj)))]) rfl ?_
          show Steps p.tables e below (T9.setTop (mkF m 41 #[.val (.ref p1), .val (.int (i1 + (1 : Int32))), .val (.ref p3), .val (.int (i3 + (1 : Int32))), .val (.int p5), .val (.int (i5 + (1 : Int32))), .val (.int (cf (of_ + jj)))] [])) _
          refine XS.goto X9.here hx rfl (pc0 := 41) (pc' := 3) rfl (hb hby own_d13_41) (by decide) (by decide) ?_
          exact k
        exact ih ⟨(jj + 1), (i1 + (1 : Int32)), (i3 + (1 : Int32)), (i5 + (1 : Int32)), _, _, _, _, _, (by omega), (by have z := own_inc iv1 (by omega); omega), (own_inc iv3 (by omega)), (own_inc iv5 (by omega)), Or.inr ⟨_, rfl⟩, (own_b8s ivg hc20_6), X9, e9, N9, K9, Z9, f10, G9, k12⟩
    · skip
      have k13 : ∀ t, Steps p.tables e below (Tl2.setTop (mkF m 20 #[.val (.ref p1), .val (.int i1), .val (.ref p3), .val (.int i3), .val (.int p5), .val (.int i5), .val (.int (cf (of_ + jj)))] [(.int (255 : Int32)), (.int (cf (of_ + jj)))])) t → Steps p.tables e below (s₁.setTop (entryFrame m #[(.ref p1), (.int p2), (.ref p3), (.int (0 : Int32)), (.int p5)] 7)) t := by
        intro t k
        refine k4 t ?_
        show Steps p.tables e below (Tl2.setTop (mkF m 10 #[.val (.ref p1), .val (.int i1), .val (.ref p3), .val (.int i3), .val (.int p5), .val (.int i5), .val (.int x6)] [])) _
        refine XS.aloadN Xl2.here hx rfl (hb hby own_d13_10) rfl rfl ?_
        show Steps p.tables e below (Tl2.setTop (mkF m 11 #[.val (.ref p1), .val (.int i1), .val (.ref p3), .val (.int i3), .val (.int p5), .val (.int i5), .val (.int x6)] [(.ref p1)])) _
        refine XS.iloadN Xl2.here hx rfl (hb hby own_d13_11) rfl ?_
        show Steps p.tables e below (Tl2.setTop (mkF m 12 #[.val (.ref p1), .val (.int i1), .val (.ref p3), .val (.int i3), .val (.int p5), .val (.int i5), .val (.int x6)] [(.int i1), (.ref p1)])) _
        refine own_ldC Xl2 hx hZ el2 Fl2_0 (j := i1) iv1 (by omega) (g := (mkF m 12 #[.val (.ref p1), .val (.int i1), .val (.ref p3), .val (.int i3), .val (.int p5), .val (.int i5), .val (.int x6)] [(.int i1), (.ref p1)])) rfl rfl (hb hby own_d13_12) ?_
        show Steps p.tables e below (Tl2.setTop (mkF m 13 #[.val (.ref p1), .val (.int i1), .val (.ref p3), .val (.int i3), .val (.int p5), .val (.int i5), .val (.int x6)] [(.int (cf (of_ + jj)))])) _
        refine XS.istore Xl2.here hx rfl (hb hby own_d13_13) rfl (l' := #[.val (.ref p1), .val (.int i1), .val (.ref p3), .val (.int i3), .val (.int p5), .val (.int i5), .val (.int (cf (of_ + jj)))]) rfl ?_
        show Steps p.tables e below (Tl2.setTop (mkF m 15 #[.val (.ref p1), .val (.int i1), .val (.ref p3), .val (.int i3), .val (.int p5), .val (.int i5), .val (.int (cf (of_ + jj)))] [])) _
        refine XS.iload Xl2.here hx rfl (hb hby own_d13_15) rfl ?_
        show Steps p.tables e below (Tl2.setTop (mkF m 17 #[.val (.ref p1), .val (.int i1), .val (.ref p3), .val (.int i3), .val (.int p5), .val (.int i5), .val (.int (cf (of_ + jj)))] [(.int (cf (of_ + jj)))])) _
        refine XS.sipush Xl2.here hx rfl (hb hby own_d13_17) ?_
        exact k
      by_cases hc20_14 : (255 : Int32) < (cf (of_ + jj))
      · have k15 : ∀ t, Steps p.tables e below (Tl2.setTop (mkF m 25 #[.val (.ref p1), .val (.int i1), .val (.ref p3), .val (.int i3), .val (.int p5), .val (.int i5), .val (.int (cf (of_ + jj)))] [(.int i5)])) t → Steps p.tables e below (s₁.setTop (entryFrame m #[(.ref p1), (.int p2), (.ref p3), (.int (0 : Int32)), (.int p5)] 7)) t := by
          intro t k
          refine k13 t ?_
          show Steps p.tables e below (Tl2.setTop (mkF m 20 #[.val (.ref p1), .val (.int i1), .val (.ref p3), .val (.int i3), .val (.int p5), .val (.int i5), .val (.int (cf (of_ + jj)))] [(.int (255 : Int32)), (.int (cf (of_ + jj)))])) _
          refine XS.icmpNo Xl2.here hx rfl (hb hby own_d13_20) rfl (tlt hc20_14).2.2.2 ?_
          show Steps p.tables e below (Tl2.setTop (mkF m 23 #[.val (.ref p1), .val (.int i1), .val (.ref p3), .val (.int i3), .val (.int p5), .val (.int i5), .val (.int (cf (of_ + jj)))] [])) _
          refine XS.iload Xl2.here hx rfl (hb hby own_d13_23) rfl ?_
          exact k
        obtain ⟨fs, hr, hrun, hended, hW, hsame⟩ := Xl2.leave (v := (some (.int i5))) (fun h => by rw [Bd.returns] at h; cases h)
        refine ⟨_, _, k15 _ ?_, hrun, hended, _, _, rfl, ?_, ⟨_, rfl⟩, hW, hsame.mono (by decide) (by decide)⟩
        · exact retI Xl2 hx Bd.returns (hb hby own_d13_25) hr
        · show own_Qc5 Z p1 p2 p3 p5 zc cf zb bf of_ nn h0 n0 _ Tl2.heap _
          rw [el2]
          exact ⟨i5, gf, rfl, Nl2, Kl2, Fl2_1, Or.inr ⟨jj, by omega, iv5, hc20_14⟩⟩
      · have k16 : ∀ t, Steps p.tables e below (Tl2.setTop (mkF m 31 #[.val (.ref p1), .val (.int i1), .val (.ref p3), .val (.int i3), .val (.int p5), .val (.int i5), .val (.int (cf (of_ + jj)))] [(.int ((cf (of_ + jj)).toInt8.toInt32)), (.int i3), (.ref p3)])) t → Steps p.tables e below (s₁.setTop (entryFrame m #[(.ref p1), (.int p2), (.ref p3), (.int (0 : Int32)), (.int p5)] 7)) t := by
          intro t k
          refine k13 t ?_
          show Steps p.tables e below (Tl2.setTop (mkF m 20 #[.val (.ref p1), .val (.int i1), .val (.ref p3), .val (.int i3), .val (.int p5), .val (.int i5), .val (.int (cf (of_ + jj)))] [(.int (255 : Int32)), (.int (cf (of_ + jj)))])) _
          refine XS.icmpYes Xl2.here hx rfl (pc0 := 20) (pc' := 26) rfl (hb hby own_d13_20) rfl (flt hc20_14).2.2.2 (by decide) (by decide) ?_
          show Steps p.tables e below (Tl2.setTop (mkF m 26 #[.val (.ref p1), .val (.int i1), .val (.ref p3), .val (.int i3), .val (.int p5), .val (.int i5), .val (.int (cf (of_ + jj)))] [])) _
          refine XS.aloadN Xl2.here hx rfl (hb hby own_d13_26) rfl rfl ?_
          show Steps p.tables e below (Tl2.setTop (mkF m 27 #[.val (.ref p1), .val (.int i1), .val (.ref p3), .val (.int i3), .val (.int p5), .val (.int i5), .val (.int (cf (of_ + jj)))] [(.ref p3)])) _
          refine XS.iloadN Xl2.here hx rfl (hb hby own_d13_27) rfl ?_
          show Steps p.tables e below (Tl2.setTop (mkF m 28 #[.val (.ref p1), .val (.int i1), .val (.ref p3), .val (.int i3), .val (.int p5), .val (.int i5), .val (.int (cf (of_ + jj)))] [(.int i3), (.ref p3)])) _
          refine XS.iload Xl2.here hx rfl (hb hby own_d13_28) rfl ?_
          show Steps p.tables e below (Tl2.setTop (mkF m 30 #[.val (.ref p1), .val (.int i1), .val (.ref p3), .val (.int i3), .val (.int p5), .val (.int i5), .val (.int (cf (of_ + jj)))] [(.int (cf (of_ + jj))), (.int i3), (.ref p3)])) _
          refine XS.i2b Xl2.here hx rfl (hb hby own_d13_30) rfl ?_
          exact k
        obtain ⟨T17, h17, X17, e17, W17, G17, st17⟩ := own_stB Xl2 hx hZ el2 Fl2_1 (j := i3) iv3 (by omega) (g := (mkF m 31 #[.val (.ref p1), .val (.int i1), .val (.ref p3), .val (.int i3), .val (.int p5), .val (.int i5), .val (.int (cf (of_ + jj)))] [(.int ((cf (of_ + jj)).toInt8.toInt32)), (.int i3), (.ref p3)])) rfl rfl (hb hby own_d13_31)
        have f18 := Fl2_0.other W17 ne_p1_p3
        have N17 := Fr.snoc X17 Nl2 ge_p3
        have K17 : Keep h0 h17 [p3] := Kl2.wr W17 (Or.inl (List.mem_of_getElem? (i := 0) rfl))
        have Z17 : n0 ≤ h17.size := Nat.le_trans Zl2 (Keep.of_wr W17).1
        have k19 : ∀ t, Steps p.tables e below (T17.setTop (mkF m 32 #[.val (.ref p1), .val (.int i1), .val (.ref p3), .val (.int i3), .val (.int p5), .val (.int i5), .val (.int (cf (of_ + jj)))] [])) t → Steps p.tables e below (s₁.setTop (entryFrame m #[(.ref p1), (.int p2), (.ref p3), (.int (0 : Int32)), (.int p5)] 7)) t := fun t k => k16 t (st17 t k)
        have k20 : ∀ t, Steps p.tables e below (T17.setTop (mkF m 3 #[.val (.ref p1), .val (.int (i1 + (1 : Int32))), .val (.ref p3), .val (.int (i3 + (1 : Int32))), .val (.int p5), .val (.int (i5 + (1 : Int32))), .val (.int (cf (of_ + jj)))] [])) t → Steps p.tables e below (s₁.setTop (entryFrame m #[(.ref p1), (.int p2), (.ref p3), (.int (0 : Int32)), (.int p5)] 7)) t := by
          intro t k
          refine k19 t ?_
          show Steps p.tables e below (T17.setTop (mkF m 32 #[.val (.ref p1), .val (.int i1), .val (.ref p3), .val (.int i3), .val (.int p5), .val (.int i5), .val (.int (cf (of_ + jj)))] [])) _
          refine XS.iinc X17.here hx rfl (hb hby own_d13_32) rfl (l' := #[.val (.ref p1), .val (.int (i1 + (1 : Int32))), .val (.ref p3), .val (.int i3), .val (.int p5), .val (.int i5), .val (.int (cf (of_ + jj)))]) rfl ?_
          show Steps p.tables e below (T17.setTop (mkF m 35 #[.val (.ref p1), .val (.int (i1 + (1 : Int32))), .val (.ref p3), .val (.int i3), .val (.int p5), .val (.int i5), .val (.int (cf (of_ + jj)))] [])) _
          refine XS.iinc X17.here hx rfl (hb hby own_d13_35) rfl (l' := #[.val (.ref p1), .val (.int (i1 + (1 : Int32))), .val (.ref p3), .val (.int (i3 + (1 : Int32))), .val (.int p5), .val (.int i5), .val (.int (cf (of_ + jj)))]) rfl ?_
          show Steps p.tables e below (T17.setTop (mkF m 38 #[.val (.ref p1), .val (.int (i1 + (1 : Int32))), .val (.ref p3), .val (.int (i3 + (1 : Int32))), .val (.int p5), .val (.int i5), .val (.int (cf (of_ + jj)))] [])) _
          refine XS.iinc X17.here hx rfl (hb hby own_d13_38) rfl (l' := #[.val (.ref p1), .val (.int (i1 + (1 : Int32))), .val (.ref p3), .val (.int (i3 + (1 : Int32))), .val (.int p5), .val (.int (i5 + (1 : Int32))), .val (.int (cf (of_ + jj)))]) rfl ?_
          show Steps p.tables e below (T17.setTop (mkF m 41 #[.val (.ref p1), .val (.int (i1 + (1 : Int32))), .val (.ref p3), .val (.int (i3 + (1 : Int32))), .val (.int p5), .val (.int (i5 + (1 : Int32))), .val (.int (cf (of_ + jj)))] [])) _
          refine XS.goto X17.here hx rfl (pc0 := 41) (pc' := 3) rfl (hb hby own_d13_41) (by decide) (by decide) ?_
          exact k
        exact ih ⟨(jj + 1), (i1 + (1 : Int32)), (i3 + (1 : Int32)), (i5 + (1 : Int32)), _, _, _, _, _, (by omega), (by have z := own_inc iv1 (by omega); omega), (own_inc iv3 (by omega)), (own_inc iv5 (by omega)), Or.inr ⟨_, rfl⟩, (own_b8s ivg hc20_14), X17, e17, N17, K17, Z17, f18, G17, k20⟩
theorem own_d12_0 : decode jdk_52_method_16_code 0 = .ok (.iload_n 2, 1) := by decide +kernel
theorem own_d12_1 : decode jdk_52_method_16_code 1 = .ok (.newarray .byte, 2) := by decide +kernel
theorem own_d12_3 : decode jdk_52_method_16_code 3 = .ok (.astore_n 3, 1) := by decide +kernel
theorem own_d12_4 : decode jdk_52_method_16_code 4 = .ok (.aload_n 0, 1) := by decide +kernel
theorem own_d12_5 : decode jdk_52_method_16_code 5 = .ok (.iload_n 1, 1) := by decide +kernel
theorem own_d12_6 : decode jdk_52_method_16_code 6 = .ok (.aload_n 3, 1) := by decide +kernel
theorem own_d12_7 : decode jdk_52_method_16_code 7 = .ok (.iconst 0, 1) := by decide +kernel
theorem own_d12_8 : decode jdk_52_method_16_code 8 = .ok (.iload_n 2, 1) := by decide +kernel
theorem own_d12_9 : decode jdk_52_method_16_code 9 = .ok (.invokestatic 115, 3) := by decide +kernel
theorem own_d12_12 : decode jdk_52_method_16_code 12 = .ok (.istore 4, 2) := by decide +kernel
theorem own_d12_14 : decode jdk_52_method_16_code 14 = .ok (.iload 4, 2) := by decide +kernel
theorem own_d12_16 : decode jdk_52_method_16_code 16 = .ok (.iload_n 2, 1) := by decide +kernel
theorem own_d12_17 : decode jdk_52_method_16_code 17 = .ok (.if_icmp .eq 40, 3) := by decide +kernel
theorem own_d12_20 : decode jdk_52_method_16_code 20 = .ok (.aload_n 0, 1) := by decide +kernel
theorem own_d12_21 : decode jdk_52_method_16_code 21 = .ok (.iload_n 1, 1) := by decide +kernel
theorem own_d12_22 : decode jdk_52_method_16_code 22 = .ok (.iload_n 2, 1) := by decide +kernel
theorem own_d12_23 : decode jdk_52_method_16_code 23 = .ok (.invokestatic 119, 3) := by decide +kernel
theorem own_d12_26 : decode jdk_52_method_16_code 26 = .ok (.astore 5, 2) := by decide +kernel
theorem own_d12_28 : decode jdk_52_method_16_code 28 = .ok (.aload 5, 2) := by decide +kernel
theorem own_d12_30 : decode jdk_52_method_16_code 30 = .ok (.iload 4, 2) := by decide +kernel
theorem own_d12_32 : decode jdk_52_method_16_code 32 = .ok (.invokestatic 71, 3) := by decide +kernel
theorem own_d12_35 : decode jdk_52_method_16_code 35 = .ok (.sipush 255, 3) := by decide +kernel
theorem own_d12_38 : decode jdk_52_method_16_code 38 = .ok (.if_icmp .gt 16, 3) := by decide +kernel
theorem own_d12_54 : decode jdk_52_method_16_code 54 = .ok (.aload 5, 2) := by decide +kernel
theorem own_d12_56 : decode jdk_52_method_16_code 56 = .ok (.areturn, 1) := by decide +kernel
theorem own_d12_57 : decode jdk_52_method_16_code 57 = .ok (.aload_n 3, 1) := by decide +kernel
theorem own_d12_58 : decode jdk_52_method_16_code 58 = .ok (.areturn, 1) := by decide +kernel
theorem own_pd3 : parseMethodDescriptor "([CI[BII)I" = some ⟨[(.array .char), .int, (.array .byte), .int, .int], some .int⟩ := by decide +kernel
theorem own_pd4 : parseMethodDescriptor "([CII)[B" = some ⟨[(.array .char), .int, .int], some (.array .byte)⟩ := by decide +kernel
theorem own_pd5 : parseMethodDescriptor "([BI)C" = some ⟨[(.array .byte), .int], some .char⟩ := by decide +kernel
theorem own_efc4 (m : MethodId) (x0 : Addr) (x1 : Int32) (x2 : Int32) : entryFrame m #[(.ref x0), (.int x1), (.int x2)] 6 = mkF m 0 #[.val (.ref x0), .val (.int x1), .val (.int x2), .unset, .unset, .unset] [] := by first | (simp [entryFrame, mkF, argsToLocals, Value.category]; done) | rfl
def own_Qc4 (Z : State) (p1 : Addr) (p2 : Int32) (p3 : Int32) (zc : Nat) (cf : Nat → Int32) (of_ : Nat) (nn : Nat) (h0 : Heap) (n0 : Nat) (v : Option Value) (h : Heap) (L : List Loc) : Prop := ∃ (b : Addr) (cd : Int32), v = some (.ref b) ∧ Fr n0 L ∧ Keep h0 h [] ∧ h0.size ≤ b ∧ (own_By Z h b nn of_ cf cd)
def own_Rc4 : Room := { frames := 3, cells := 2, slots := 12, locals := 40 }
set_option maxRecDepth 65536 in
set_option maxHeartbeats 40000000 in
theorem own_rmc4 (l : Launch) (Z : State) (a0 : Array Value) (hw : ∀ d ∈ tables_1, d.before a0 Z = true) (ws : List Jvm.Cond) (p1 : Addr) (p2 : Int32) (p3 : Int32) (zc : Nat) (cf : Nat → Int32) (of_ : Nat) (nn : Nat) (h0 : Heap) (n0 : Nat) (Z0 : n0 ≤ h0.size) (P0 : own_G Z h0 p1 .char zc cf) (Xo : Old Z n0 h0) (hp2 : p2.toInt = (of_ : Int)) (hp3 : p3.toInt = (nn : Int)) (SA : Sta Z Z.heap "java/lang/StringUTF16" "$assertionsDisabled" "Z" (.int (1 : Int32))) (SH : Sta Z Z.heap "java/lang/StringUTF16" "HI_BYTE_SHIFT" "I" (.int (0 : Int32))) (SL : Sta Z Z.heap "java/lang/StringUTF16" "LO_BYTE_SHIFT" "I" (.int (8 : Int32))) (hbo : of_ + nn ≤ zc) (hz : zc ≤ 1000000) (hn : nn ≤ 4) (hch : ∀ i, i < nn → own_ch (cf (of_ + i))) :
    MetFree l (⟨"java/lang/StringUTF16", "compress", "([CII)[B"⟩ : MethodName) (head1 (Jvm.Cond.code (⟨"java/lang/StringUTF16", "compress", "([CII)[B"⟩ : MethodName) jdk_52_method_16_code 6 (some (.array .byte)) :: ws) own_Rc4) (fun aa U => aa = #[(.ref p1), (.int p2), (.int p3)] ∧ Z.Warmed39 U.vm ∧ U.heap = h0) (fun _ _ _ _ _ => True) (fun _ U o U' => ∃ v L, o = .returned v ∧ own_Qc4 Z p1 p2 p3 zc cf of_ nn h0 n0 v U'.heap L ∧ FrameEnd U o U' L own_Rc4.cells own_Rc4.slots) := by
  refine MetFree.of_bodySF (plainFor_of_name own_pn0) hisR ?_
  intro p e s m args below meth c s₁ Bd hml0 hP hK
  obtain ⟨rfl, hZ, hh⟩ := hP
  have hx := Bd.exec
  have hby := Bd.bytes
  have hml : c.maxLocals = 6 := hml0
  have hown : s.vm.findClass "java/lang/StringUTF16" = some m.cls := findClass_of_methodNamed Bd.named
  have hnm := (name_of_methodNamed Bd.named Bd.method).1
  have X0 : Stand p l e own_Rc4 s m #[(.ref p1), (.int p2), (.int p3)] below meth c s₁ [] 0 0 := Stand.of_body Bd
  have e0 : s₁.heap = h0 := by rw [← hh, Bd.state]; rfl
  have N0 := Fr.nil n0
  have pre0 : ∀ t, Steps p.tables e below (s₁.setTop (mkF m 0 #[.val (.ref p1), .val (.int p2), .val (.int p3), .unset, .unset, .unset] [])) t → Steps p.tables e below (s₁.setTop (entryFrame m #[(.ref p1), (.int p2), (.int p3)] 6)) t := fun t k => castTop (own_efc4 m p1 p2 p3) k
  have k1 : ∀ t, Steps p.tables e below (s₁.setTop (mkF m 1 #[.val (.ref p1), .val (.int p2), .val (.int p3), .unset, .unset, .unset] [(.int p3)])) t → Steps p.tables e below (s₁.setTop (entryFrame m #[(.ref p1), (.int p2), (.int p3)] 6)) t := by
    intro t k
    refine pre0 t ?_
    show Steps p.tables e below (s₁.setTop (mkF m 0 #[.val (.ref p1), .val (.int p2), .val (.int p3), .unset, .unset, .unset] [])) _
    refine XS.iloadN X0.here hx rfl (hb hby own_d12_0) rfl ?_
    exact k
  obtain ⟨T2, h2, X2, e2, E2, A2, st2⟩ := own_newB X0 hx hZ (hw _ (List.mem_of_getElem? (i := 22) rfl)) e0 (g := (mkF m 1 #[.val (.ref p1), .val (.int p2), .val (.int p3), .unset, .unset, .unset] [(.int p3)])) rfl (hb hby own_d12_1) rfl (n := nn) hp3 (cap := 4) (by omega) (by decide) (by decide) (by decide)
  obtain ⟨b2, g2⟩ : ∃ z, z = h0.size := ⟨_, rfl⟩
  rw [← g2] at A2 st2
  have ge2 : n0 ≤ b2 := Nat.le_trans Z0 (Nat.le_of_eq g2.symm)
  have bo2 : h0.size ≤ b2 := Nat.le_trans (Keep.refl h0 []).1 (Nat.le_of_eq g2.symm)
  have ne3 : p1 ≠ b2 := Nat.ne_of_lt (Nat.lt_of_lt_of_le P0.lt (Nat.le_of_eq g2.symm))
  have Z2 : n0 ≤ h2.size := Nat.le_trans Z0 E2.1
  have K2 : Keep h0 h2 [] := (Keep.refl h0 []).ext E2
  have Xo2 := Xo.ext E2
  have f4 := P0.ext E2
  have k5 : ∀ t, Steps p.tables e below (T2.setTop (mkF m 3 #[.val (.ref p1), .val (.int p2), .val (.int p3), .unset, .unset, .unset] [(.ref b2)])) t → Steps p.tables e below (s₁.setTop (entryFrame m #[(.ref p1), (.int p2), (.int p3)] 6)) t := fun t k => k1 t (st2 t k)
  have k6 : ∀ t, Steps p.tables e below (T2.setTop (mkF m 9 #[.val (.ref p1), .val (.int p2), .val (.int p3), .val (.ref b2), .unset, .unset] [(.int p3), (.int (0 : Int32)), (.ref b2), (.int p2), (.ref p1)])) t → Steps p.tables e below (s₁.setTop (entryFrame m #[(.ref p1), (.int p2), (.int p3)] 6)) t := by
    intro t k
    refine k5 t ?_
    show Steps p.tables e below (T2.setTop (mkF m 3 #[.val (.ref p1), .val (.int p2), .val (.int p3), .unset, .unset, .unset] [(.ref b2)])) _
    refine XS.astoreN X2.here hx rfl (hb hby own_d12_3) rfl rfl (l' := #[.val (.ref p1), .val (.int p2), .val (.int p3), .val (.ref b2), .unset, .unset]) rfl ?_
    show Steps p.tables e below (T2.setTop (mkF m 4 #[.val (.ref p1), .val (.int p2), .val (.int p3), .val (.ref b2), .unset, .unset] [])) _
    refine XS.aloadN X2.here hx rfl (hb hby own_d12_4) rfl rfl ?_
    show Steps p.tables e below (T2.setTop (mkF m 5 #[.val (.ref p1), .val (.int p2), .val (.int p3), .val (.ref b2), .unset, .unset] [(.ref p1)])) _
    refine XS.iloadN X2.here hx rfl (hb hby own_d12_5) rfl ?_
    show Steps p.tables e below (T2.setTop (mkF m 6 #[.val (.ref p1), .val (.int p2), .val (.int p3), .val (.ref b2), .unset, .unset] [(.int p2), (.ref p1)])) _
    refine XS.aloadN X2.here hx rfl (hb hby own_d12_6) rfl rfl ?_
    show Steps p.tables e below (T2.setTop (mkF m 7 #[.val (.ref p1), .val (.int p2), .val (.int p3), .val (.ref b2), .unset, .unset] [(.ref b2), (.int p2), (.ref p1)])) _
    refine XS.iconst X2.here hx rfl (hb hby own_d12_7) ?_
    show Steps p.tables e below (T2.setTop (mkF m 8 #[.val (.ref p1), .val (.int p2), .val (.int p3), .val (.ref b2), .unset, .unset] [(.int (0 : Int32)), (.ref b2), (.int p2), (.ref p1)])) _
    refine XS.iloadN X2.here hx rfl (hb hby own_d12_8) rfl ?_
    exact k
  obtain ⟨_, _, ⟨T7, L7, k7c, n7⟩, -, X7, ⟨Lc7, hQ7, l7, y7, z7⟩, st7⟩ := Jvm.LawKit.callS X2 hx (y := (⟨"java/lang/StringUTF16", "compress", "([CI[BII)I"⟩ : MethodName)) hown (mvT hZ (hw _ (List.mem_of_getElem? (i := 67) rfl))) (mvT hZ (hw _ (List.mem_of_getElem? (i := 68) rfl))) (mvT hZ (hw _ (List.mem_of_getElem? (i := 65) rfl))) (mvT hZ (hw _ (List.mem_of_getElem? (i := 69) rfl))) (by decide) (backOf (W := 0) (own_rmc5 l Z a0 hw [] p1 p2 b2 p3 zc cf nn own_zero of_ nn h2 n0 Z2 f4 A2 ge2 ne3 hp2 hp3 (by omega) (by omega) (by omega) (by omega)) hZ (hw _ (List.mem_of_getElem? (i := 69) rfl)) (hw _ (List.mem_of_getElem? (i := 65) rfl)) (by decide) (by decide)) (g := (mkF m 9 #[.val (.ref p1), .val (.int p2), .val (.int p3), .val (.ref b2), .unset, .unset] [(.int p3), (.int (0 : Int32)), (.ref b2), (.int p2), (.ref p1)])) rfl (by rw [hml]; rfl) (argsL := [(.ref p1), (.int p2), (.ref b2), (.int (0 : Int32)), (.int p3)]) (rest := []) (lenOf own_pd3 rfl) rfl (by show 2 * 0 + _ ≤ _; exact Nat.le_of_eq rfl) (hb hby own_d12_9) (fun _ _ => ⟨rfl, e2, (by decide : 1 + 0 ≤ _), (by decide : 4 + 0 ≤ _)⟩)
  dsimp only [Pt.U, Pt.locs, Pt.cells, Pt.slots] at X7 l7 y7 z7 st7 hQ7
  subst l7 y7 z7
  obtain ⟨r_7, gf_7, rfl, N7q, Kq7, fq7_0, hq7_hr⟩ := hQ7
  have N7 := Fr.app N0 N7q
  have f8 := f4.keep Kq7 (List.not_mem_cons_of_ne_of_not_mem ne3 List.not_mem_nil)
  have Z7 : n0 ≤ T7.heap.size := Nat.le_trans Z2 Kq7.1
  have K7 : Keep h0 T7.heap [] := K2.trans Kq7 (fun x hx => by rcases List.mem_cons.mp hx with rfl | hx; exact Or.inr bo2; exact nomatch hx)
  have Xo7 := Xo2.keep Kq7 (allS ge2 all0)
  have k9 : ∀ t, Steps p.tables e below (T7.setTop (mkF m 12 #[.val (.ref p1), .val (.int p2), .val (.int p3), .val (.ref b2), .unset, .unset] [(.int r_7)])) t → Steps p.tables e below (s₁.setTop (entryFrame m #[(.ref p1), (.int p2), (.int p3)] 6)) t := fun t k => k6 t (st7 t k)
  rcases hq7_hr with ⟨hra, hrb, hrc⟩ | ⟨jr, hrj, hrb, hrc⟩
  · skip
    have k10 : ∀ t, Steps p.tables e below (T7.setTop (mkF m 58 #[.val (.ref p1), .val (.int p2), .val (.int p3), .val (.ref b2), .val (.int r_7), .unset] [(.ref b2)])) t → Steps p.tables e below (s₁.setTop (entryFrame m #[(.ref p1), (.int p2), (.int p3)] 6)) t := by
      intro t k
      refine k9 t ?_
      show Steps p.tables e below (T7.setTop (mkF m 12 #[.val (.ref p1), .val (.int p2), .val (.int p3), .val (.ref b2), .unset, .unset] [(.int r_7)])) _
      refine XS.istore X7.here hx rfl (hb hby own_d12_12) rfl (l' := #[.val (.ref p1), .val (.int p2), .val (.int p3), .val (.ref b2), .val (.int r_7), .unset]) rfl ?_
      show Steps p.tables e below (T7.setTop (mkF m 14 #[.val (.ref p1), .val (.int p2), .val (.int p3), .val (.ref b2), .val (.int r_7), .unset] [])) _
      refine XS.iload X7.here hx rfl (hb hby own_d12_14) rfl ?_
      show Steps p.tables e below (T7.setTop (mkF m 16 #[.val (.ref p1), .val (.int p2), .val (.int p3), .val (.ref b2), .val (.int r_7), .unset] [(.int r_7)])) _
      refine XS.iloadN X7.here hx rfl (hb hby own_d12_16) rfl ?_
      show Steps p.tables e below (T7.setTop (mkF m 17 #[.val (.ref p1), .val (.int p2), .val (.int p3), .val (.ref b2), .val (.int r_7), .unset] [(.int p3), (.int r_7)])) _
      refine XS.icmpYes X7.here hx rfl (pc0 := 17) (pc' := 57) rfl (hb hby own_d12_17) rfl (teq hra).1 (by decide) (by decide) ?_
      show Steps p.tables e below (T7.setTop (mkF m 57 #[.val (.ref p1), .val (.int p2), .val (.int p3), .val (.ref b2), .val (.int r_7), .unset] [])) _
      refine XS.aloadN X7.here hx rfl (hb hby own_d12_57) rfl rfl ?_
      exact k
    obtain ⟨fs, hr, hrun, hended, hW, hsame⟩ := X7.leave (v := (some (.ref b2))) (fun h => by rw [Bd.returns] at h; cases h)
    refine ⟨_, _, k10 _ ?_, hrun, hended, _, _, rfl, ?_, ⟨_, rfl⟩, hW, hsame.mono (by decide) (by decide)⟩
    · exact retOut X7 hx Bd.returns rfl (Or.inr (Or.inr (Or.inr (Or.inr ⟨rfl, rfl, rfl⟩)))) (hb hby own_d12_58) hr
    · show own_Qc4 Z p1 p2 p3 zc cf of_ nn h0 n0 _ T7.heap _
      exact ⟨b2, (0 : Int32), rfl, N7, K7, bo2, Or.inl ⟨rfl, hrb, fq7_0.congr hrc⟩⟩
  · skip
    have k11 : ∀ t, Steps p.tables e below (T7.setTop (mkF m 23 #[.val (.ref p1), .val (.int p2), .val (.int p3), .val (.ref b2), .val (.int r_7), .unset] [(.int p3), (.int p2), (.ref p1)])) t → Steps p.tables e below (s₁.setTop (entryFrame m #[(.ref p1), (.int p2), (.int p3)] 6)) t := by
      intro t k
      refine k9 t ?_
      show Steps p.tables e below (T7.setTop (mkF m 12 #[.val (.ref p1), .val (.int p2), .val (.int p3), .val (.ref b2), .unset, .unset] [(.int r_7)])) _
      refine XS.istore X7.here hx rfl (hb hby own_d12_12) rfl (l' := #[.val (.ref p1), .val (.int p2), .val (.int p3), .val (.ref b2), .val (.int r_7), .unset]) rfl ?_
      show Steps p.tables e below (T7.setTop (mkF m 14 #[.val (.ref p1), .val (.int p2), .val (.int p3), .val (.ref b2), .val (.int r_7), .unset] [])) _
      refine XS.iload X7.here hx rfl (hb hby own_d12_14) rfl ?_
      show Steps p.tables e below (T7.setTop (mkF m 16 #[.val (.ref p1), .val (.int p2), .val (.int p3), .val (.ref b2), .val (.int r_7), .unset] [(.int r_7)])) _
      refine XS.iloadN X7.here hx rfl (hb hby own_d12_16) rfl ?_
      show Steps p.tables e below (T7.setTop (mkF m 17 #[.val (.ref p1), .val (.int p2), .val (.int p3), .val (.ref b2), .val (.int r_7), .unset] [(.int p3), (.int r_7)])) _
      refine XS.icmpNo X7.here hx rfl (hb hby own_d12_17) rfl (feq (own_nej hrb hp3 hrj)).1 ?_
      show Steps p.tables e below (T7.setTop (mkF m 20 #[.val (.ref p1), .val (.int p2), .val (.int p3), .val (.ref b2), .val (.int r_7), .unset] [])) _
      refine XS.aloadN X7.here hx rfl (hb hby own_d12_20) rfl rfl ?_
      show Steps p.tables e below (T7.setTop (mkF m 21 #[.val (.ref p1), .val (.int p2), .val (.int p3), .val (.ref b2), .val (.int r_7), .unset] [(.ref p1)])) _
      refine XS.iloadN X7.here hx rfl (hb hby own_d12_21) rfl ?_
      show Steps p.tables e below (T7.setTop (mkF m 22 #[.val (.ref p1), .val (.int p2), .val (.int p3), .val (.ref b2), .val (.int r_7), .unset] [(.int p2), (.ref p1)])) _
      refine XS.iloadN X7.here hx rfl (hb hby own_d12_22) rfl ?_
      exact k
    obtain ⟨_, _, ⟨T12, L12, k12c, n12⟩, -, X12, ⟨Lc12, hQ12, l12, y12, z12⟩, st12⟩ := Jvm.LawKit.callS X7 hx (y := (⟨"java/lang/StringUTF16", "toBytes", "([CII)[B"⟩ : MethodName)) hown (mvT hZ (hw _ (List.mem_of_getElem? (i := 70) rfl))) (mvT hZ (hw _ (List.mem_of_getElem? (i := 71) rfl))) (mvT hZ (hw _ (List.mem_of_getElem? (i := 65) rfl))) (mvT hZ (hw _ (List.mem_of_getElem? (i := 72) rfl))) (by decide) (backOf (W := 0) (own_rmtb l Z a0 hw [] p1 p2 p3 zc cf of_ nn T7.heap n0 Z7 f8 Xo7 hp2 hp3 SA SH SL (by omega) (by omega) (by omega)) hZ (hw _ (List.mem_of_getElem? (i := 72) rfl)) (hw _ (List.mem_of_getElem? (i := 65) rfl)) (by decide) (by decide)) (g := (mkF m 23 #[.val (.ref p1), .val (.int p2), .val (.int p3), .val (.ref b2), .val (.int r_7), .unset] [(.int p3), (.int p2), (.ref p1)])) rfl (by rw [hml]; rfl) (argsL := [(.ref p1), (.int p2), (.int p3)]) (rest := []) (lenOf own_pd4 rfl) rfl (by show 2 * 0 + _ ≤ _; exact Nat.le_of_eq rfl) (hb hby own_d12_23) (fun _ _ => ⟨rfl, rfl, (by decide : 1 + 1 ≤ _), (by decide : 4 + 8 ≤ _)⟩)
    dsimp only [Pt.U, Pt.locs, Pt.cells, Pt.slots] at X12 l12 y12 z12 st12 hQ12
    subst l12 y12 z12
    obtain ⟨rb_12, rfl, N12q, Kq12, gz12_b, fq12_0⟩ := hQ12
    have N12 := Fr.app N7 N12q
    have ge12_b : n0 ≤ rb_12 := Nat.le_trans Z7 gz12_b
    have bo12_b : h0.size ≤ rb_12 := Nat.le_trans K7.1 gz12_b
    have ne13 : b2 ≠ rb_12 := Nat.ne_of_lt (Nat.lt_of_lt_of_le fq7_0.lt gz12_b)
    have ne14 : p1 ≠ rb_12 := Nat.ne_of_lt (Nat.lt_of_lt_of_le f8.lt gz12_b)
    have f15 := f8.keep Kq12 List.not_mem_nil
    have f16 := fq7_0.keep Kq12 List.not_mem_nil
    have Z12 : n0 ≤ T12.heap.size := Nat.le_trans Z7 Kq12.1
    have K12 : Keep h0 T12.heap [] := K7.trans Kq12 (fun x hx => nomatch hx)
    have Xo12 := Xo7.keep Kq12 all0
    have k17 : ∀ t, Steps p.tables e below (T12.setTop (mkF m 26 #[.val (.ref p1), .val (.int p2), .val (.int p3), .val (.ref b2), .val (.int r_7), .unset] [(.ref rb_12)])) t → Steps p.tables e below (s₁.setTop (entryFrame m #[(.ref p1), (.int p2), (.int p3)] 6)) t := fun t k => k11 t (st12 t k)
    have k18 : ∀ t, Steps p.tables e below (T12.setTop (mkF m 32 #[.val (.ref p1), .val (.int p2), .val (.int p3), .val (.ref b2), .val (.int r_7), .val (.ref rb_12)] [(.int r_7), (.ref rb_12)])) t → Steps p.tables e below (s₁.setTop (entryFrame m #[(.ref p1), (.int p2), (.int p3)] 6)) t := by
      intro t k
      refine k17 t ?_
      show Steps p.tables e below (T12.setTop (mkF m 26 #[.val (.ref p1), .val (.int p2), .val (.int p3), .val (.ref b2), .val (.int r_7), .unset] [(.ref rb_12)])) _
      refine XS.astore X12.here hx rfl (hb hby own_d12_26) rfl rfl (l' := #[.val (.ref p1), .val (.int p2), .val (.int p3), .val (.ref b2), .val (.int r_7), .val (.ref rb_12)]) rfl ?_
      show Steps p.tables e below (T12.setTop (mkF m 28 #[.val (.ref p1), .val (.int p2), .val (.int p3), .val (.ref b2), .val (.int r_7), .val (.ref rb_12)] [])) _
      refine XS.aload X12.here hx rfl (hb hby own_d12_28) rfl rfl ?_
      show Steps p.tables e below (T12.setTop (mkF m 30 #[.val (.ref p1), .val (.int p2), .val (.int p3), .val (.ref b2), .val (.int r_7), .val (.ref rb_12)] [(.ref rb_12)])) _
      refine XS.iload X12.here hx rfl (hb hby own_d12_30) rfl ?_
      exact k
    obtain ⟨_, _, ⟨T19, L19, k19c, n19⟩, -, X19, ⟨Lc19, hQ19, l19, y19, z19⟩, st19⟩ := Jvm.LawKit.callS X12 hx (y := (⟨"java/lang/StringUTF16", "getChar", "([BI)C"⟩ : MethodName)) hown (mvT hZ (hw _ (List.mem_of_getElem? (i := 86) rfl))) (mvT hZ (hw _ (List.mem_of_getElem? (i := 87) rfl))) (mvT hZ (hw _ (List.mem_of_getElem? (i := 65) rfl))) (mvT hZ (hw _ (List.mem_of_getElem? (i := 88) rfl))) (by decide) (backOf (W := 0) (own_rmgc l Z a0 hw [] rb_12 r_7 (2 * nn) (own_u16 cf of_) jr (cf (of_ + jr)) T12.heap n0 Z12 fq12_0 Xo12 hrb SA SH SL (by omega) (by omega) (own_u0 cf of_ jr) (own_u1 cf of_ jr) (hch jr (by omega))) hZ (hw _ (List.mem_of_getElem? (i := 88) rfl)) (hw _ (List.mem_of_getElem? (i := 65) rfl)) (by decide) (by decide)) (g := (mkF m 32 #[.val (.ref p1), .val (.int p2), .val (.int p3), .val (.ref b2), .val (.int r_7), .val (.ref rb_12)] [(.int r_7), (.ref rb_12)])) rfl (by rw [hml]; rfl) (argsL := [(.ref rb_12), (.int r_7)]) (rest := []) (lenOf own_pd5 rfl) rfl (by show 2 * 0 + _ ≤ _; exact Nat.le_of_eq rfl) (hb hby own_d12_32) (fun _ _ => ⟨rfl, rfl, (by decide : 2 + 0 ≤ _), (by decide : 12 + 0 ≤ _)⟩)
    dsimp only [Pt.U, Pt.locs, Pt.cells, Pt.slots] at X19 l19 y19 z19 st19 hQ19
    subst l19 y19 z19
    obtain ⟨rfl, N19q, e19⟩ := hQ19
    have N19 := Fr.app N12 N19q
    have k20 : ∀ t, Steps p.tables e below (T19.setTop (mkF m 35 #[.val (.ref p1), .val (.int p2), .val (.int p3), .val (.ref b2), .val (.int r_7), .val (.ref rb_12)] [(.int (cf (of_ + jr)))])) t → Steps p.tables e below (s₁.setTop (entryFrame m #[(.ref p1), (.int p2), (.int p3)] 6)) t := fun t k => k18 t (st19 t k)
    have k21 : ∀ t, Steps p.tables e below (T19.setTop (mkF m 56 #[.val (.ref p1), .val (.int p2), .val (.int p3), .val (.ref b2), .val (.int r_7), .val (.ref rb_12)] [(.ref rb_12)])) t → Steps p.tables e below (s₁.setTop (entryFrame m #[(.ref p1), (.int p2), (.int p3)] 6)) t := by
      intro t k
      refine k20 t ?_
      show Steps p.tables e below (T19.setTop (mkF m 35 #[.val (.ref p1), .val (.int p2), .val (.int p3), .val (.ref b2), .val (.int r_7), .val (.ref rb_12)] [(.int (cf (of_ + jr)))])) _
      refine XS.sipush X19.here hx rfl (hb hby own_d12_35) ?_
      show Steps p.tables e below (T19.setTop (mkF m 38 #[.val (.ref p1), .val (.int p2), .val (.int p3), .val (.ref b2), .val (.int r_7), .val (.ref rb_12)] [(.int (255 : Int32)), (.int (cf (of_ + jr)))])) _
      refine XS.icmpYes X19.here hx rfl (pc0 := 38) (pc' := 54) rfl (hb hby own_d12_38) rfl (tlt hrc).2.2.1 (by decide) (by decide) ?_
      show Steps p.tables e below (T19.setTop (mkF m 54 #[.val (.ref p1), .val (.int p2), .val (.int p3), .val (.ref b2), .val (.int r_7), .val (.ref rb_12)] [])) _
      refine XS.aload X19.here hx rfl (hb hby own_d12_54) rfl rfl ?_
      exact k
    obtain ⟨fs, hr, hrun, hended, hW, hsame⟩ := X19.leave (v := (some (.ref rb_12))) (fun h => by rw [Bd.returns] at h; cases h)
    refine ⟨_, _, k21 _ ?_, hrun, hended, _, _, rfl, ?_, ⟨_, rfl⟩, hW, hsame.mono (by decide) (by decide)⟩
    · exact retOut X19 hx Bd.returns rfl (Or.inr (Or.inr (Or.inr (Or.inr ⟨rfl, rfl, rfl⟩)))) (hb hby own_d12_56) hr
    · show own_Qc4 Z p1 p2 p3 zc cf of_ nn h0 n0 _ T19.heap _
      rw [e19]
      exact ⟨rb_12, (1 : Int32), rfl, N19, K12, bo12_b, Or.inr ⟨rfl, ⟨jr, hrj, hrc⟩, fq12_0⟩⟩
theorem own_d19_0 : decode jdk_52_method_15_code 0 = .ok (.iload_n 1, 1) := by decide +kernel
theorem own_d19_1 : decode jdk_52_method_15_code 1 = .ok (.aload_n 0, 1) := by decide +kernel
theorem own_d19_2 : decode jdk_52_method_15_code 2 = .ok (.arraylength, 1) := by decide +kernel
theorem own_d19_3 : decode jdk_52_method_15_code 3 = .ok (.isub, 1) := by decide +kernel
theorem own_d19_4 : decode jdk_52_method_15_code 4 = .ok (.bipush 31, 2) := by decide +kernel
theorem own_d19_6 : decode jdk_52_method_15_code 6 = .ok (.iushr, 1) := by decide +kernel
theorem own_d19_7 : decode jdk_52_method_15_code 7 = .ok (.i2b, 1) := by decide +kernel
theorem own_d19_8 : decode jdk_52_method_15_code 8 = .ok (.ireturn, 1) := by decide +kernel
theorem own_efcl1 (m : MethodId) (x0 : Addr) (x1 : Int32) : entryFrame m #[(.ref x0), (.int x1)] 2 = mkF m 0 #[.val (.ref x0), .val (.int x1)] [] := by first | (simp [entryFrame, mkF, argsToLocals, Value.category]; done) | rfl
def own_Qcl1 (Z : State) (p1 : Addr) (p2 : Int32) (bf : Nat → Int32) (nn : Nat) (h0 : Heap) (n0 : Nat) (v : Option Value) (h : Heap) (L : List Loc) : Prop := v = some (.int (1 : Int32)) ∧ Fr n0 L ∧ h = h0
def own_Rcl1 : Room := { frames := 0, cells := 0, slots := 0, locals := 0 }
set_option maxRecDepth 65536 in
set_option maxHeartbeats 40000000 in
theorem own_rmcl1 (l : Launch) (Z : State) (a0 : Array Value) (hw : ∀ d ∈ tables_1, d.before a0 Z = true) (ws : List Jvm.Cond) (p1 : Addr) (p2 : Int32) (bf : Nat → Int32) (nn : Nat) (h0 : Heap) (n0 : Nat) (Z0 : n0 ≤ h0.size) (P0 : own_G Z h0 p1 .byte (2 * nn) bf) (hp2 : p2.toInt = (nn : Int)) (hn : nn ≤ 4) (hn0 : 0 < nn) :
    MetFree l (⟨"java/lang/StringUTF16", "coderFromArrayLen", "([BI)B"⟩ : MethodName) (head1 (Jvm.Cond.code (⟨"java/lang/StringUTF16", "coderFromArrayLen", "([BI)B"⟩ : MethodName) jdk_52_method_15_code 2 (some .byte) :: ws) own_Rcl1) (fun aa U => aa = #[(.ref p1), (.int p2)] ∧ Z.Warmed39 U.vm ∧ U.heap = h0) (fun _ _ _ _ _ => True) (fun _ U o U' => ∃ v L, o = .returned v ∧ own_Qcl1 Z p1 p2 bf nn h0 n0 v U'.heap L ∧ FrameEnd U o U' L own_Rcl1.cells own_Rcl1.slots) := by
  refine MetFree.of_bodySF (plainFor_of_name own_pn0) hisR ?_
  intro p e s m args below meth c s₁ Bd hml0 hP hK
  obtain ⟨rfl, hZ, hh⟩ := hP
  have hx := Bd.exec
  have hby := Bd.bytes
  have hml : c.maxLocals = 2 := hml0
  have hown : s.vm.findClass "java/lang/StringUTF16" = some m.cls := findClass_of_methodNamed Bd.named
  have hnm := (name_of_methodNamed Bd.named Bd.method).1
  have X0 : Stand p l e own_Rcl1 s m #[(.ref p1), (.int p2)] below meth c s₁ [] 0 0 := Stand.of_body Bd
  have e0 : s₁.heap = h0 := by rw [← hh, Bd.state]; rfl
  have N0 := Fr.nil n0
  have pre0 : ∀ t, Steps p.tables e below (s₁.setTop (mkF m 0 #[.val (.ref p1), .val (.int p2)] [])) t → Steps p.tables e below (s₁.setTop (entryFrame m #[(.ref p1), (.int p2)] 2)) t := fun t k => castTop (own_efcl1 m p1 p2) k
  have k1 : ∀ t, Steps p.tables e below (s₁.setTop (mkF m 8 #[.val (.ref p1), .val (.int p2)] [(.int ((((p2 - (Nat.toInt32 (2 * nn))).toUInt32 >>> ((31 : Int32) &&& 31).toUInt32).toInt32).toInt8.toInt32))])) t → Steps p.tables e below (s₁.setTop (entryFrame m #[(.ref p1), (.int p2)] 2)) t := by
    intro t k
    refine pre0 t ?_
    show Steps p.tables e below (s₁.setTop (mkF m 0 #[.val (.ref p1), .val (.int p2)] [])) _
    refine XS.iloadN X0.here hx rfl (hb hby own_d19_0) rfl ?_
    show Steps p.tables e below (s₁.setTop (mkF m 1 #[.val (.ref p1), .val (.int p2)] [(.int p2)])) _
    refine XS.aloadN X0.here hx rfl (hb hby own_d19_1) rfl rfl ?_
    show Steps p.tables e below (s₁.setTop (mkF m 2 #[.val (.ref p1), .val (.int p2)] [(.ref p1), (.int p2)])) _
    refine own_len X0 hx hZ e0 P0 (g := (mkF m 2 #[.val (.ref p1), .val (.int p2)] [(.ref p1), (.int p2)])) rfl rfl (hb hby own_d19_2) ?_
    show Steps p.tables e below (s₁.setTop (mkF m 3 #[.val (.ref p1), .val (.int p2)] [(.int (Nat.toInt32 (2 * nn))), (.int p2)])) _
    refine XS.isub X0.here hx rfl (hb hby own_d19_3) rfl ?_
    show Steps p.tables e below (s₁.setTop (mkF m 4 #[.val (.ref p1), .val (.int p2)] [(.int (p2 - (Nat.toInt32 (2 * nn))))])) _
    refine XS.bipush X0.here hx rfl (hb hby own_d19_4) ?_
    show Steps p.tables e below (s₁.setTop (mkF m 6 #[.val (.ref p1), .val (.int p2)] [(.int (31 : Int32)), (.int (p2 - (Nat.toInt32 (2 * nn))))])) _
    refine XS.iushr X0.here hx rfl (hb hby own_d19_6) rfl ?_
    show Steps p.tables e below (s₁.setTop (mkF m 7 #[.val (.ref p1), .val (.int p2)] [(.int (((p2 - (Nat.toInt32 (2 * nn))).toUInt32 >>> ((31 : Int32) &&& 31).toUInt32).toInt32))])) _
    refine XS.i2b X0.here hx rfl (hb hby own_d19_7) rfl ?_
    exact k
  obtain ⟨fs, hr, hrun, hended, hW, hsame⟩ := X0.leave (v := (some (.int (nar .byte ((((p2 - (Nat.toInt32 (2 * nn))).toUInt32 >>> ((31 : Int32) &&& 31).toUInt32).toInt32).toInt8.toInt32))))) (fun h => by rw [Bd.returns] at h; cases h)
  refine ⟨_, _, k1 _ ?_, hrun, hended, _, _, rfl, ?_, ⟨_, rfl⟩, hW, hsame.mono (by decide) (by decide)⟩
  · exact retN X0 hx (t := .byte) Bd.returns (by simp) (hb hby own_d19_8) hr
  · show own_Qcl1 Z p1 p2 bf nn h0 n0 _ s₁.heap _
    exact ⟨(congrArg (fun z => some (Value.int z)) (own_cf1 hp2 (by omega) hn0)), N0, e0⟩
theorem own_efcl0 (m : MethodId) (x0 : Addr) (x1 : Int32) : entryFrame m #[(.ref x0), (.int x1)] 2 = mkF m 0 #[.val (.ref x0), .val (.int x1)] [] := by first | (simp [entryFrame, mkF, argsToLocals, Value.category]; done) | rfl
def own_Qcl0 (Z : State) (p1 : Addr) (p2 : Int32) (bf : Nat → Int32) (nn : Nat) (h0 : Heap) (n0 : Nat) (v : Option Value) (h : Heap) (L : List Loc) : Prop := v = some (.int (0 : Int32)) ∧ Fr n0 L ∧ h = h0
def own_Rcl0 : Room := { frames := 0, cells := 0, slots := 0, locals := 0 }
set_option maxRecDepth 65536 in
set_option maxHeartbeats 40000000 in
theorem own_rmcl0 (l : Launch) (Z : State) (a0 : Array Value) (hw : ∀ d ∈ tables_1, d.before a0 Z = true) (ws : List Jvm.Cond) (p1 : Addr) (p2 : Int32) (bf : Nat → Int32) (nn : Nat) (h0 : Heap) (n0 : Nat) (Z0 : n0 ≤ h0.size) (P0 : own_G Z h0 p1 .byte nn bf) (hp2 : p2.toInt = (nn : Int)) (hn : nn ≤ 4) :
    MetFree l (⟨"java/lang/StringUTF16", "coderFromArrayLen", "([BI)B"⟩ : MethodName) (head1 (Jvm.Cond.code (⟨"java/lang/StringUTF16", "coderFromArrayLen", "([BI)B"⟩ : MethodName) jdk_52_method_15_code 2 (some .byte) :: ws) own_Rcl0) (fun aa U => aa = #[(.ref p1), (.int p2)] ∧ Z.Warmed39 U.vm ∧ U.heap = h0) (fun _ _ _ _ _ => True) (fun _ U o U' => ∃ v L, o = .returned v ∧ own_Qcl0 Z p1 p2 bf nn h0 n0 v U'.heap L ∧ FrameEnd U o U' L own_Rcl0.cells own_Rcl0.slots) := by
  refine MetFree.of_bodySF (plainFor_of_name own_pn0) hisR ?_
  intro p e s m args below meth c s₁ Bd hml0 hP hK
  obtain ⟨rfl, hZ, hh⟩ := hP
  have hx := Bd.exec
  have hby := Bd.bytes
  have hml : c.maxLocals = 2 := hml0
  have hown : s.vm.findClass "java/lang/StringUTF16" = some m.cls := findClass_of_methodNamed Bd.named
  have hnm := (name_of_methodNamed Bd.named Bd.method).1
  have X0 : Stand p l e own_Rcl0 s m #[(.ref p1), (.int p2)] below meth c s₁ [] 0 0 := Stand.of_body Bd
  have e0 : s₁.heap = h0 := by rw [← hh, Bd.state]; rfl
  have N0 := Fr.nil n0
  have pre0 : ∀ t, Steps p.tables e below (s₁.setTop (mkF m 0 #[.val (.ref p1), .val (.int p2)] [])) t → Steps p.tables e below (s₁.setTop (entryFrame m #[(.ref p1), (.int p2)] 2)) t := fun t k => castTop (own_efcl0 m p1 p2) k
  have k1 : ∀ t, Steps p.tables e below (s₁.setTop (mkF m 8 #[.val (.ref p1), .val (.int p2)] [(.int ((((p2 - (Nat.toInt32 nn)).toUInt32 >>> ((31 : Int32) &&& 31).toUInt32).toInt32).toInt8.toInt32))])) t → Steps p.tables e below (s₁.setTop (entryFrame m #[(.ref p1), (.int p2)] 2)) t := by
    intro t k
    refine pre0 t ?_
    show Steps p.tables e below (s₁.setTop (mkF m 0 #[.val (.ref p1), .val (.int p2)] [])) _
    refine XS.iloadN X0.here hx rfl (hb hby own_d19_0) rfl ?_
    show Steps p.tables e below (s₁.setTop (mkF m 1 #[.val (.ref p1), .val (.int p2)] [(.int p2)])) _
    refine XS.aloadN X0.here hx rfl (hb hby own_d19_1) rfl rfl ?_
    show Steps p.tables e below (s₁.setTop (mkF m 2 #[.val (.ref p1), .val (.int p2)] [(.ref p1), (.int p2)])) _
    refine own_len X0 hx hZ e0 P0 (g := (mkF m 2 #[.val (.ref p1), .val (.int p2)] [(.ref p1), (.int p2)])) rfl rfl (hb hby own_d19_2) ?_
    show Steps p.tables e below (s₁.setTop (mkF m 3 #[.val (.ref p1), .val (.int p2)] [(.int (Nat.toInt32 nn)), (.int p2)])) _
    refine XS.isub X0.here hx rfl (hb hby own_d19_3) rfl ?_
    show Steps p.tables e below (s₁.setTop (mkF m 4 #[.val (.ref p1), .val (.int p2)] [(.int (p2 - (Nat.toInt32 nn)))])) _
    refine XS.bipush X0.here hx rfl (hb hby own_d19_4) ?_
    show Steps p.tables e below (s₁.setTop (mkF m 6 #[.val (.ref p1), .val (.int p2)] [(.int (31 : Int32)), (.int (p2 - (Nat.toInt32 nn)))])) _
    refine XS.iushr X0.here hx rfl (hb hby own_d19_6) rfl ?_
    show Steps p.tables e below (s₁.setTop (mkF m 7 #[.val (.ref p1), .val (.int p2)] [(.int (((p2 - (Nat.toInt32 nn)).toUInt32 >>> ((31 : Int32) &&& 31).toUInt32).toInt32))])) _
    refine XS.i2b X0.here hx rfl (hb hby own_d19_7) rfl ?_
    exact k
  obtain ⟨fs, hr, hrun, hended, hW, hsame⟩ := X0.leave (v := (some (.int (nar .byte ((((p2 - (Nat.toInt32 nn)).toUInt32 >>> ((31 : Int32) &&& 31).toUInt32).toInt32).toInt8.toInt32))))) (fun h => by rw [Bd.returns] at h; cases h)
  refine ⟨_, _, k1 _ ?_, hrun, hended, _, _, rfl, ?_, ⟨_, rfl⟩, hW, hsame.mono (by decide) (by decide)⟩
  · exact retN X0 hx (t := .byte) Bd.returns (by simp) (hb hby own_d19_8) hr
  · show own_Qcl0 Z p1 p2 bf nn h0 n0 _ s₁.heap _
    exact ⟨(congrArg (fun z => some (Value.int z)) (own_cf0 hp2 (by omega))), N0, e0⟩
theorem own_d3_0 : decode jdk_42_method_149_code 0 = .ok (.aload_n 0, 1) := by decide +kernel
theorem own_d3_1 : decode jdk_42_method_149_code 1 = .ok (.invokespecial 1, 3) := by decide +kernel
theorem own_d3_4 : decode jdk_42_method_149_code 4 = .ok (.iload_n 3, 1) := by decide +kernel
theorem own_d3_5 : decode jdk_42_method_149_code 5 = .ok (.ifCond .ne 22, 3) := by decide +kernel
theorem own_d3_27 : decode jdk_42_method_149_code 27 = .ok (.getstatic 38, 3) := by decide +kernel
theorem own_d3_30 : decode jdk_42_method_149_code 30 = .ok (.ifCond .eq 28, 3) := by decide +kernel
theorem own_d3_33 : decode jdk_42_method_149_code 33 = .ok (.aload_n 1, 1) := by decide +kernel
theorem own_d3_34 : decode jdk_42_method_149_code 34 = .ok (.iload_n 2, 1) := by decide +kernel
theorem own_d3_35 : decode jdk_42_method_149_code 35 = .ok (.iload_n 3, 1) := by decide +kernel
theorem own_d3_36 : decode jdk_42_method_149_code 36 = .ok (.invokestatic 177, 3) := by decide +kernel
theorem own_d3_39 : decode jdk_42_method_149_code 39 = .ok (.astore 5, 2) := by decide +kernel
theorem own_d3_41 : decode jdk_42_method_149_code 41 = .ok (.aload_n 0, 1) := by decide +kernel
theorem own_d3_42 : decode jdk_42_method_149_code 42 = .ok (.aload 5, 2) := by decide +kernel
theorem own_d3_44 : decode jdk_42_method_149_code 44 = .ok (.iload_n 3, 1) := by decide +kernel
theorem own_d3_45 : decode jdk_42_method_149_code 45 = .ok (.invokestatic 47, 3) := by decide +kernel
theorem own_d3_48 : decode jdk_42_method_149_code 48 = .ok (.putfield 15, 3) := by decide +kernel
theorem own_d3_51 : decode jdk_42_method_149_code 51 = .ok (.aload_n 0, 1) := by decide +kernel
theorem own_d3_52 : decode jdk_42_method_149_code 52 = .ok (.aload 5, 2) := by decide +kernel
theorem own_d3_54 : decode jdk_42_method_149_code 54 = .ok (.putfield 9, 3) := by decide +kernel
theorem own_d3_57 : decode jdk_42_method_149_code 57 = .ok (.return_, 1) := by decide +kernel
theorem own_pd6 : parseMethodDescriptor "([BI)B" = some ⟨[(.array .byte), .int], some .byte⟩ := by decide +kernel
theorem own_pn1 : plainName "java/lang/String" = true := by first | (simp [plainName, overriddenIn]; done) | decide +kernel
theorem own_efs2 (m : MethodId) (x0 : Addr) (x1 : Addr) (x2 : Int32) (x3 : Int32) : entryFrame m #[(.ref x0), (.ref x1), (.int x2), (.int x3), .null] 6 = mkF m 0 #[.val (.ref x0), .val (.ref x1), .val (.int x2), .val (.int x3), .val .null, .unset] [] := by first | (simp [entryFrame, mkF, argsToLocals, Value.category]; done) | rfl
def own_Qs2 (Z : State) (a : Addr) (p1 : Addr) (p2 : Int32) (p3 : Int32) (u1 : Value) (u2 : Value) (zc : Nat) (cf : Nat → Int32) (of_ : Nat) (nn : Nat) (cs : Int32) (h0 : Heap) (n0 : Nat) (v : Option Value) (h : Heap) (L : List Loc) : Prop := v = none ∧ Fr n0 L ∧ Keep h0 h [a] ∧ own_Str Z h a nn of_ cf
def own_Rs2 : Room := { frames := 4, cells := 2, slots := 12, locals := 57 }
set_option maxRecDepth 65536 in
set_option maxHeartbeats 40000000 in
theorem own_rms2 (l : Launch) (Z : State) (a0 : Array Value) (hw : ∀ d ∈ tables_1, d.before a0 Z = true) (ws : List Jvm.Cond) (a : Addr) (p1 : Addr) (p2 : Int32) (p3 : Int32) (u1 : Value) (u2 : Value) (zc : Nat) (cf : Nat → Int32) (of_ : Nat) (nn : Nat) (cs : Int32) (h0 : Heap) (n0 : Nat) (Z0 : n0 ≤ h0.size) (P0 : Exa Z h0 a "java/lang/String") (P1 : Fld Z h0 a "java/lang/String" "value" "[B" u1) (P2 : Fld Z h0 a "java/lang/String" "coder" "B" u2) (P3 : own_G Z h0 p1 .char zc cf) (ge_a : n0 ≤ a) (ne_p1_a : p1 ≠ a) (Xo : Old Z n0 h0) (hp2 : p2.toInt = (of_ : Int)) (hp3 : p3.toInt = (nn : Int)) (SC : Sta Z Z.heap "java/lang/String" "COMPACT_STRINGS" "Z" (.int cs)) (SA : Sta Z Z.heap "java/lang/StringUTF16" "$assertionsDisabled" "Z" (.int (1 : Int32))) (SH : Sta Z Z.heap "java/lang/StringUTF16" "HI_BYTE_SHIFT" "I" (.int (0 : Int32))) (SL : Sta Z Z.heap "java/lang/StringUTF16" "LO_BYTE_SHIFT" "I" (.int (8 : Int32))) (hcs : ¬ (cs = (0 : Int32))) (hbo : of_ + nn ≤ zc) (hz : zc ≤ 1000000) (hn : nn ≤ 4) (hch : ∀ i, i < nn → own_ch (cf (of_ + i))) (hn0 : 0 < nn) :
    MetFree l (⟨"java/lang/String", "<init>", "([CIILjava/lang/Void;)V"⟩ : MethodName) (head1 (Jvm.Cond.code (⟨"java/lang/String", "<init>", "([CIILjava/lang/Void;)V"⟩ : MethodName) jdk_42_method_149_code 6 none :: ws) own_Rs2) (fun aa U => aa = #[(.ref a), (.ref p1), (.int p2), (.int p3), .null] ∧ Z.Warmed39 U.vm ∧ U.heap = h0) (fun _ _ _ _ _ => True) (fun _ U o U' => ∃ v L, o = .returned v ∧ own_Qs2 Z a p1 p2 p3 u1 u2 zc cf of_ nn cs h0 n0 v U'.heap L ∧ FrameEnd U o U' L own_Rs2.cells own_Rs2.slots) := by
  refine MetFree.of_bodySF (plainFor_of_name own_pn1) hisR ?_
  intro p e s m args below meth c s₁ Bd hml0 hP hK
  obtain ⟨rfl, hZ, hh⟩ := hP
  have hx := Bd.exec
  have hby := Bd.bytes
  have hml : c.maxLocals = 6 := hml0
  have hown : s.vm.findClass "java/lang/String" = some m.cls := findClass_of_methodNamed Bd.named
  have hnm := (name_of_methodNamed Bd.named Bd.method).1
  have X0 : Stand p l e own_Rs2 s m #[(.ref a), (.ref p1), (.int p2), (.int p3), .null] below meth c s₁ [] 0 0 := Stand.of_body Bd
  have e0 : s₁.heap = h0 := by rw [← hh, Bd.state]; rfl
  have N0 := Fr.nil n0
  have pre0 : ∀ t, Steps p.tables e below (s₁.setTop (mkF m 0 #[.val (.ref a), .val (.ref p1), .val (.int p2), .val (.int p3), .val .null, .unset] [])) t → Steps p.tables e below (s₁.setTop (entryFrame m #[(.ref a), (.ref p1), (.int p2), (.int p3), .null] 6)) t := fun t k => castTop (own_efs2 m a p1 p2 p3) k
  have k1 : ∀ t, Steps p.tables e below (s₁.setTop (mkF m 1 #[.val (.ref a), .val (.ref p1), .val (.int p2), .val (.int p3), .val .null, .unset] [(.ref a)])) t → Steps p.tables e below (s₁.setTop (entryFrame m #[(.ref a), (.ref p1), (.int p2), (.int p3), .null] 6)) t := by
    intro t k
    refine pre0 t ?_
    show Steps p.tables e below (s₁.setTop (mkF m 0 #[.val (.ref a), .val (.ref p1), .val (.int p2), .val (.int p3), .val .null, .unset] [])) _
    refine XS.aloadN X0.here hx rfl (hb hby own_d3_0) rfl rfl ?_
    exact k
  obtain ⟨T2, X2, e2, st2⟩ := initO X0 hx hZ hown (hw _ (List.mem_of_getElem? (i := 18) rfl)) (hw _ (List.mem_of_getElem? (i := 19) rfl)) (hw _ (List.mem_of_getElem? (i := 20) rfl)) e0 (g := (mkF m 1 #[.val (.ref a), .val (.ref p1), .val (.int p2), .val (.int p3), .val .null, .unset] [(.ref a)])) rfl (by rw [hml]; rfl) rfl (hb hby own_d3_1) (by decide) (W := 0) (by show 2 * 0 + _ ≤ _; exact Nat.le_of_eq rfl) (by decide)
  have k3 : ∀ t, Steps p.tables e below (T2.setTop (mkF m 4 #[.val (.ref a), .val (.ref p1), .val (.int p2), .val (.int p3), .val .null, .unset] [])) t → Steps p.tables e below (s₁.setTop (entryFrame m #[(.ref a), (.ref p1), (.int p2), (.int p3), .null] 6)) t := fun t k => k1 t (st2 t k)
  have k4 : ∀ t, Steps p.tables e below (T2.setTop (mkF m 27 #[.val (.ref a), .val (.ref p1), .val (.int p2), .val (.int p3), .val .null, .unset] [])) t → Steps p.tables e below (s₁.setTop (entryFrame m #[(.ref a), (.ref p1), (.int p2), (.int p3), .null] 6)) t := by
    intro t k
    refine k3 t ?_
    show Steps p.tables e below (T2.setTop (mkF m 4 #[.val (.ref a), .val (.ref p1), .val (.int p2), .val (.int p3), .val .null, .unset] [])) _
    refine XS.iloadN X2.here hx rfl (hb hby own_d3_4) rfl ?_
    show Steps p.tables e below (T2.setTop (mkF m 5 #[.val (.ref a), .val (.ref p1), .val (.int p2), .val (.int p3), .val .null, .unset] [(.int p3)])) _
    refine XS.ifYes X2.here hx rfl (pc0 := 5) (pc' := 27) rfl (hb hby own_d3_5) rfl ((if0 _ _).trans (feq (own_ne0 hp3 hn0)).2) (by decide) (by decide) ?_
    exact k
  obtain ⟨T5, X5, e5, st5⟩ := getS2 X2 hx hZ hown (host := "") (Or.inl (hw _ (List.mem_of_getElem? (i := 43) rfl))) Via.refl e2 (SC.ext Xo.2) (g := (mkF m 27 #[.val (.ref a), .val (.ref p1), .val (.int p2), .val (.int p3), .val .null, .unset] [])) rfl (hb hby own_d3_27)
  have k6 : ∀ t, Steps p.tables e below (T5.setTop (mkF m 30 #[.val (.ref a), .val (.ref p1), .val (.int p2), .val (.int p3), .val .null, .unset] [(.int cs)])) t → Steps p.tables e below (s₁.setTop (entryFrame m #[(.ref a), (.ref p1), (.int p2), (.int p3), .null] 6)) t := fun t k => k4 t (st5 t k)
  have k7 : ∀ t, Steps p.tables e below (T5.setTop (mkF m 36 #[.val (.ref a), .val (.ref p1), .val (.int p2), .val (.int p3), .val .null, .unset] [(.int p3), (.int p2), (.ref p1)])) t → Steps p.tables e below (s₁.setTop (entryFrame m #[(.ref a), (.ref p1), (.int p2), (.int p3), .null] 6)) t := by
    intro t k
    refine k6 t ?_
    show Steps p.tables e below (T5.setTop (mkF m 30 #[.val (.ref a), .val (.ref p1), .val (.int p2), .val (.int p3), .val .null, .unset] [(.int cs)])) _
    refine XS.ifNo X5.here hx rfl (hb hby own_d3_30) rfl ((if0 _ _).trans (feq hcs).1) ?_
    show Steps p.tables e below (T5.setTop (mkF m 33 #[.val (.ref a), .val (.ref p1), .val (.int p2), .val (.int p3), .val .null, .unset] [])) _
    refine XS.aloadN X5.here hx rfl (hb hby own_d3_33) rfl rfl ?_
    show Steps p.tables e below (T5.setTop (mkF m 34 #[.val (.ref a), .val (.ref p1), .val (.int p2), .val (.int p3), .val .null, .unset] [(.ref p1)])) _
    refine XS.iloadN X5.here hx rfl (hb hby own_d3_34) rfl ?_
    show Steps p.tables e below (T5.setTop (mkF m 35 #[.val (.ref a), .val (.ref p1), .val (.int p2), .val (.int p3), .val .null, .unset] [(.int p2), (.ref p1)])) _
    refine XS.iloadN X5.here hx rfl (hb hby own_d3_35) rfl ?_
    exact k
  obtain ⟨_, _, ⟨T8, L8, k8c, n8⟩, -, X8, ⟨Lc8, hQ8, l8, y8, z8⟩, st8⟩ := Jvm.LawKit.callS X5 hx (y := (⟨"java/lang/StringUTF16", "compress", "([CII)[B"⟩ : MethodName)) hown (mvT hZ (hw _ (List.mem_of_getElem? (i := 63) rfl))) (mvT hZ (hw _ (List.mem_of_getElem? (i := 64) rfl))) (mvT hZ (hw _ (List.mem_of_getElem? (i := 65) rfl))) (mvT hZ (hw _ (List.mem_of_getElem? (i := 66) rfl))) (by decide) (backOf (W := 0) (own_rmc4 l Z a0 hw [] p1 p2 p3 zc cf of_ nn h0 n0 Z0 P3 Xo hp2 hp3 SA SH SL (by omega) (by omega) (by omega) hch) hZ (hw _ (List.mem_of_getElem? (i := 66) rfl)) (hw _ (List.mem_of_getElem? (i := 65) rfl)) (by decide) (by decide)) (g := (mkF m 36 #[.val (.ref a), .val (.ref p1), .val (.int p2), .val (.int p3), .val .null, .unset] [(.int p3), (.int p2), (.ref p1)])) rfl (by rw [hml]; rfl) (argsL := [(.ref p1), (.int p2), (.int p3)]) (rest := []) (lenOf own_pd4 rfl) rfl (by show 2 * 0 + _ ≤ _; exact Nat.le_of_eq rfl) (hb hby own_d3_36) (fun _ _ => ⟨rfl, e5, (by decide : 0 + 2 ≤ _), (by decide : 0 + 12 ≤ _)⟩)
  dsimp only [Pt.U, Pt.locs, Pt.cells, Pt.slots] at X8 l8 y8 z8 st8 hQ8
  subst l8 y8 z8
  obtain ⟨rb_8, cd_8, rfl, N8q, Kq8, gz8_b, hq8_hB⟩ := hQ8
  have N8 := Fr.app N0 N8q
  have ge8_b : n0 ≤ rb_8 := Nat.le_trans Z0 gz8_b
  have bo8_b : h0.size ≤ rb_8 := Nat.le_trans (Keep.refl h0 [a]).1 gz8_b
  have ne9 : a ≠ rb_8 := Nat.ne_of_lt (Nat.lt_of_lt_of_le P0.lt gz8_b)
  have ne10 : p1 ≠ rb_8 := Nat.ne_of_lt (Nat.lt_of_lt_of_le P3.lt gz8_b)
  have f11 := P0.keep Kq8
  have f12 := P1.keep Kq8 List.not_mem_nil
  have f13 := P2.keep Kq8 List.not_mem_nil
  have f14 := P3.keep Kq8 List.not_mem_nil
  have Z8 : n0 ≤ T8.heap.size := Nat.le_trans Z0 Kq8.1
  have K8 : Keep h0 T8.heap [a] := (Keep.refl h0 [a]).trans Kq8 (fun x hx => nomatch hx)
  have Xo8 := Xo.keep Kq8 all0
  have k15 : ∀ t, Steps p.tables e below (T8.setTop (mkF m 39 #[.val (.ref a), .val (.ref p1), .val (.int p2), .val (.int p3), .val .null, .unset] [(.ref rb_8)])) t → Steps p.tables e below (s₁.setTop (entryFrame m #[(.ref a), (.ref p1), (.int p2), (.int p3), .null] 6)) t := fun t k => k7 t (st8 t k)
  rcases hq8_hB with ⟨hcd, hall, hGb⟩ | ⟨hcd, hall, hGb⟩
  · skip
    have k16 : ∀ t, Steps p.tables e below (T8.setTop (mkF m 45 #[.val (.ref a), .val (.ref p1), .val (.int p2), .val (.int p3), .val .null, .val (.ref rb_8)] [(.int p3), (.ref rb_8), (.ref a)])) t → Steps p.tables e below (s₁.setTop (entryFrame m #[(.ref a), (.ref p1), (.int p2), (.int p3), .null] 6)) t := by
      intro t k
      refine k15 t ?_
      show Steps p.tables e below (T8.setTop (mkF m 39 #[.val (.ref a), .val (.ref p1), .val (.int p2), .val (.int p3), .val .null, .unset] [(.ref rb_8)])) _
      refine XS.astore X8.here hx rfl (hb hby own_d3_39) rfl rfl (l' := #[.val (.ref a), .val (.ref p1), .val (.int p2), .val (.int p3), .val .null, .val (.ref rb_8)]) rfl ?_
      show Steps p.tables e below (T8.setTop (mkF m 41 #[.val (.ref a), .val (.ref p1), .val (.int p2), .val (.int p3), .val .null, .val (.ref rb_8)] [])) _
      refine XS.aloadN X8.here hx rfl (hb hby own_d3_41) rfl rfl ?_
      show Steps p.tables e below (T8.setTop (mkF m 42 #[.val (.ref a), .val (.ref p1), .val (.int p2), .val (.int p3), .val .null, .val (.ref rb_8)] [(.ref a)])) _
      refine XS.aload X8.here hx rfl (hb hby own_d3_42) rfl rfl ?_
      show Steps p.tables e below (T8.setTop (mkF m 44 #[.val (.ref a), .val (.ref p1), .val (.int p2), .val (.int p3), .val .null, .val (.ref rb_8)] [(.ref rb_8), (.ref a)])) _
      refine XS.iloadN X8.here hx rfl (hb hby own_d3_44) rfl ?_
      exact k
    obtain ⟨_, _, ⟨T17, L17, k17c, n17⟩, -, X17, ⟨Lc17, hQ17, l17, y17, z17⟩, st17⟩ := Jvm.LawKit.callS X8 hx (y := (⟨"java/lang/StringUTF16", "coderFromArrayLen", "([BI)B"⟩ : MethodName)) hown (mvT hZ (hw _ (List.mem_of_getElem? (i := 89) rfl))) (mvT hZ (hw _ (List.mem_of_getElem? (i := 90) rfl))) (mvT hZ (hw _ (List.mem_of_getElem? (i := 65) rfl))) (mvT hZ (hw _ (List.mem_of_getElem? (i := 91) rfl))) (by decide) (backOf (W := 1) (own_rmcl0 l Z a0 hw [] rb_8 p3 (own_b8 cf of_) nn T8.heap n0 Z8 hGb hp3 (by omega)) hZ (hw _ (List.mem_of_getElem? (i := 91) rfl)) (hw _ (List.mem_of_getElem? (i := 65) rfl)) (by decide) (by decide)) (g := (mkF m 45 #[.val (.ref a), .val (.ref p1), .val (.int p2), .val (.int p3), .val .null, .val (.ref rb_8)] [(.int p3), (.ref rb_8), (.ref a)])) rfl (by rw [hml]; rfl) (argsL := [(.ref rb_8), (.int p3)]) (rest := [(.ref a)]) (lenOf own_pd6 rfl) rfl (by show 2 * 0 + _ ≤ _; exact Nat.le_of_eq rfl) (hb hby own_d3_45) (fun _ _ => ⟨rfl, rfl, (by decide : 2 + 0 ≤ _), (by decide : 12 + 0 ≤ _)⟩)
    dsimp only [Pt.U, Pt.locs, Pt.cells, Pt.slots] at X17 l17 y17 z17 st17 hQ17
    subst l17 y17 z17
    obtain ⟨rfl, N17q, e17⟩ := hQ17
    have N17 := Fr.app N8 N17q
    have k18 : ∀ t, Steps p.tables e below (T17.setTop (mkF m 48 #[.val (.ref a), .val (.ref p1), .val (.int p2), .val (.int p3), .val .null, .val (.ref rb_8)] [(.int (0 : Int32)), (.ref a)])) t → Steps p.tables e below (s₁.setTop (entryFrame m #[(.ref a), (.ref p1), (.int p2), (.int p3), .null] 6)) t := fun t k => k16 t (st17 t k)
    obtain ⟨T19, h19, X19, e19, W19, st19⟩ := putFN X17 hx hZ hown (hw _ (List.mem_of_getElem? (i := 28) rfl)) Via.refl e17 f13 f11 (Or.inr ⟨(hw _ (List.mem_of_getElem? (i := 24) rfl)), rfl, hnm⟩) (hw _ (List.mem_of_getElem? (i := 9) rfl)) (ty := .byte) (v' := (.int (nar .byte (0 : Int32)))) (by decide) rfl (fits_nar_byte _) (g := (mkF m 48 #[.val (.ref a), .val (.ref p1), .val (.int p2), .val (.int p3), .val .null, .val (.ref rb_8)] [(.int (0 : Int32)), (.ref a)])) rfl rfl (hb hby own_d3_48)
    have f20 := f11.wr W19
    have f21 := f12.other W19 (Or.inr (slot_ne (Or.inr (hw _ (List.mem_of_getElem? (i := 23) rfl))) (Or.inr (hw _ (List.mem_of_getElem? (i := 24) rfl))) (by decide) (t := (.array .byte)) (t' := .byte) (by decide) (by decide)))
    have f22 := f14.other W19 ne_p1_a
    have f23 := hGb.other W19 (Ne.symm ne9)
    have f24 := f13.same W19
    have N19 := Fr.snoc X19 N17 ge_a
    have K19 : Keep h0 h19 [a] := K8.wr W19 (Or.inl (List.mem_of_getElem? (i := 0) rfl))
    have Z19 : n0 ≤ h19.size := Nat.le_trans Z8 (Keep.of_wr W19).1
    have Xo19 := Xo8.wr W19 ge_a
    have k25 : ∀ t, Steps p.tables e below (T19.setTop (mkF m 51 #[.val (.ref a), .val (.ref p1), .val (.int p2), .val (.int p3), .val .null, .val (.ref rb_8)] [])) t → Steps p.tables e below (s₁.setTop (entryFrame m #[(.ref a), (.ref p1), (.int p2), (.int p3), .null] 6)) t := fun t k => k18 t (st19 t k)
    have k26 : ∀ t, Steps p.tables e below (T19.setTop (mkF m 54 #[.val (.ref a), .val (.ref p1), .val (.int p2), .val (.int p3), .val .null, .val (.ref rb_8)] [(.ref rb_8), (.ref a)])) t → Steps p.tables e below (s₁.setTop (entryFrame m #[(.ref a), (.ref p1), (.int p2), (.int p3), .null] 6)) t := by
      intro t k
      refine k25 t ?_
      show Steps p.tables e below (T19.setTop (mkF m 51 #[.val (.ref a), .val (.ref p1), .val (.int p2), .val (.int p3), .val .null, .val (.ref rb_8)] [])) _
      refine XS.aloadN X19.here hx rfl (hb hby own_d3_51) rfl rfl ?_
      show Steps p.tables e below (T19.setTop (mkF m 52 #[.val (.ref a), .val (.ref p1), .val (.int p2), .val (.int p3), .val .null, .val (.ref rb_8)] [(.ref a)])) _
      refine XS.aload X19.here hx rfl (hb hby own_d3_52) rfl rfl ?_
      exact k
    obtain ⟨T27, h27, X27, e27, W27, st27⟩ := putF X19 hx hZ hown (host := "") (Or.inl (hw _ (List.mem_of_getElem? (i := 27) rfl))) Via.refl e19 f21 f20 (Or.inr ⟨(hw _ (List.mem_of_getElem? (i := 23) rfl)), rfl, hnm⟩) (hw _ (List.mem_of_getElem? (i := 9) rfl)) (ty := (.array .byte)) (by decide) rfl rfl (g := (mkF m 54 #[.val (.ref a), .val (.ref p1), .val (.int p2), .val (.int p3), .val .null, .val (.ref rb_8)] [(.ref rb_8), (.ref a)])) rfl rfl (hb hby own_d3_54)
    have f28 := f20.wr W27
    have f29 := f24.other W27 (Or.inr (slot_ne (Or.inr (hw _ (List.mem_of_getElem? (i := 24) rfl))) (Or.inr (hw _ (List.mem_of_getElem? (i := 23) rfl))) (by decide) (t := .byte) (t' := (.array .byte)) (by decide) (by decide)))
    have f30 := f22.other W27 ne_p1_a
    have f31 := f23.other W27 (Ne.symm ne9)
    have f32 := f21.same W27
    have N27 := Fr.snoc X27 N19 ge_a
    have K27 : Keep h0 h27 [a] := K19.wr W27 (Or.inl (List.mem_of_getElem? (i := 0) rfl))
    have Z27 : n0 ≤ h27.size := Nat.le_trans Z19 (Keep.of_wr W27).1
    have Xo27 := Xo19.wr W27 ge_a
    have k33 : ∀ t, Steps p.tables e below (T27.setTop (mkF m 57 #[.val (.ref a), .val (.ref p1), .val (.int p2), .val (.int p3), .val .null, .val (.ref rb_8)] [])) t → Steps p.tables e below (s₁.setTop (entryFrame m #[(.ref a), (.ref p1), (.int p2), (.int p3), .null] 6)) t := fun t k => k26 t (st27 t k)
    obtain ⟨fs, hr, hrun, hended, hW, hsame⟩ := X27.leave (v := none) (fun _ => rfl)
    refine ⟨_, _, k33 _ ?_, hrun, hended, _, _, rfl, ?_, ⟨_, rfl⟩, hW, hsame.mono (by decide) (by decide)⟩
    · exact X27.returnOut hx Bd.returns (hb hby own_d3_57) hr
    · show own_Qs2 Z a p1 p2 p3 u1 u2 zc cf of_ nn cs h0 n0 _ T27.heap _
      rw [e27]
      exact ⟨rfl, N27, K27, ⟨f28, hn, hch, rb_8, (0 : Int32), f32, f29, Or.inl ⟨rfl, hall, f31⟩⟩⟩
  · skip
    have k34 : ∀ t, Steps p.tables e below (T8.setTop (mkF m 45 #[.val (.ref a), .val (.ref p1), .val (.int p2), .val (.int p3), .val .null, .val (.ref rb_8)] [(.int p3), (.ref rb_8), (.ref a)])) t → Steps p.tables e below (s₁.setTop (entryFrame m #[(.ref a), (.ref p1), (.int p2), (.int p3), .null] 6)) t := by
      intro t k
      refine k15 t ?_
      show Steps p.tables e below (T8.setTop (mkF m 39 #[.val (.ref a), .val (.ref p1), .val (.int p2), .val (.int p3), .val .null, .unset] [(.ref rb_8)])) _
      refine XS.astore X8.here hx rfl (hb hby own_d3_39) rfl rfl (l' := #[.val (.ref a), .val (.ref p1), .val (.int p2), .val (.int p3), .val .null, .val (.ref rb_8)]) rfl ?_
      show Steps p.tables e below (T8.setTop (mkF m 41 #[.val (.ref a), .val (.ref p1), .val (.int p2), .val (.int p3), .val .null, .val (.ref rb_8)] [])) _
      refine XS.aloadN X8.here hx rfl (hb hby own_d3_41) rfl rfl ?_
      show Steps p.tables e below (T8.setTop (mkF m 42 #[.val (.ref a), .val (.ref p1), .val (.int p2), .val (.int p3), .val .null, .val (.ref rb_8)] [(.ref a)])) _
      refine XS.aload X8.here hx rfl (hb hby own_d3_42) rfl rfl ?_
      show Steps p.tables e below (T8.setTop (mkF m 44 #[.val (.ref a), .val (.ref p1), .val (.int p2), .val (.int p3), .val .null, .val (.ref rb_8)] [(.ref rb_8), (.ref a)])) _
      refine XS.iloadN X8.here hx rfl (hb hby own_d3_44) rfl ?_
      exact k
    obtain ⟨_, _, ⟨T35, L35, k35c, n35⟩, -, X35, ⟨Lc35, hQ35, l35, y35, z35⟩, st35⟩ := Jvm.LawKit.callS X8 hx (y := (⟨"java/lang/StringUTF16", "coderFromArrayLen", "([BI)B"⟩ : MethodName)) hown (mvT hZ (hw _ (List.mem_of_getElem? (i := 89) rfl))) (mvT hZ (hw _ (List.mem_of_getElem? (i := 90) rfl))) (mvT hZ (hw _ (List.mem_of_getElem? (i := 65) rfl))) (mvT hZ (hw _ (List.mem_of_getElem? (i := 91) rfl))) (by decide) (backOf (W := 1) (own_rmcl1 l Z a0 hw [] rb_8 p3 (own_u16 cf of_) nn T8.heap n0 Z8 hGb hp3 (by omega) (by omega)) hZ (hw _ (List.mem_of_getElem? (i := 91) rfl)) (hw _ (List.mem_of_getElem? (i := 65) rfl)) (by decide) (by decide)) (g := (mkF m 45 #[.val (.ref a), .val (.ref p1), .val (.int p2), .val (.int p3), .val .null, .val (.ref rb_8)] [(.int p3), (.ref rb_8), (.ref a)])) rfl (by rw [hml]; rfl) (argsL := [(.ref rb_8), (.int p3)]) (rest := [(.ref a)]) (lenOf own_pd6 rfl) rfl (by show 2 * 0 + _ ≤ _; exact Nat.le_of_eq rfl) (hb hby own_d3_45) (fun _ _ => ⟨rfl, rfl, (by decide : 2 + 0 ≤ _), (by decide : 12 + 0 ≤ _)⟩)
    dsimp only [Pt.U, Pt.locs, Pt.cells, Pt.slots] at X35 l35 y35 z35 st35 hQ35
    subst l35 y35 z35
    obtain ⟨rfl, N35q, e35⟩ := hQ35
    have N35 := Fr.app N8 N35q
    have k36 : ∀ t, Steps p.tables e below (T35.setTop (mkF m 48 #[.val (.ref a), .val (.ref p1), .val (.int p2), .val (.int p3), .val .null, .val (.ref rb_8)] [(.int (1 : Int32)), (.ref a)])) t → Steps p.tables e below (s₁.setTop (entryFrame m #[(.ref a), (.ref p1), (.int p2), (.int p3), .null] 6)) t := fun t k => k34 t (st35 t k)
    obtain ⟨T37, h37, X37, e37, W37, st37⟩ := putFN X35 hx hZ hown (hw _ (List.mem_of_getElem? (i := 28) rfl)) Via.refl e35 f13 f11 (Or.inr ⟨(hw _ (List.mem_of_getElem? (i := 24) rfl)), rfl, hnm⟩) (hw _ (List.mem_of_getElem? (i := 9) rfl)) (ty := .byte) (v' := (.int (nar .byte (1 : Int32)))) (by decide) rfl (fits_nar_byte _) (g := (mkF m 48 #[.val (.ref a), .val (.ref p1), .val (.int p2), .val (.int p3), .val .null, .val (.ref rb_8)] [(.int (1 : Int32)), (.ref a)])) rfl rfl (hb hby own_d3_48)
    have f38 := f11.wr W37
    have f39 := f12.other W37 (Or.inr (slot_ne (Or.inr (hw _ (List.mem_of_getElem? (i := 23) rfl))) (Or.inr (hw _ (List.mem_of_getElem? (i := 24) rfl))) (by decide) (t := (.array .byte)) (t' := .byte) (by decide) (by decide)))
    have f40 := f14.other W37 ne_p1_a
    have f41 := hGb.other W37 (Ne.symm ne9)
    have f42 := f13.same W37
    have N37 := Fr.snoc X37 N35 ge_a
    have K37 : Keep h0 h37 [a] := K8.wr W37 (Or.inl (List.mem_of_getElem? (i := 0) rfl))
    have Z37 : n0 ≤ h37.size := Nat.le_trans Z8 (Keep.of_wr W37).1
    have Xo37 := Xo8.wr W37 ge_a
    have k43 : ∀ t, Steps p.tables e below (T37.setTop (mkF m 51 #[.val (.ref a), .val (.ref p1), .val (.int p2), .val (.int p3), .val .null, .val (.ref rb_8)] [])) t → Steps p.tables e below (s₁.setTop (entryFrame m #[(.ref a), (.ref p1), (.int p2), (.int p3), .null] 6)) t := fun t k => k36 t (st37 t k)
    have k44 : ∀ t, Steps p.tables e below (T37.setTop (mkF m 54 #[.val (.ref a), .val (.ref p1), .val (.int p2), .val (.int p3), .val .null, .val (.ref rb_8)] [(.ref rb_8), (.ref a)])) t → Steps p.tables e below (s₁.setTop (entryFrame m #[(.ref a), (.ref p1), (.int p2), (.int p3), .null] 6)) t := by
      intro t k
      refine k43 t ?_
      show Steps p.tables e below (T37.setTop (mkF m 51 #[.val (.ref a), .val (.ref p1), .val (.int p2), .val (.int p3), .val .null, .val (.ref rb_8)] [])) _
      refine XS.aloadN X37.here hx rfl (hb hby own_d3_51) rfl rfl ?_
      show Steps p.tables e below (T37.setTop (mkF m 52 #[.val (.ref a), .val (.ref p1), .val (.int p2), .val (.int p3), .val .null, .val (.ref rb_8)] [(.ref a)])) _
      refine XS.aload X37.here hx rfl (hb hby own_d3_52) rfl rfl ?_
      exact k
    obtain ⟨T45, h45, X45, e45, W45, st45⟩ := putF X37 hx hZ hown (host := "") (Or.inl (hw _ (List.mem_of_getElem? (i := 27) rfl))) Via.refl e37 f39 f38 (Or.inr ⟨(hw _ (List.mem_of_getElem? (i := 23) rfl)), rfl, hnm⟩) (hw _ (List.mem_of_getElem? (i := 9) rfl)) (ty := (.array .byte)) (by decide) rfl rfl (g := (mkF m 54 #[.val (.ref a), .val (.ref p1), .val (.int p2), .val (.int p3), .val .null, .val (.ref rb_8)] [(.ref rb_8), (.ref a)])) rfl rfl (hb hby own_d3_54)
    have f46 := f38.wr W45
    have f47 := f42.other W45 (Or.inr (slot_ne (Or.inr (hw _ (List.mem_of_getElem? (i := 24) rfl))) (Or.inr (hw _ (List.mem_of_getElem? (i := 23) rfl))) (by decide) (t := .byte) (t' := (.array .byte)) (by decide) (by decide)))
    have f48 := f40.other W45 ne_p1_a
    have f49 := f41.other W45 (Ne.symm ne9)
    have f50 := f39.same W45
    have N45 := Fr.snoc X45 N37 ge_a
    have K45 : Keep h0 h45 [a] := K37.wr W45 (Or.inl (List.mem_of_getElem? (i := 0) rfl))
    have Z45 : n0 ≤ h45.size := Nat.le_trans Z37 (Keep.of_wr W45).1
    have Xo45 := Xo37.wr W45 ge_a
    have k51 : ∀ t, Steps p.tables e below (T45.setTop (mkF m 57 #[.val (.ref a), .val (.ref p1), .val (.int p2), .val (.int p3), .val .null, .val (.ref rb_8)] [])) t → Steps p.tables e below (s₁.setTop (entryFrame m #[(.ref a), (.ref p1), (.int p2), (.int p3), .null] 6)) t := fun t k => k44 t (st45 t k)
    obtain ⟨fs, hr, hrun, hended, hW, hsame⟩ := X45.leave (v := none) (fun _ => rfl)
    refine ⟨_, _, k51 _ ?_, hrun, hended, _, _, rfl, ?_, ⟨_, rfl⟩, hW, hsame.mono (by decide) (by decide)⟩
    · exact X45.returnOut hx Bd.returns (hb hby own_d3_57) hr
    · show own_Qs2 Z a p1 p2 p3 u1 u2 zc cf of_ nn cs h0 n0 _ T45.heap _
      rw [e45]
      exact ⟨rfl, N45, K45, ⟨f46, hn, hch, rb_8, (1 : Int32), f50, f47, Or.inr ⟨rfl, hall, f49⟩⟩⟩
theorem own_d3_8 : decode jdk_42_method_149_code 8 = .ok (.aload_n 0, 1) := by decide +kernel
theorem own_d3_9 : decode jdk_42_method_149_code 9 = .ok (.ldc 7, 2) := by decide +kernel
theorem own_d3_11 : decode jdk_42_method_149_code 11 = .ok (.getfield 9, 3) := by decide +kernel
theorem own_d3_14 : decode jdk_42_method_149_code 14 = .ok (.putfield 9, 3) := by decide +kernel
theorem own_d3_17 : decode jdk_42_method_149_code 17 = .ok (.aload_n 0, 1) := by decide +kernel
theorem own_d3_18 : decode jdk_42_method_149_code 18 = .ok (.ldc 7, 2) := by decide +kernel
theorem own_d3_20 : decode jdk_42_method_149_code 20 = .ok (.getfield 15, 3) := by decide +kernel
theorem own_d3_23 : decode jdk_42_method_149_code 23 = .ok (.putfield 15, 3) := by decide +kernel
theorem own_d3_26 : decode jdk_42_method_149_code 26 = .ok (.return_, 1) := by decide +kernel
theorem own_efs2w (m : MethodId) (x0 : Addr) (x1 : Addr) (x2 : Int32) (x3 : Int32) : entryFrame m #[(.ref x0), (.ref x1), (.int x2), (.int x3), .null] 6 = mkF m 0 #[.val (.ref x0), .val (.ref x1), .val (.int x2), .val (.int x3), .val .null, .unset] [] := by first | (simp [entryFrame, mkF, argsToLocals, Value.category]; done) | rfl
def own_Qs2w (Z : State) (a : Addr) (p1 : Addr) (p2 : Int32) (p3 : Int32) (u2 : Value) (cf : Nat → Int32) (of_ : Nat) (h0 : Heap) (n0 : Nat) (v : Option Value) (h : Heap) (L : List Loc) : Prop := v = none ∧ Fr n0 L ∧ Keep h0 h [a] ∧ own_Str Z h a 0 of_ cf
def own_Rs2w : Room := { frames := 1, cells := 2, slots := 4, locals := 12 }
set_option maxRecDepth 65536 in
set_option maxHeartbeats 40000000 in
theorem own_rms2w (l : Launch) (Z : State) (a0 : Array Value) (hw : ∀ d ∈ tables_1, d.before a0 Z = true) (ws : List Jvm.Cond) (a : Addr) (p1 : Addr) (p2 : Int32) (p3 : Int32) (u2 : Value) (cf : Nat → Int32) (of_ : Nat) (h0 : Heap) (n0 : Nat) (Z0 : n0 ≤ h0.size) (P0 : Exa Z h0 a "java/lang/String") (P1 : Fld Z h0 a "java/lang/String" "value" "[B" .null) (P2 : Fld Z h0 a "java/lang/String" "coder" "B" u2) (ge_a : n0 ≤ a) (hp3 : p3 = (0 : Int32)) :
    MetFree l (⟨"java/lang/String", "<init>", "([CIILjava/lang/Void;)V"⟩ : MethodName) (head1 (Jvm.Cond.code (⟨"java/lang/String", "<init>", "([CIILjava/lang/Void;)V"⟩ : MethodName) jdk_42_method_149_code 6 none :: ws) own_Rs2w) (fun aa U => aa = #[(.ref a), (.ref p1), (.int p2), (.int p3), .null] ∧ Z.Warmed39 U.vm ∧ U.heap = h0 ∧ CHv Z own_EL U.vm h0) (fun _ _ _ _ _ => True) (fun _ U o U' => ∃ v L, o = .returned v ∧ own_Qs2w Z a p1 p2 p3 u2 cf of_ h0 n0 v U'.heap L ∧ ReturnedEndW U o U' L own_Rs2w.cells own_Rs2w.slots) := by
  refine MetFree.of_bodySF (plainFor_of_name own_pn1) hisR ?_
  intro p e s m args below meth c s₁ Bd hml0 hP hK
  obtain ⟨rfl, hZ, hh, hH0⟩ := hP
  have hx := Bd.exec
  have hby := Bd.bytes
  have hml : c.maxLocals = 6 := hml0
  have hown : s.vm.findClass "java/lang/String" = some m.cls := findClass_of_methodNamed Bd.named
  have hnm := (name_of_methodNamed Bd.named Bd.method).1
  have X0 : Stand p l e own_Rs2w s m #[(.ref a), (.ref p1), (.int p2), (.int p3), .null] below meth c s₁ [] 0 0 := Stand.of_body Bd
  have e0 : s₁.heap = h0 := by rw [← hh, Bd.state]; rfl
  have N0 := Fr.nil n0
  have pre0 : ∀ t, Steps p.tables e below (s₁.setTop (mkF m 0 #[.val (.ref a), .val (.ref p1), .val (.int p2), .val (.int p3), .val .null, .unset] [])) t → Steps p.tables e below (s₁.setTop (entryFrame m #[(.ref a), (.ref p1), (.int p2), (.int p3), .null] 6)) t := fun t k => castTop (own_efs2w m a p1 p2 p3) k
  have k1 : ∀ t, Steps p.tables e below (s₁.setTop (mkF m 1 #[.val (.ref a), .val (.ref p1), .val (.int p2), .val (.int p3), .val .null, .unset] [(.ref a)])) t → Steps p.tables e below (s₁.setTop (entryFrame m #[(.ref a), (.ref p1), (.int p2), (.int p3), .null] 6)) t := by
    intro t k
    refine pre0 t ?_
    show Steps p.tables e below (s₁.setTop (mkF m 0 #[.val (.ref a), .val (.ref p1), .val (.int p2), .val (.int p3), .val .null, .unset] [])) _
    refine XS.aloadN X0.here hx rfl (hb hby own_d3_0) rfl rfl ?_
    exact k
  obtain ⟨T2, X2, e2, st2⟩ := initO X0 hx hZ hown (hw _ (List.mem_of_getElem? (i := 18) rfl)) (hw _ (List.mem_of_getElem? (i := 19) rfl)) (hw _ (List.mem_of_getElem? (i := 20) rfl)) e0 (g := (mkF m 1 #[.val (.ref a), .val (.ref p1), .val (.int p2), .val (.int p3), .val .null, .unset] [(.ref a)])) rfl (by rw [hml]; rfl) rfl (hb hby own_d3_1) (by decide) (W := 0) (by show 2 * 0 + _ ≤ _; exact Nat.le_of_eq rfl) (by decide)
  have k3 : ∀ t, Steps p.tables e below (T2.setTop (mkF m 4 #[.val (.ref a), .val (.ref p1), .val (.int p2), .val (.int p3), .val .null, .unset] [])) t → Steps p.tables e below (s₁.setTop (entryFrame m #[(.ref a), (.ref p1), (.int p2), (.int p3), .null] 6)) t := fun t k => k1 t (st2 t k)
  have k4 : ∀ t, Steps p.tables e below (T2.setTop (mkF m 9 #[.val (.ref a), .val (.ref p1), .val (.int p2), .val (.int p3), .val .null, .unset] [(.ref a)])) t → Steps p.tables e below (s₁.setTop (entryFrame m #[(.ref a), (.ref p1), (.int p2), (.int p3), .null] 6)) t := by
    intro t k
    refine k3 t ?_
    show Steps p.tables e below (T2.setTop (mkF m 4 #[.val (.ref a), .val (.ref p1), .val (.int p2), .val (.int p3), .val .null, .unset] [])) _
    refine XS.iloadN X2.here hx rfl (hb hby own_d3_4) rfl ?_
    show Steps p.tables e below (T2.setTop (mkF m 5 #[.val (.ref a), .val (.ref p1), .val (.int p2), .val (.int p3), .val .null, .unset] [(.int p3)])) _
    refine XS.ifNo X2.here hx rfl (hb hby own_d3_5) rfl ((if0 _ _).trans (teq hp3).2) ?_
    show Steps p.tables e below (T2.setTop (mkF m 8 #[.val (.ref a), .val (.ref p1), .val (.int p2), .val (.int p3), .val .null, .unset] [])) _
    refine XS.aloadN X2.here hx rfl (hb hby own_d3_8) rfl rfl ?_
    exact k
  obtain ⟨lt5, T5, h5, lb5, k15, X5, e5, E5, Si5, hk5, hZ, hown, Ea5, Fc5, Fv5, Gb5, Li5, nb5, st5⟩ := own_ldcE X2 hx hZ hown hw e2 hH0 (g := (mkF m 9 #[.val (.ref a), .val (.ref p1), .val (.int p2), .val (.int p3), .val .null, .unset] [(.ref a)])) rfl (hb hby own_d3_9) (by decide) (by decide)
  have f6 := P0.ext E5
  have f7 := P1.ext E5
  have f8 := P2.ext E5
  have Z5 : n0 ≤ h5.size := Nat.le_trans Z0 E5.1
  have K5 : Keep h0 h5 [a] := (Keep.refl h0 [a]).ext E5
  have nl5 : a ≠ lt5 := fun q => by subst q; have z := own_fld1 f7 Fv5; cases z
  have nc5 : a ≠ lb5 := nb5 _ f6
  have k9 : ∀ t, Steps p.tables e below (T5.setTop (mkF m 11 #[.val (.ref a), .val (.ref p1), .val (.int p2), .val (.int p3), .val .null, .unset] [(.ref lt5), (.ref a)])) t → Steps p.tables e below (s₁.setTop (entryFrame m #[(.ref a), (.ref p1), (.int p2), (.int p3), .null] 6)) t := fun t k => k4 t (st5 t k)
  obtain ⟨T10, X10, e10, st10⟩ := getF X5 hx hZ hown (host := "") (Or.inl (hw _ (List.mem_of_getElem? (i := 27) rfl))) Via.refl e5 Fv5 (g := (mkF m 11 #[.val (.ref a), .val (.ref p1), .val (.int p2), .val (.int p3), .val .null, .unset] [(.ref lt5), (.ref a)])) rfl rfl (hb hby own_d3_11)
  have k11 : ∀ t, Steps p.tables e below (T10.setTop (mkF m 14 #[.val (.ref a), .val (.ref p1), .val (.int p2), .val (.int p3), .val .null, .unset] [(.ref lb5), (.ref a)])) t → Steps p.tables e below (s₁.setTop (entryFrame m #[(.ref a), (.ref p1), (.int p2), (.int p3), .null] 6)) t := fun t k => k9 t (st10 t k)
  obtain ⟨T12, h12, X12, e12, W12, st12⟩ := putF X10 hx hZ hown (host := "") (Or.inl (hw _ (List.mem_of_getElem? (i := 27) rfl))) Via.refl e10 f7 f6 (Or.inr ⟨(hw _ (List.mem_of_getElem? (i := 23) rfl)), rfl, hnm⟩) (hw _ (List.mem_of_getElem? (i := 9) rfl)) (ty := (.array .byte)) (by decide) rfl rfl (g := (mkF m 14 #[.val (.ref a), .val (.ref p1), .val (.int p2), .val (.int p3), .val .null, .unset] [(.ref lb5), (.ref a)])) rfl rfl (hb hby own_d3_14)
  have f13 := f6.wr W12
  have f14 := f8.other W12 (Or.inr (slot_ne (Or.inr (hw _ (List.mem_of_getElem? (i := 24) rfl))) (Or.inr (hw _ (List.mem_of_getElem? (i := 23) rfl))) (by decide) (t := .byte) (t' := (.array .byte)) (by decide) (by decide)))
  have f15 := Ea5.wr W12
  have f16 := Fc5.other W12 (Or.inl (Ne.symm nl5))
  have f17 := Fv5.other W12 (Or.inl (Ne.symm nl5))
  have f18 := Gb5.other W12 (Ne.symm nc5)
  have f19 := f7.same W12
  have N12 := Fr.snoc X12 N0 ge_a
  have K12 : Keep h0 h12 [a] := K5.wr W12 (Or.inl (List.mem_of_getElem? (i := 0) rfl))
  have Z12 : n0 ≤ h12.size := Nat.le_trans Z5 (Keep.of_wr W12).1
  have k20 : ∀ t, Steps p.tables e below (T12.setTop (mkF m 17 #[.val (.ref a), .val (.ref p1), .val (.int p2), .val (.int p3), .val .null, .unset] [])) t → Steps p.tables e below (s₁.setTop (entryFrame m #[(.ref a), (.ref p1), (.int p2), (.int p3), .null] 6)) t := fun t k => k11 t (st12 t k)
  have k21 : ∀ t, Steps p.tables e below (T12.setTop (mkF m 18 #[.val (.ref a), .val (.ref p1), .val (.int p2), .val (.int p3), .val .null, .unset] [(.ref a)])) t → Steps p.tables e below (s₁.setTop (entryFrame m #[(.ref a), (.ref p1), (.int p2), (.int p3), .null] 6)) t := by
    intro t k
    refine k20 t ?_
    show Steps p.tables e below (T12.setTop (mkF m 17 #[.val (.ref a), .val (.ref p1), .val (.int p2), .val (.int p3), .val .null, .unset] [])) _
    refine XS.aloadN X12.here hx rfl (hb hby own_d3_17) rfl rfl ?_
    exact k
  have st22 := ldcAgain (s := s) (Z := Z) X12 hx hZ hown (hw _ (List.mem_of_getElem? (i := 21) rfl)) Li5 (g := (mkF m 18 #[.val (.ref a), .val (.ref p1), .val (.int p2), .val (.int p3), .val .null, .unset] [(.ref a)])) rfl (hb hby own_d3_18)
  have k23 : ∀ t, Steps p.tables e below (T12.setTop (mkF m 20 #[.val (.ref a), .val (.ref p1), .val (.int p2), .val (.int p3), .val .null, .unset] [(.ref lt5), (.ref a)])) t → Steps p.tables e below (s₁.setTop (entryFrame m #[(.ref a), (.ref p1), (.int p2), (.int p3), .null] 6)) t := fun t k => k21 t (st22 t k)
  obtain ⟨T24, X24, e24, st24⟩ := getF X12 hx hZ hown (host := "") (Or.inl (hw _ (List.mem_of_getElem? (i := 28) rfl))) Via.refl e12 f16 (g := (mkF m 20 #[.val (.ref a), .val (.ref p1), .val (.int p2), .val (.int p3), .val .null, .unset] [(.ref lt5), (.ref a)])) rfl rfl (hb hby own_d3_20)
  have k25 : ∀ t, Steps p.tables e below (T24.setTop (mkF m 23 #[.val (.ref a), .val (.ref p1), .val (.int p2), .val (.int p3), .val .null, .unset] [(.int (0 : Int32)), (.ref a)])) t → Steps p.tables e below (s₁.setTop (entryFrame m #[(.ref a), (.ref p1), (.int p2), (.int p3), .null] 6)) t := fun t k => k23 t (st24 t k)
  obtain ⟨T26, h26, X26, e26, W26, st26⟩ := putFN X24 hx hZ hown (hw _ (List.mem_of_getElem? (i := 28) rfl)) Via.refl e24 f14 f13 (Or.inr ⟨(hw _ (List.mem_of_getElem? (i := 24) rfl)), rfl, hnm⟩) (hw _ (List.mem_of_getElem? (i := 9) rfl)) (ty := .byte) (v' := (.int (nar .byte (0 : Int32)))) (by decide) rfl (fits_nar_byte _) (g := (mkF m 23 #[.val (.ref a), .val (.ref p1), .val (.int p2), .val (.int p3), .val .null, .unset] [(.int (0 : Int32)), (.ref a)])) rfl rfl (hb hby own_d3_23)
  have f27 := f13.wr W26
  have f28 := f19.other W26 (Or.inr (slot_ne (Or.inr (hw _ (List.mem_of_getElem? (i := 23) rfl))) (Or.inr (hw _ (List.mem_of_getElem? (i := 24) rfl))) (by decide) (t := (.array .byte)) (t' := .byte) (by decide) (by decide)))
  have f29 := f15.wr W26
  have f30 := f16.other W26 (Or.inl (Ne.symm nl5))
  have f31 := f17.other W26 (Or.inl (Ne.symm nl5))
  have f32 := f18.other W26 (Ne.symm nc5)
  have f33 := f14.same W26
  have N26 := Fr.snoc X26 N12 ge_a
  have K26 : Keep h0 h26 [a] := K12.wr W26 (Or.inl (List.mem_of_getElem? (i := 0) rfl))
  have Z26 : n0 ≤ h26.size := Nat.le_trans Z12 (Keep.of_wr W26).1
  have k34 : ∀ t, Steps p.tables e below (T26.setTop (mkF m 26 #[.val (.ref a), .val (.ref p1), .val (.int p2), .val (.int p3), .val .null, .unset] [])) t → Steps p.tables e below (s₁.setTop (entryFrame m #[(.ref a), (.ref p1), (.int p2), (.int p3), .null] 6)) t := fun t k => k25 t (st26 t k)
  obtain ⟨fs, hr, hrun, hended, hE⟩ := Stand.leaveW (s := s) X26 Si5 (by rw [e26]; exact Nat.le_trans (Nat.le_trans (Nat.le_trans (Nat.le_refl _) (hk5)) ((Keep.of_wr W12).1)) ((Keep.of_wr W26).1)) (v := none) (fun _ => rfl)
  refine ⟨_, _, k34 _ ?_, hrun, hended, _, _, rfl, ?_, ⟨_, rfl⟩, hE.2.1, hE.2.2.1, hE.2.2.2.mono (by decide) (by decide)⟩
  · exact X26.returnOut hx Bd.returns (hb hby own_d3_26) hr
  · show own_Qs2w Z a p1 p2 p3 u2 cf of_ h0 n0 _ T26.heap _
    rw [e26]
    exact ⟨rfl, N26, K26, ⟨f27, Nat.zero_le _, fun i hi => absurd hi (Nat.not_lt_zero i), lb5, (0 : Int32), f28, f33, Or.inl ⟨rfl, fun i hi => absurd hi (Nat.not_lt_zero i), f32.congr (fun i hi => absurd hi (Nat.not_lt_zero i))⟩⟩⟩
theorem own_d2_0 : decode jdk_42_method_3_code 0 = .ok (.aload_n 0, 1) := by decide +kernel
theorem own_d2_1 : decode jdk_42_method_3_code 1 = .ok (.aload_n 1, 1) := by decide +kernel
theorem own_d2_2 : decode jdk_42_method_3_code 2 = .ok (.iconst 0, 1) := by decide +kernel
theorem own_d2_3 : decode jdk_42_method_3_code 3 = .ok (.aload_n 1, 1) := by decide +kernel
theorem own_d2_4 : decode jdk_42_method_3_code 4 = .ok (.arraylength, 1) := by decide +kernel
theorem own_d2_5 : decode jdk_42_method_3_code 5 = .ok (.aconst_null, 1) := by decide +kernel
theorem own_d2_6 : decode jdk_42_method_3_code 6 = .ok (.invokespecial 27, 3) := by decide +kernel
theorem own_d2_9 : decode jdk_42_method_3_code 9 = .ok (.return_, 1) := by decide +kernel
theorem own_pd7 : parseMethodDescriptor "([CIILjava/lang/Void;)V" = some ⟨[(.array .char), .int, .int, (.object "java/lang/Void")], none⟩ := by decide +kernel
theorem own_efs1 (m : MethodId) (x0 : Addr) (x1 : Addr) : entryFrame m #[(.ref x0), (.ref x1)] 2 = mkF m 0 #[.val (.ref x0), .val (.ref x1)] [] := by first | (simp [entryFrame, mkF, argsToLocals, Value.category]; done) | rfl
def own_Qs1 (Z : State) (a : Addr) (p1 : Addr) (u1 : Value) (u2 : Value) (zc : Nat) (cf : Nat → Int32) (cs : Int32) (h0 : Heap) (n0 : Nat) (v : Option Value) (h : Heap) (L : List Loc) : Prop := v = none ∧ Fr n0 L ∧ Keep h0 h [a] ∧ own_Str Z h a zc 0 cf
def own_Rs1 : Room := { frames := 5, cells := 2, slots := 12, locals := 74 }
set_option maxRecDepth 65536 in
set_option maxHeartbeats 40000000 in
theorem own_rms1 (l : Launch) (Z : State) (a0 : Array Value) (hw : ∀ d ∈ tables_1, d.before a0 Z = true) (ws : List Jvm.Cond) (a : Addr) (p1 : Addr) (u1 : Value) (u2 : Value) (zc : Nat) (cf : Nat → Int32) (cs : Int32) (h0 : Heap) (n0 : Nat) (Z0 : n0 ≤ h0.size) (P0 : Exa Z h0 a "java/lang/String") (P1 : Fld Z h0 a "java/lang/String" "value" "[B" u1) (P2 : Fld Z h0 a "java/lang/String" "coder" "B" u2) (P3 : own_G Z h0 p1 .char zc cf) (ge_a : n0 ≤ a) (ne_p1_a : p1 ≠ a) (Xo : Old Z n0 h0) (SC : Sta Z Z.heap "java/lang/String" "COMPACT_STRINGS" "Z" (.int cs)) (SA : Sta Z Z.heap "java/lang/StringUTF16" "$assertionsDisabled" "Z" (.int (1 : Int32))) (SH : Sta Z Z.heap "java/lang/StringUTF16" "HI_BYTE_SHIFT" "I" (.int (0 : Int32))) (SL : Sta Z Z.heap "java/lang/StringUTF16" "LO_BYTE_SHIFT" "I" (.int (8 : Int32))) (hcs : ¬ (cs = (0 : Int32))) (hn : zc ≤ 4) (hn0 : 0 < zc) (hch : ∀ i, i < zc → own_ch (cf (0 + i))) :
    MetFree l (⟨"java/lang/String", "<init>", "([C)V"⟩ : MethodName) (head1 (Jvm.Cond.code (⟨"java/lang/String", "<init>", "([C)V"⟩ : MethodName) jdk_42_method_3_code 2 none :: ws) own_Rs1) (fun aa U => aa = #[(.ref a), (.ref p1)] ∧ Z.Warmed39 U.vm ∧ U.heap = h0) (fun _ _ _ _ _ => True) (fun _ U o U' => ∃ v L, o = .returned v ∧ own_Qs1 Z a p1 u1 u2 zc cf cs h0 n0 v U'.heap L ∧ FrameEnd U o U' L own_Rs1.cells own_Rs1.slots) := by
  refine MetFree.of_bodySF (plainFor_of_name own_pn1) hisR ?_
  intro p e s m args below meth c s₁ Bd hml0 hP hK
  obtain ⟨rfl, hZ, hh⟩ := hP
  have hx := Bd.exec
  have hby := Bd.bytes
  have hml : c.maxLocals = 2 := hml0
  have hown : s.vm.findClass "java/lang/String" = some m.cls := findClass_of_methodNamed Bd.named
  have hnm := (name_of_methodNamed Bd.named Bd.method).1
  have X0 : Stand p l e own_Rs1 s m #[(.ref a), (.ref p1)] below meth c s₁ [] 0 0 := Stand.of_body Bd
  have e0 : s₁.heap = h0 := by rw [← hh, Bd.state]; rfl
  have N0 := Fr.nil n0
  have pre0 : ∀ t, Steps p.tables e below (s₁.setTop (mkF m 0 #[.val (.ref a), .val (.ref p1)] [])) t → Steps p.tables e below (s₁.setTop (entryFrame m #[(.ref a), (.ref p1)] 2)) t := fun t k => castTop (own_efs1 m a p1) k
  have k1 : ∀ t, Steps p.tables e below (s₁.setTop (mkF m 6 #[.val (.ref a), .val (.ref p1)] [.null, (.int (Nat.toInt32 zc)), (.int (0 : Int32)), (.ref p1), (.ref a)])) t → Steps p.tables e below (s₁.setTop (entryFrame m #[(.ref a), (.ref p1)] 2)) t := by
    intro t k
    refine pre0 t ?_
    show Steps p.tables e below (s₁.setTop (mkF m 0 #[.val (.ref a), .val (.ref p1)] [])) _
    refine XS.aloadN X0.here hx rfl (hb hby own_d2_0) rfl rfl ?_
    show Steps p.tables e below (s₁.setTop (mkF m 1 #[.val (.ref a), .val (.ref p1)] [(.ref a)])) _
    refine XS.aloadN X0.here hx rfl (hb hby own_d2_1) rfl rfl ?_
    show Steps p.tables e below (s₁.setTop (mkF m 2 #[.val (.ref a), .val (.ref p1)] [(.ref p1), (.ref a)])) _
    refine XS.iconst X0.here hx rfl (hb hby own_d2_2) ?_
    show Steps p.tables e below (s₁.setTop (mkF m 3 #[.val (.ref a), .val (.ref p1)] [(.int (0 : Int32)), (.ref p1), (.ref a)])) _
    refine XS.aloadN X0.here hx rfl (hb hby own_d2_3) rfl rfl ?_
    show Steps p.tables e below (s₁.setTop (mkF m 4 #[.val (.ref a), .val (.ref p1)] [(.ref p1), (.int (0 : Int32)), (.ref p1), (.ref a)])) _
    refine own_len X0 hx hZ e0 P3 (g := (mkF m 4 #[.val (.ref a), .val (.ref p1)] [(.ref p1), (.int (0 : Int32)), (.ref p1), (.ref a)])) rfl rfl (hb hby own_d2_4) ?_
    show Steps p.tables e below (s₁.setTop (mkF m 5 #[.val (.ref a), .val (.ref p1)] [(.int (Nat.toInt32 zc)), (.int (0 : Int32)), (.ref p1), (.ref a)])) _
    refine XS.aconstNull X0.here hx rfl (hb hby own_d2_5) ?_
    exact k
  obtain ⟨_, _, ⟨T2, L2, k2c, n2⟩, -, X2, ⟨Lc2, hQ2, l2, y2, z2⟩, st2⟩ := X0.specialBack hx (y := (⟨"java/lang/String", "<init>", "([CIILjava/lang/Void;)V"⟩ : MethodName)) rfl hown (mvT hZ (hw _ (List.mem_of_getElem? (i := 14) rfl))) (mvT hZ (hw _ (List.mem_of_getElem? (i := 15) rfl))) (mvT hZ (hw _ (List.mem_of_getElem? (i := 17) rfl))) (by decide) (backOf (W := 0) (own_rms2 l Z a0 hw [] a p1 (0 : Int32) (Nat.toInt32 zc) u1 u2 zc cf 0 zc cs h0 n0 Z0 P0 P1 P2 P3 ge_a ne_p1_a Xo rfl (own_of_nat P3.small) SC SA SH SL hcs (by omega) (by omega) (by omega) hch (by omega)) hZ (hw _ (List.mem_of_getElem? (i := 17) rfl)) (hw _ (List.mem_of_getElem? (i := 10) rfl)) (by decide) (by decide)) (g := (mkF m 6 #[.val (.ref a), .val (.ref p1)] [.null, (.int (Nat.toInt32 zc)), (.int (0 : Int32)), (.ref p1), (.ref a)])) rfl (by rw [hml]; rfl) (Steps.refl _) (a := a) (argsL := [(.ref p1), (.int (0 : Int32)), (.int (Nat.toInt32 zc)), .null]) (rest := []) (lenOf own_pd7 rfl) rfl (by show 2 * 0 + _ ≤ _; exact Nat.le_of_eq rfl) (hb hby own_d2_6) (fun _ _ => ⟨rfl, e0, (by decide : 0 + 2 ≤ _), (by decide : 0 + 12 ≤ _)⟩)
  dsimp only [Pt.U, Pt.locs, Pt.cells, Pt.slots] at X2 l2 y2 z2 st2 hQ2
  subst l2 y2 z2
  obtain ⟨rfl, N2q, Kq2, fq2_0⟩ := hQ2
  have N2 := Fr.app N0 N2q
  have f3 := P0.keep Kq2
  have f4 := P3.keep Kq2 (List.not_mem_cons_of_ne_of_not_mem ne_p1_a List.not_mem_nil)
  have Z2 : n0 ≤ T2.heap.size := Nat.le_trans Z0 Kq2.1
  have K2 : Keep h0 T2.heap [a] := (Keep.refl h0 [a]).trans Kq2 (fun x hx => by rcases List.mem_cons.mp hx with rfl | hx; exact Or.inl (List.mem_of_getElem? (i := 0) rfl); exact nomatch hx)
  have Xo2 := Xo.keep Kq2 (allS ge_a all0)
  have k5 : ∀ t, Steps p.tables e below (T2.setTop (mkF m 9 #[.val (.ref a), .val (.ref p1)] [])) t → Steps p.tables e below (s₁.setTop (entryFrame m #[(.ref a), (.ref p1)] 2)) t := fun t k => k1 t (st2.trans k)
  obtain ⟨fs, hr, hrun, hended, hW, hsame⟩ := X2.leave (v := none) (fun _ => rfl)
  refine ⟨_, _, k5 _ ?_, hrun, hended, _, _, rfl, ?_, ⟨_, rfl⟩, hW, hsame.mono (by decide) (by decide)⟩
  · exact X2.returnOut hx Bd.returns (hb hby own_d2_9) hr
  · show own_Qs1 Z a p1 u1 u2 zc cf cs h0 n0 _ T2.heap _
    exact ⟨rfl, N2, K2, fq2_0⟩
theorem own_efs1w (m : MethodId) (x0 : Addr) (x1 : Addr) : entryFrame m #[(.ref x0), (.ref x1)] 2 = mkF m 0 #[.val (.ref x0), .val (.ref x1)] [] := by first | (simp [entryFrame, mkF, argsToLocals, Value.category]; done) | rfl
def own_Qs1w (Z : State) (a : Addr) (p1 : Addr) (u2 : Value) (cf : Nat → Int32) (h0 : Heap) (n0 : Nat) (v : Option Value) (h : Heap) (L : List Loc) : Prop := v = none ∧ Fr n0 L ∧ Keep h0 h [a] ∧ own_Str Z h a 0 0 cf
def own_Rs1w : Room := { frames := 2, cells := 2, slots := 4, locals := 29 }
set_option maxRecDepth 65536 in
set_option maxHeartbeats 40000000 in
theorem own_rms1w (l : Launch) (Z : State) (a0 : Array Value) (hw : ∀ d ∈ tables_1, d.before a0 Z = true) (ws : List Jvm.Cond) (a : Addr) (p1 : Addr) (u2 : Value) (cf : Nat → Int32) (h0 : Heap) (n0 : Nat) (Z0 : n0 ≤ h0.size) (P0 : Exa Z h0 a "java/lang/String") (P1 : Fld Z h0 a "java/lang/String" "value" "[B" .null) (P2 : Fld Z h0 a "java/lang/String" "coder" "B" u2) (P3 : own_G Z h0 p1 .char 0 cf) (ge_a : n0 ≤ a) (ne_p1_a : p1 ≠ a) :
    MetFree l (⟨"java/lang/String", "<init>", "([C)V"⟩ : MethodName) (head1 (Jvm.Cond.code (⟨"java/lang/String", "<init>", "([C)V"⟩ : MethodName) jdk_42_method_3_code 2 none :: ws) own_Rs1w) (fun aa U => aa = #[(.ref a), (.ref p1)] ∧ Z.Warmed39 U.vm ∧ U.heap = h0 ∧ CHv Z own_EL U.vm h0) (fun _ _ _ _ _ => True) (fun _ U o U' => ∃ v L, o = .returned v ∧ own_Qs1w Z a p1 u2 cf h0 n0 v U'.heap L ∧ ReturnedEndW U o U' L own_Rs1w.cells own_Rs1w.slots) := by
  refine MetFree.of_bodySF (plainFor_of_name own_pn1) hisR ?_
  intro p e s m args below meth c s₁ Bd hml0 hP hK
  obtain ⟨rfl, hZ, hh, hH0⟩ := hP
  have hx := Bd.exec
  have hby := Bd.bytes
  have hml : c.maxLocals = 2 := hml0
  have hown : s.vm.findClass "java/lang/String" = some m.cls := findClass_of_methodNamed Bd.named
  have hnm := (name_of_methodNamed Bd.named Bd.method).1
  have X0 : Stand p l e own_Rs1w s m #[(.ref a), (.ref p1)] below meth c s₁ [] 0 0 := Stand.of_body Bd
  have e0 : s₁.heap = h0 := by rw [← hh, Bd.state]; rfl
  have N0 := Fr.nil n0
  have pre0 : ∀ t, Steps p.tables e below (s₁.setTop (mkF m 0 #[.val (.ref a), .val (.ref p1)] [])) t → Steps p.tables e below (s₁.setTop (entryFrame m #[(.ref a), (.ref p1)] 2)) t := fun t k => castTop (own_efs1w m a p1) k
  have k1 : ∀ t, Steps p.tables e below (s₁.setTop (mkF m 6 #[.val (.ref a), .val (.ref p1)] [.null, (.int (Nat.toInt32 0)), (.int (0 : Int32)), (.ref p1), (.ref a)])) t → Steps p.tables e below (s₁.setTop (entryFrame m #[(.ref a), (.ref p1)] 2)) t := by
    intro t k
    refine pre0 t ?_
    show Steps p.tables e below (s₁.setTop (mkF m 0 #[.val (.ref a), .val (.ref p1)] [])) _
    refine XS.aloadN X0.here hx rfl (hb hby own_d2_0) rfl rfl ?_
    show Steps p.tables e below (s₁.setTop (mkF m 1 #[.val (.ref a), .val (.ref p1)] [(.ref a)])) _
    refine XS.aloadN X0.here hx rfl (hb hby own_d2_1) rfl rfl ?_
    show Steps p.tables e below (s₁.setTop (mkF m 2 #[.val (.ref a), .val (.ref p1)] [(.ref p1), (.ref a)])) _
    refine XS.iconst X0.here hx rfl (hb hby own_d2_2) ?_
    show Steps p.tables e below (s₁.setTop (mkF m 3 #[.val (.ref a), .val (.ref p1)] [(.int (0 : Int32)), (.ref p1), (.ref a)])) _
    refine XS.aloadN X0.here hx rfl (hb hby own_d2_3) rfl rfl ?_
    show Steps p.tables e below (s₁.setTop (mkF m 4 #[.val (.ref a), .val (.ref p1)] [(.ref p1), (.int (0 : Int32)), (.ref p1), (.ref a)])) _
    refine own_len X0 hx hZ e0 P3 (g := (mkF m 4 #[.val (.ref a), .val (.ref p1)] [(.ref p1), (.int (0 : Int32)), (.ref p1), (.ref a)])) rfl rfl (hb hby own_d2_4) ?_
    show Steps p.tables e below (s₁.setTop (mkF m 5 #[.val (.ref a), .val (.ref p1)] [(.int (Nat.toInt32 0)), (.int (0 : Int32)), (.ref p1), (.ref a)])) _
    refine XS.aconstNull X0.here hx rfl (hb hby own_d2_5) ?_
    exact k
  obtain ⟨_, T2, L2, X2, Si2, hZ, hown, hQ2, st2⟩ := own_callIW (W := 0) X0 hx hw hZ hown hH0 (hw _ (List.mem_of_getElem? (i := 14) rfl)) (hw _ (List.mem_of_getElem? (i := 15) rfl)) (hw _ (List.mem_of_getElem? (i := 10) rfl)) (hw _ (List.mem_of_getElem? (i := 17) rfl)) rfl (by decide) (own_rms2w l Z a0 hw [] a p1 (0 : Int32) (Nat.toInt32 0) u2 cf 0 h0 n0 Z0 P0 P1 P2 ge_a (own_eq0 (own_of_nat P3.small))) (by decide) (by decide) e0 (g := (mkF m 6 #[.val (.ref a), .val (.ref p1)] [.null, (.int (Nat.toInt32 0)), (.int (0 : Int32)), (.ref p1), (.ref a)])) rfl (by rw [hml]; rfl) own_pd7 (a := a) (argsL := [(.ref p1), (.int (0 : Int32)), (.int (Nat.toInt32 0)), .null]) (rest := []) rfl rfl rfl (by show 2 * 0 + _ ≤ _; exact Nat.le_of_eq rfl) (hb hby own_d2_6) (by decide) (by decide)
  obtain ⟨rfl, N2q, Kq2, fq2_0⟩ := hQ2
  have N2 := Fr.app N0 N2q
  have f3 := P0.keep Kq2
  have f4 := P3.keep Kq2 (List.not_mem_cons_of_ne_of_not_mem ne_p1_a List.not_mem_nil)
  have Z2 : n0 ≤ T2.heap.size := Nat.le_trans Z0 Kq2.1
  have K2 : Keep h0 T2.heap [a] := (Keep.refl h0 [a]).trans Kq2 (fun x hx => by rcases List.mem_cons.mp hx with rfl | hx; exact Or.inl (List.mem_of_getElem? (i := 0) rfl); exact nomatch hx)
  have k5 : ∀ t, Steps p.tables e below (T2.setTop (mkF m 9 #[.val (.ref a), .val (.ref p1)] [])) t → Steps p.tables e below (s₁.setTop (entryFrame m #[(.ref a), (.ref p1)] 2)) t := fun t k => k1 t (st2 t k)
  obtain ⟨fs, hr, hrun, hended, hE⟩ := Stand.leaveW (s := s) X2 Si2 (Nat.le_refl _) (v := none) (fun _ => rfl)
  refine ⟨_, _, k5 _ ?_, hrun, hended, _, _, rfl, ?_, ⟨_, rfl⟩, hE.2.1, hE.2.2.1, hE.2.2.2.mono (by decide) (by decide)⟩
  · exact X2.returnOut hx Bd.returns (hb hby own_d2_9) hr
  · show own_Qs1w Z a p1 u2 cf h0 n0 _ T2.heap _
    exact ⟨rfl, N2, K2, fq2_0⟩
theorem own_d7_0 : decode jdk_42_method_152_code 0 = .ok (.getstatic 38, 3) := by decide +kernel
theorem own_d7_3 : decode jdk_42_method_152_code 3 = .ok (.ifCond .eq 10, 3) := by decide +kernel
theorem own_d7_6 : decode jdk_42_method_152_code 6 = .ok (.aload_n 0, 1) := by decide +kernel
theorem own_d7_7 : decode jdk_42_method_152_code 7 = .ok (.getfield 15, 3) := by decide +kernel
theorem own_d7_10 : decode jdk_42_method_152_code 10 = .ok (.goto 4, 3) := by decide +kernel
theorem own_d7_14 : decode jdk_42_method_152_code 14 = .ok (.ireturn, 1) := by decide +kernel
theorem own_efcd0 (m : MethodId) (x0 : Addr) : entryFrame m #[(.ref x0)] 1 = mkF m 0 #[.val (.ref x0)] [] := by first | (simp [entryFrame, mkF, argsToLocals, Value.category]; done) | rfl
def own_Qcd0 (Z : State) (a : Addr) (cs : Int32) (h0 : Heap) (n0 : Nat) (v : Option Value) (h : Heap) (L : List Loc) : Prop := v = some (.int (0 : Int32)) ∧ Fr n0 L ∧ h = h0
def own_Rcd0 : Room := { frames := 0, cells := 0, slots := 0, locals := 0 }
set_option maxRecDepth 65536 in
set_option maxHeartbeats 40000000 in
theorem own_rmcd0 (l : Launch) (Z : State) (a0 : Array Value) (hw : ∀ d ∈ tables_1, d.before a0 Z = true) (ws : List Jvm.Cond) (a : Addr) (cs : Int32) (h0 : Heap) (n0 : Nat) (Z0 : n0 ≤ h0.size) (P0 : Exa Z h0 a "java/lang/String") (P1 : Fld Z h0 a "java/lang/String" "coder" "B" (.int (0 : Int32))) (Xo : Old Z n0 h0) (SC : Sta Z Z.heap "java/lang/String" "COMPACT_STRINGS" "Z" (.int cs)) (hcs : ¬ (cs = (0 : Int32))) :
    MetFree l (⟨"java/lang/String", "coder", "()B"⟩ : MethodName) (head1 (Jvm.Cond.code (⟨"java/lang/String", "coder", "()B"⟩ : MethodName) jdk_42_method_152_code 1 (some .byte) :: ws) own_Rcd0) (fun aa U => aa = #[(.ref a)] ∧ Z.Warmed39 U.vm ∧ U.heap = h0) (fun _ _ _ _ _ => True) (fun _ U o U' => ∃ v L, o = .returned v ∧ own_Qcd0 Z a cs h0 n0 v U'.heap L ∧ FrameEnd U o U' L own_Rcd0.cells own_Rcd0.slots) := by
  refine MetFree.of_bodySF (plainFor_of_name own_pn1) hisR ?_
  intro p e s m args below meth c s₁ Bd hml0 hP hK
  obtain ⟨rfl, hZ, hh⟩ := hP
  have hx := Bd.exec
  have hby := Bd.bytes
  have hml : c.maxLocals = 1 := hml0
  have hown : s.vm.findClass "java/lang/String" = some m.cls := findClass_of_methodNamed Bd.named
  have hnm := (name_of_methodNamed Bd.named Bd.method).1
  have X0 : Stand p l e own_Rcd0 s m #[(.ref a)] below meth c s₁ [] 0 0 := Stand.of_body Bd
  have e0 : s₁.heap = h0 := by rw [← hh, Bd.state]; rfl
  have N0 := Fr.nil n0
  have pre0 : ∀ t, Steps p.tables e below (s₁.setTop (mkF m 0 #[.val (.ref a)] [])) t → Steps p.tables e below (s₁.setTop (entryFrame m #[(.ref a)] 1)) t := fun t k => castTop (own_efcd0 m a) k
  obtain ⟨T1, X1, e1, st1⟩ := getS2 X0 hx hZ hown (host := "") (Or.inl (hw _ (List.mem_of_getElem? (i := 43) rfl))) Via.refl e0 (SC.ext Xo.2) (g := (mkF m 0 #[.val (.ref a)] [])) rfl (hb hby own_d7_0)
  have k2 : ∀ t, Steps p.tables e below (T1.setTop (mkF m 3 #[.val (.ref a)] [(.int cs)])) t → Steps p.tables e below (s₁.setTop (entryFrame m #[(.ref a)] 1)) t := fun t k => pre0 t (st1 t k)
  have k3 : ∀ t, Steps p.tables e below (T1.setTop (mkF m 7 #[.val (.ref a)] [(.ref a)])) t → Steps p.tables e below (s₁.setTop (entryFrame m #[(.ref a)] 1)) t := by
    intro t k
    refine k2 t ?_
    show Steps p.tables e below (T1.setTop (mkF m 3 #[.val (.ref a)] [(.int cs)])) _
    refine XS.ifNo X1.here hx rfl (hb hby own_d7_3) rfl ((if0 _ _).trans (feq hcs).1) ?_
    show Steps p.tables e below (T1.setTop (mkF m 6 #[.val (.ref a)] [])) _
    refine XS.aloadN X1.here hx rfl (hb hby own_d7_6) rfl rfl ?_
    exact k
  obtain ⟨T4, X4, e4, st4⟩ := getF X1 hx hZ hown (host := "") (Or.inl (hw _ (List.mem_of_getElem? (i := 28) rfl))) Via.refl e1 P1 (g := (mkF m 7 #[.val (.ref a)] [(.ref a)])) rfl rfl (hb hby own_d7_7)
  have k5 : ∀ t, Steps p.tables e below (T4.setTop (mkF m 10 #[.val (.ref a)] [(.int (0 : Int32))])) t → Steps p.tables e below (s₁.setTop (entryFrame m #[(.ref a)] 1)) t := fun t k => k3 t (st4 t k)
  have k6 : ∀ t, Steps p.tables e below (T4.setTop (mkF m 14 #[.val (.ref a)] [(.int (0 : Int32))])) t → Steps p.tables e below (s₁.setTop (entryFrame m #[(.ref a)] 1)) t := by
    intro t k
    refine k5 t ?_
    show Steps p.tables e below (T4.setTop (mkF m 10 #[.val (.ref a)] [(.int (0 : Int32))])) _
    refine XS.goto X4.here hx rfl (pc0 := 10) (pc' := 14) rfl (hb hby own_d7_10) (by decide) (by decide) ?_
    exact k
  obtain ⟨fs, hr, hrun, hended, hW, hsame⟩ := X4.leave (v := (some (.int (0 : Int32)))) (fun h => by rw [Bd.returns] at h; cases h)
  refine ⟨_, _, k6 _ ?_, hrun, hended, _, _, rfl, ?_, ⟨_, rfl⟩, hW, hsame.mono (by decide) (by decide)⟩
  · exact retN X4 hx (t := .byte) Bd.returns (by simp) (hb hby own_d7_14) hr
  · show own_Qcd0 Z a cs h0 n0 _ T4.heap _
    exact ⟨rfl, N0, e4⟩
theorem own_d11_0 : decode jdk_42_method_154_code 0 = .ok (.getstatic 38, 3) := by decide +kernel
theorem own_d11_3 : decode jdk_42_method_154_code 3 = .ok (.ifCond .eq 14, 3) := by decide +kernel
theorem own_d11_6 : decode jdk_42_method_154_code 6 = .ok (.aload_n 0, 1) := by decide +kernel
theorem own_d11_7 : decode jdk_42_method_154_code 7 = .ok (.getfield 15, 3) := by decide +kernel
theorem own_d11_10 : decode jdk_42_method_154_code 10 = .ok (.ifCond .ne 7, 3) := by decide +kernel
theorem own_d11_13 : decode jdk_42_method_154_code 13 = .ok (.iconst 1, 1) := by decide +kernel
theorem own_d11_14 : decode jdk_42_method_154_code 14 = .ok (.goto 4, 3) := by decide +kernel
theorem own_d11_18 : decode jdk_42_method_154_code 18 = .ok (.ireturn, 1) := by decide +kernel
theorem own_efla0 (m : MethodId) (x0 : Addr) : entryFrame m #[(.ref x0)] 1 = mkF m 0 #[.val (.ref x0)] [] := by first | (simp [entryFrame, mkF, argsToLocals, Value.category]; done) | rfl
def own_Qla0 (Z : State) (a : Addr) (cs : Int32) (h0 : Heap) (n0 : Nat) (v : Option Value) (h : Heap) (L : List Loc) : Prop := v = some (.int (1 : Int32)) ∧ Fr n0 L ∧ h = h0
def own_Rla0 : Room := { frames := 0, cells := 0, slots := 0, locals := 0 }
set_option maxRecDepth 65536 in
set_option maxHeartbeats 40000000 in
theorem own_rmla0 (l : Launch) (Z : State) (a0 : Array Value) (hw : ∀ d ∈ tables_1, d.before a0 Z = true) (ws : List Jvm.Cond) (a : Addr) (cs : Int32) (h0 : Heap) (n0 : Nat) (Z0 : n0 ≤ h0.size) (P0 : Exa Z h0 a "java/lang/String") (P1 : Fld Z h0 a "java/lang/String" "coder" "B" (.int (0 : Int32))) (Xo : Old Z n0 h0) (SC : Sta Z Z.heap "java/lang/String" "COMPACT_STRINGS" "Z" (.int cs)) (hcs : ¬ (cs = (0 : Int32))) :
    MetFree l (⟨"java/lang/String", "isLatin1", "()Z"⟩ : MethodName) (head1 (Jvm.Cond.code (⟨"java/lang/String", "isLatin1", "()Z"⟩ : MethodName) jdk_42_method_154_code 1 (some .boolean) :: ws) own_Rla0) (fun aa U => aa = #[(.ref a)] ∧ Z.Warmed39 U.vm ∧ U.heap = h0) (fun _ _ _ _ _ => True) (fun _ U o U' => ∃ v L, o = .returned v ∧ own_Qla0 Z a cs h0 n0 v U'.heap L ∧ FrameEnd U o U' L own_Rla0.cells own_Rla0.slots) := by
  refine MetFree.of_bodySF (plainFor_of_name own_pn1) hisR ?_
  intro p e s m args below meth c s₁ Bd hml0 hP hK
  obtain ⟨rfl, hZ, hh⟩ := hP
  have hx := Bd.exec
  have hby := Bd.bytes
  have hml : c.maxLocals = 1 := hml0
  have hown : s.vm.findClass "java/lang/String" = some m.cls := findClass_of_methodNamed Bd.named
  have hnm := (name_of_methodNamed Bd.named Bd.method).1
  have X0 : Stand p l e own_Rla0 s m #[(.ref a)] below meth c s₁ [] 0 0 := Stand.of_body Bd
  have e0 : s₁.heap = h0 := by rw [← hh, Bd.state]; rfl
  have N0 := Fr.nil n0
  have pre0 : ∀ t, Steps p.tables e below (s₁.setTop (mkF m 0 #[.val (.ref a)] [])) t → Steps p.tables e below (s₁.setTop (entryFrame m #[(.ref a)] 1)) t := fun t k => castTop (own_efla0 m a) k
  obtain ⟨T1, X1, e1, st1⟩ := getS2 X0 hx hZ hown (host := "") (Or.inl (hw _ (List.mem_of_getElem? (i := 43) rfl))) Via.refl e0 (SC.ext Xo.2) (g := (mkF m 0 #[.val (.ref a)] [])) rfl (hb hby own_d11_0)
  have k2 : ∀ t, Steps p.tables e below (T1.setTop (mkF m 3 #[.val (.ref a)] [(.int cs)])) t → Steps p.tables e below (s₁.setTop (entryFrame m #[(.ref a)] 1)) t := fun t k => pre0 t (st1 t k)
  have k3 : ∀ t, Steps p.tables e below (T1.setTop (mkF m 7 #[.val (.ref a)] [(.ref a)])) t → Steps p.tables e below (s₁.setTop (entryFrame m #[(.ref a)] 1)) t := by
    intro t k
    refine k2 t ?_
    show Steps p.tables e below (T1.setTop (mkF m 3 #[.val (.ref a)] [(.int cs)])) _
    refine XS.ifNo X1.here hx rfl (hb hby own_d11_3) rfl ((if0 _ _).trans (feq hcs).1) ?_
    show Steps p.tables e below (T1.setTop (mkF m 6 #[.val (.ref a)] [])) _
    refine XS.aloadN X1.here hx rfl (hb hby own_d11_6) rfl rfl ?_
    exact k
  obtain ⟨T4, X4, e4, st4⟩ := getF X1 hx hZ hown (host := "") (Or.inl (hw _ (List.mem_of_getElem? (i := 28) rfl))) Via.refl e1 P1 (g := (mkF m 7 #[.val (.ref a)] [(.ref a)])) rfl rfl (hb hby own_d11_7)
  have k5 : ∀ t, Steps p.tables e below (T4.setTop (mkF m 10 #[.val (.ref a)] [(.int (0 : Int32))])) t → Steps p.tables e below (s₁.setTop (entryFrame m #[(.ref a)] 1)) t := fun t k => k3 t (st4 t k)
  have k6 : ∀ t, Steps p.tables e below (T4.setTop (mkF m 18 #[.val (.ref a)] [(.int (1 : Int32))])) t → Steps p.tables e below (s₁.setTop (entryFrame m #[(.ref a)] 1)) t := by
    intro t k
    refine k5 t ?_
    show Steps p.tables e below (T4.setTop (mkF m 10 #[.val (.ref a)] [(.int (0 : Int32))])) _
    refine XS.ifNo X4.here hx rfl (hb hby own_d11_10) rfl ((if0 _ _).trans (teq (rfl : (0 : Int32) = (0 : Int32))).2) ?_
    show Steps p.tables e below (T4.setTop (mkF m 13 #[.val (.ref a)] [])) _
    refine XS.iconst X4.here hx rfl (hb hby own_d11_13) ?_
    show Steps p.tables e below (T4.setTop (mkF m 14 #[.val (.ref a)] [(.int (1 : Int32))])) _
    refine XS.goto X4.here hx rfl (pc0 := 14) (pc' := 18) rfl (hb hby own_d11_14) (by decide) (by decide) ?_
    exact k
  obtain ⟨fs, hr, hrun, hended, hW, hsame⟩ := X4.leave (v := (some (.int (1 : Int32)))) (fun h => by rw [Bd.returns] at h; cases h)
  refine ⟨_, _, k6 _ ?_, hrun, hended, _, _, rfl, ?_, ⟨_, rfl⟩, hW, hsame.mono (by decide) (by decide)⟩
  · exact retN X4 hx (t := .boolean) Bd.returns (by simp) (hb hby own_d11_18) hr
  · show own_Qla0 Z a cs h0 n0 _ T4.heap _
    exact ⟨rfl, N0, e4⟩
theorem own_efcd1 (m : MethodId) (x0 : Addr) : entryFrame m #[(.ref x0)] 1 = mkF m 0 #[.val (.ref x0)] [] := by first | (simp [entryFrame, mkF, argsToLocals, Value.category]; done) | rfl
def own_Qcd1 (Z : State) (a : Addr) (cs : Int32) (h0 : Heap) (n0 : Nat) (v : Option Value) (h : Heap) (L : List Loc) : Prop := v = some (.int (1 : Int32)) ∧ Fr n0 L ∧ h = h0
def own_Rcd1 : Room := { frames := 0, cells := 0, slots := 0, locals := 0 }
set_option maxRecDepth 65536 in
set_option maxHeartbeats 40000000 in
theorem own_rmcd1 (l : Launch) (Z : State) (a0 : Array Value) (hw : ∀ d ∈ tables_1, d.before a0 Z = true) (ws : List Jvm.Cond) (a : Addr) (cs : Int32) (h0 : Heap) (n0 : Nat) (Z0 : n0 ≤ h0.size) (P0 : Exa Z h0 a "java/lang/String") (P1 : Fld Z h0 a "java/lang/String" "coder" "B" (.int (1 : Int32))) (Xo : Old Z n0 h0) (SC : Sta Z Z.heap "java/lang/String" "COMPACT_STRINGS" "Z" (.int cs)) (hcs : ¬ (cs = (0 : Int32))) :
    MetFree l (⟨"java/lang/String", "coder", "()B"⟩ : MethodName) (head1 (Jvm.Cond.code (⟨"java/lang/String", "coder", "()B"⟩ : MethodName) jdk_42_method_152_code 1 (some .byte) :: ws) own_Rcd1) (fun aa U => aa = #[(.ref a)] ∧ Z.Warmed39 U.vm ∧ U.heap = h0) (fun _ _ _ _ _ => True) (fun _ U o U' => ∃ v L, o = .returned v ∧ own_Qcd1 Z a cs h0 n0 v U'.heap L ∧ FrameEnd U o U' L own_Rcd1.cells own_Rcd1.slots) := by
  refine MetFree.of_bodySF (plainFor_of_name own_pn1) hisR ?_
  intro p e s m args below meth c s₁ Bd hml0 hP hK
  obtain ⟨rfl, hZ, hh⟩ := hP
  have hx := Bd.exec
  have hby := Bd.bytes
  have hml : c.maxLocals = 1 := hml0
  have hown : s.vm.findClass "java/lang/String" = some m.cls := findClass_of_methodNamed Bd.named
  have hnm := (name_of_methodNamed Bd.named Bd.method).1
  have X0 : Stand p l e own_Rcd1 s m #[(.ref a)] below meth c s₁ [] 0 0 := Stand.of_body Bd
  have e0 : s₁.heap = h0 := by rw [← hh, Bd.state]; rfl
  have N0 := Fr.nil n0
  have pre0 : ∀ t, Steps p.tables e below (s₁.setTop (mkF m 0 #[.val (.ref a)] [])) t → Steps p.tables e below (s₁.setTop (entryFrame m #[(.ref a)] 1)) t := fun t k => castTop (own_efcd1 m a) k
  obtain ⟨T1, X1, e1, st1⟩ := getS2 X0 hx hZ hown (host := "") (Or.inl (hw _ (List.mem_of_getElem? (i := 43) rfl))) Via.refl e0 (SC.ext Xo.2) (g := (mkF m 0 #[.val (.ref a)] [])) rfl (hb hby own_d7_0)
  have k2 : ∀ t, Steps p.tables e below (T1.setTop (mkF m 3 #[.val (.ref a)] [(.int cs)])) t → Steps p.tables e below (s₁.setTop (entryFrame m #[(.ref a)] 1)) t := fun t k => pre0 t (st1 t k)
  have k3 : ∀ t, Steps p.tables e below (T1.setTop (mkF m 7 #[.val (.ref a)] [(.ref a)])) t → Steps p.tables e below (s₁.setTop (entryFrame m #[(.ref a)] 1)) t := by
    intro t k
    refine k2 t ?_
    show Steps p.tables e below (T1.setTop (mkF m 3 #[.val (.ref a)] [(.int cs)])) _
    refine XS.ifNo X1.here hx rfl (hb hby own_d7_3) rfl ((if0 _ _).trans (feq hcs).1) ?_
    show Steps p.tables e below (T1.setTop (mkF m 6 #[.val (.ref a)] [])) _
    refine XS.aloadN X1.here hx rfl (hb hby own_d7_6) rfl rfl ?_
    exact k
  obtain ⟨T4, X4, e4, st4⟩ := getF X1 hx hZ hown (host := "") (Or.inl (hw _ (List.mem_of_getElem? (i := 28) rfl))) Via.refl e1 P1 (g := (mkF m 7 #[.val (.ref a)] [(.ref a)])) rfl rfl (hb hby own_d7_7)
  have k5 : ∀ t, Steps p.tables e below (T4.setTop (mkF m 10 #[.val (.ref a)] [(.int (1 : Int32))])) t → Steps p.tables e below (s₁.setTop (entryFrame m #[(.ref a)] 1)) t := fun t k => k3 t (st4 t k)
  have k6 : ∀ t, Steps p.tables e below (T4.setTop (mkF m 14 #[.val (.ref a)] [(.int (1 : Int32))])) t → Steps p.tables e below (s₁.setTop (entryFrame m #[(.ref a)] 1)) t := by
    intro t k
    refine k5 t ?_
    show Steps p.tables e below (T4.setTop (mkF m 10 #[.val (.ref a)] [(.int (1 : Int32))])) _
    refine XS.goto X4.here hx rfl (pc0 := 10) (pc' := 14) rfl (hb hby own_d7_10) (by decide) (by decide) ?_
    exact k
  obtain ⟨fs, hr, hrun, hended, hW, hsame⟩ := X4.leave (v := (some (.int (1 : Int32)))) (fun h => by rw [Bd.returns] at h; cases h)
  refine ⟨_, _, k6 _ ?_, hrun, hended, _, _, rfl, ?_, ⟨_, rfl⟩, hW, hsame.mono (by decide) (by decide)⟩
  · exact retN X4 hx (t := .byte) Bd.returns (by simp) (hb hby own_d7_14) hr
  · show own_Qcd1 Z a cs h0 n0 _ T4.heap _
    exact ⟨rfl, N0, e4⟩
theorem own_d11_17 : decode jdk_42_method_154_code 17 = .ok (.iconst 0, 1) := by decide +kernel
theorem own_efla1 (m : MethodId) (x0 : Addr) : entryFrame m #[(.ref x0)] 1 = mkF m 0 #[.val (.ref x0)] [] := by first | (simp [entryFrame, mkF, argsToLocals, Value.category]; done) | rfl
def own_Qla1 (Z : State) (a : Addr) (cs : Int32) (h0 : Heap) (n0 : Nat) (v : Option Value) (h : Heap) (L : List Loc) : Prop := v = some (.int (0 : Int32)) ∧ Fr n0 L ∧ h = h0
def own_Rla1 : Room := { frames := 0, cells := 0, slots := 0, locals := 0 }
set_option maxRecDepth 65536 in
set_option maxHeartbeats 40000000 in
theorem own_rmla1 (l : Launch) (Z : State) (a0 : Array Value) (hw : ∀ d ∈ tables_1, d.before a0 Z = true) (ws : List Jvm.Cond) (a : Addr) (cs : Int32) (h0 : Heap) (n0 : Nat) (Z0 : n0 ≤ h0.size) (P0 : Exa Z h0 a "java/lang/String") (P1 : Fld Z h0 a "java/lang/String" "coder" "B" (.int (1 : Int32))) (Xo : Old Z n0 h0) (SC : Sta Z Z.heap "java/lang/String" "COMPACT_STRINGS" "Z" (.int cs)) (hcs : ¬ (cs = (0 : Int32))) :
    MetFree l (⟨"java/lang/String", "isLatin1", "()Z"⟩ : MethodName) (head1 (Jvm.Cond.code (⟨"java/lang/String", "isLatin1", "()Z"⟩ : MethodName) jdk_42_method_154_code 1 (some .boolean) :: ws) own_Rla1) (fun aa U => aa = #[(.ref a)] ∧ Z.Warmed39 U.vm ∧ U.heap = h0) (fun _ _ _ _ _ => True) (fun _ U o U' => ∃ v L, o = .returned v ∧ own_Qla1 Z a cs h0 n0 v U'.heap L ∧ FrameEnd U o U' L own_Rla1.cells own_Rla1.slots) := by
  refine MetFree.of_bodySF (plainFor_of_name own_pn1) hisR ?_
  intro p e s m args below meth c s₁ Bd hml0 hP hK
  obtain ⟨rfl, hZ, hh⟩ := hP
  have hx := Bd.exec
  have hby := Bd.bytes
  have hml : c.maxLocals = 1 := hml0
  have hown : s.vm.findClass "java/lang/String" = some m.cls := findClass_of_methodNamed Bd.named
  have hnm := (name_of_methodNamed Bd.named Bd.method).1
  have X0 : Stand p l e own_Rla1 s m #[(.ref a)] below meth c s₁ [] 0 0 := Stand.of_body Bd
  have e0 : s₁.heap = h0 := by rw [← hh, Bd.state]; rfl
  have N0 := Fr.nil n0
  have pre0 : ∀ t, Steps p.tables e below (s₁.setTop (mkF m 0 #[.val (.ref a)] [])) t → Steps p.tables e below (s₁.setTop (entryFrame m #[(.ref a)] 1)) t := fun t k => castTop (own_efla1 m a) k
  obtain ⟨T1, X1, e1, st1⟩ := getS2 X0 hx hZ hown (host := "") (Or.inl (hw _ (List.mem_of_getElem? (i := 43) rfl))) Via.refl e0 (SC.ext Xo.2) (g := (mkF m 0 #[.val (.ref a)] [])) rfl (hb hby own_d11_0)
  have k2 : ∀ t, Steps p.tables e below (T1.setTop (mkF m 3 #[.val (.ref a)] [(.int cs)])) t → Steps p.tables e below (s₁.setTop (entryFrame m #[(.ref a)] 1)) t := fun t k => pre0 t (st1 t k)
  have k3 : ∀ t, Steps p.tables e below (T1.setTop (mkF m 7 #[.val (.ref a)] [(.ref a)])) t → Steps p.tables e below (s₁.setTop (entryFrame m #[(.ref a)] 1)) t := by
    intro t k
    refine k2 t ?_
    show Steps p.tables e below (T1.setTop (mkF m 3 #[.val (.ref a)] [(.int cs)])) _
    refine XS.ifNo X1.here hx rfl (hb hby own_d11_3) rfl ((if0 _ _).trans (feq hcs).1) ?_
    show Steps p.tables e below (T1.setTop (mkF m 6 #[.val (.ref a)] [])) _
    refine XS.aloadN X1.here hx rfl (hb hby own_d11_6) rfl rfl ?_
    exact k
  obtain ⟨T4, X4, e4, st4⟩ := getF X1 hx hZ hown (host := "") (Or.inl (hw _ (List.mem_of_getElem? (i := 28) rfl))) Via.refl e1 P1 (g := (mkF m 7 #[.val (.ref a)] [(.ref a)])) rfl rfl (hb hby own_d11_7)
  have k5 : ∀ t, Steps p.tables e below (T4.setTop (mkF m 10 #[.val (.ref a)] [(.int (1 : Int32))])) t → Steps p.tables e below (s₁.setTop (entryFrame m #[(.ref a)] 1)) t := fun t k => k3 t (st4 t k)
  have k6 : ∀ t, Steps p.tables e below (T4.setTop (mkF m 18 #[.val (.ref a)] [(.int (0 : Int32))])) t → Steps p.tables e below (s₁.setTop (entryFrame m #[(.ref a)] 1)) t := by
    intro t k
    refine k5 t ?_
    show Steps p.tables e below (T4.setTop (mkF m 10 #[.val (.ref a)] [(.int (1 : Int32))])) _
    refine XS.ifYes X4.here hx rfl (pc0 := 10) (pc' := 17) rfl (hb hby own_d11_10) rfl ((if0 _ _).trans (feq (by decide : ¬ ((1 : Int32) = (0 : Int32)))).2) (by decide) (by decide) ?_
    show Steps p.tables e below (T4.setTop (mkF m 17 #[.val (.ref a)] [])) _
    refine XS.iconst X4.here hx rfl (hb hby own_d11_17) ?_
    exact k
  obtain ⟨fs, hr, hrun, hended, hW, hsame⟩ := X4.leave (v := (some (.int (0 : Int32)))) (fun h => by rw [Bd.returns] at h; cases h)
  refine ⟨_, _, k6 _ ?_, hrun, hended, _, _, rfl, ?_, ⟨_, rfl⟩, hW, hsame.mono (by decide) (by decide)⟩
  · exact retN X4 hx (t := .boolean) Bd.returns (by simp) (hb hby own_d11_18) hr
  · show own_Qla1 Z a cs h0 n0 _ T4.heap _
    exact ⟨rfl, N0, e4⟩
theorem own_le0 {n : Nat} (h : n < 2147483648) : ((Nat.toInt32 n) >>> ((0 : Int32) &&& 31)).toInt = (n : Int) := by
  have q := c_ishr (Nat.toInt32 n) 0 0 (by decide); have r := own_of_nat h; rw [q, r]; omega
theorem own_le1 {n : Nat} (h : 2 * n < 2147483648) : ((Nat.toInt32 (2 * n)) >>> ((1 : Int32) &&& 31)).toInt = (n : Int) := by
  have q := c_ishr (Nat.toInt32 (2 * n)) 1 1 (by decide); have r := own_of_nat h; rw [q, r]; omega
theorem own_d6_0 : decode jdk_42_method_54_code 0 = .ok (.aload_n 0, 1) := by decide +kernel
theorem own_d6_1 : decode jdk_42_method_54_code 1 = .ok (.getfield 9, 3) := by decide +kernel
theorem own_d6_4 : decode jdk_42_method_54_code 4 = .ok (.arraylength, 1) := by decide +kernel
theorem own_d6_5 : decode jdk_42_method_54_code 5 = .ok (.aload_n 0, 1) := by decide +kernel
theorem own_d6_6 : decode jdk_42_method_54_code 6 = .ok (.invokevirtual 335, 3) := by decide +kernel
theorem own_d6_9 : decode jdk_42_method_54_code 9 = .ok (.ishr, 1) := by decide +kernel
theorem own_d6_10 : decode jdk_42_method_54_code 10 = .ok (.ireturn, 1) := by decide +kernel
theorem own_pd8 : parseMethodDescriptor "()B" = some ⟨[], some .byte⟩ := by decide +kernel
theorem own_efle (m : MethodId) (x0 : Addr) : entryFrame m #[(.ref x0)] 1 = mkF m 0 #[.val (.ref x0)] [] := by first | (simp [entryFrame, mkF, argsToLocals, Value.category]; done) | rfl
def own_Qle (Z : State) (a : Addr) (nn : Nat) (oo : Nat) (cf : Nat → Int32) (cs : Int32) (h0 : Heap) (n0 : Nat) (v : Option Value) (h : Heap) (L : List Loc) : Prop := ∃ (r : Int32), v = some (.int r) ∧ Fr n0 L ∧ h = h0 ∧ (r.toInt = (nn : Int))
def own_Rle : Room := { frames := 1, cells := 0, slots := 0, locals := 13 }
set_option maxRecDepth 65536 in
set_option maxHeartbeats 40000000 in
theorem own_rmle (l : Launch) (Z : State) (a0 : Array Value) (hw : ∀ d ∈ tables_1, d.before a0 Z = true) (ws : List Jvm.Cond) (a : Addr) (nn : Nat) (oo : Nat) (cf : Nat → Int32) (cs : Int32) (h0 : Heap) (n0 : Nat) (Z0 : n0 ≤ h0.size) (P0 : Exa Z h0 a "java/lang/String") (P1 : own_Str Z h0 a nn oo cf) (Xo : Old Z n0 h0) (SC : Sta Z Z.heap "java/lang/String" "COMPACT_STRINGS" "Z" (.int cs)) (hcs : ¬ (cs = (0 : Int32))) :
    MetFree l (⟨"java/lang/String", "length", "()I"⟩ : MethodName) (head1 (Jvm.Cond.code (⟨"java/lang/String", "length", "()I"⟩ : MethodName) jdk_42_method_54_code 1 (some .int) :: ws) own_Rle) (fun aa U => aa = #[(.ref a)] ∧ Z.Warmed39 U.vm ∧ U.heap = h0) (fun _ _ _ _ _ => True) (fun _ U o U' => ∃ v L, o = .returned v ∧ own_Qle Z a nn oo cf cs h0 n0 v U'.heap L ∧ FrameEnd U o U' L own_Rle.cells own_Rle.slots) := by
  refine MetFree.of_bodySF (plainFor_of_name own_pn1) hisR ?_
  intro p e s m args below meth c s₁ Bd hml0 hP hK
  obtain ⟨rfl, hZ, hh⟩ := hP
  have hx := Bd.exec
  have hby := Bd.bytes
  have hml : c.maxLocals = 1 := hml0
  have hown : s.vm.findClass "java/lang/String" = some m.cls := findClass_of_methodNamed Bd.named
  have hnm := (name_of_methodNamed Bd.named Bd.method).1
  have X0 : Stand p l e own_Rle s m #[(.ref a)] below meth c s₁ [] 0 0 := Stand.of_body Bd
  have e0 : s₁.heap = h0 := by rw [← hh, Bd.state]; rfl
  have N0 := Fr.nil n0
  have pre0 : ∀ t, Steps p.tables e below (s₁.setTop (mkF m 0 #[.val (.ref a)] [])) t → Steps p.tables e below (s₁.setTop (entryFrame m #[(.ref a)] 1)) t := fun t k => castTop (own_efle m a) k
  obtain ⟨Es, hN, hch, bs, cd, Fv, Fc, hB⟩ := id P1
  rcases hB with ⟨rfl, hall, hGb⟩ | ⟨rfl, hall, hGb⟩
  · skip
    have k1 : ∀ t, Steps p.tables e below (s₁.setTop (mkF m 1 #[.val (.ref a)] [(.ref a)])) t → Steps p.tables e below (s₁.setTop (entryFrame m #[(.ref a)] 1)) t := by
      intro t k
      refine pre0 t ?_
      show Steps p.tables e below (s₁.setTop (mkF m 0 #[.val (.ref a)] [])) _
      refine XS.aloadN X0.here hx rfl (hb hby own_d6_0) rfl rfl ?_
      exact k
    obtain ⟨T2, X2, e2, st2⟩ := getF X0 hx hZ hown (host := "") (Or.inl (hw _ (List.mem_of_getElem? (i := 27) rfl))) Via.refl e0 Fv (g := (mkF m 1 #[.val (.ref a)] [(.ref a)])) rfl rfl (hb hby own_d6_1)
    have k3 : ∀ t, Steps p.tables e below (T2.setTop (mkF m 4 #[.val (.ref a)] [(.ref bs)])) t → Steps p.tables e below (s₁.setTop (entryFrame m #[(.ref a)] 1)) t := fun t k => k1 t (st2 t k)
    have k4 : ∀ t, Steps p.tables e below (T2.setTop (mkF m 6 #[.val (.ref a)] [(.ref a), (.int (Nat.toInt32 nn))])) t → Steps p.tables e below (s₁.setTop (entryFrame m #[(.ref a)] 1)) t := by
      intro t k
      refine k3 t ?_
      show Steps p.tables e below (T2.setTop (mkF m 4 #[.val (.ref a)] [(.ref bs)])) _
      refine own_len X2 hx hZ e2 hGb (g := (mkF m 4 #[.val (.ref a)] [(.ref bs)])) rfl rfl (hb hby own_d6_4) ?_
      show Steps p.tables e below (T2.setTop (mkF m 5 #[.val (.ref a)] [(.int (Nat.toInt32 nn))])) _
      refine XS.aloadN X2.here hx rfl (hb hby own_d6_5) rfl rfl ?_
      exact k
    obtain ⟨cq5, kq5, q5a, q5b, q5c⟩ := isOf hZ e2 P0
    obtain ⟨_, _, ⟨T5, L5, k5c, n5⟩, -, X5, ⟨Lc5, hQ5, l5, y5, z5⟩, st5⟩ := X2.virtualBack hx (y := (⟨"java/lang/String", "coder", "()B"⟩ : MethodName)) (z := (⟨"java/lang/String", "coder", "()B"⟩ : MethodName)) hown (mvT hZ (hw _ (List.mem_of_getElem? (i := 38) rfl))) (mvT hZ (hw _ (List.mem_of_getElem? (i := 39) rfl))) (notFace_of_selects (args := #[]) (mvT hZ (hw _ (List.mem_of_getElem? (i := 41) rfl)))) (mvT hZ (hw _ (List.mem_of_getElem? (i := 41) rfl))) (mvT hZ (hw _ (List.mem_of_getElem? (i := 40) rfl))) (by decide) (backOf (W := 1) (own_rmcd0 l Z a0 hw [] a cs h0 n0 Z0 P0 Fc Xo SC hcs) hZ (hw _ (List.mem_of_getElem? (i := 42) rfl)) (hw _ (List.mem_of_getElem? (i := 10) rfl)) (by decide) (by decide)) q5a q5c (g := (mkF m 6 #[.val (.ref a)] [(.ref a), (.int (Nat.toInt32 nn))])) rfl (by rw [hml]; rfl) (Steps.refl _) (argsL := []) (rest := [(.int (Nat.toInt32 nn))]) (lenOf own_pd8 rfl) rfl (by show 2 * 0 + _ ≤ _; exact Nat.le_of_eq rfl) (hb hby own_d6_6) (fun _ _ => ⟨rfl, e2, (by decide : 0 + 0 ≤ _), (by decide : 0 + 0 ≤ _)⟩)
    dsimp only [Pt.U, Pt.locs, Pt.cells, Pt.slots] at X5 l5 y5 z5 st5 hQ5
    subst l5 y5 z5
    obtain ⟨rfl, N5q, e5⟩ := hQ5
    have N5 := Fr.app N0 N5q
    have k6 : ∀ t, Steps p.tables e below (T5.setTop (mkF m 9 #[.val (.ref a)] [(.int (0 : Int32)), (.int (Nat.toInt32 nn))])) t → Steps p.tables e below (s₁.setTop (entryFrame m #[(.ref a)] 1)) t := fun t k => k4 t (st5.trans k)
    have k7 : ∀ t, Steps p.tables e below (T5.setTop (mkF m 10 #[.val (.ref a)] [(.int ((Nat.toInt32 nn) >>> ((0 : Int32) &&& 31)))])) t → Steps p.tables e below (s₁.setTop (entryFrame m #[(.ref a)] 1)) t := by
      intro t k
      refine k6 t ?_
      show Steps p.tables e below (T5.setTop (mkF m 9 #[.val (.ref a)] [(.int (0 : Int32)), (.int (Nat.toInt32 nn))])) _
      refine XS.ishr X5.here hx rfl (hb hby own_d6_9) rfl ?_
      exact k
    obtain ⟨fs, hr, hrun, hended, hW, hsame⟩ := X5.leave (v := (some (.int ((Nat.toInt32 nn) >>> ((0 : Int32) &&& 31))))) (fun h => by rw [Bd.returns] at h; cases h)
    refine ⟨_, _, k7 _ ?_, hrun, hended, _, _, rfl, ?_, ⟨_, rfl⟩, hW, hsame.mono (by decide) (by decide)⟩
    · exact retI X5 hx Bd.returns (hb hby own_d6_10) hr
    · show own_Qle Z a nn oo cf cs h0 n0 _ T5.heap _
      exact ⟨((Nat.toInt32 nn) >>> ((0 : Int32) &&& 31)), rfl, N5, e5, (own_le0 hGb.small)⟩
  · skip
    have k8 : ∀ t, Steps p.tables e below (s₁.setTop (mkF m 1 #[.val (.ref a)] [(.ref a)])) t → Steps p.tables e below (s₁.setTop (entryFrame m #[(.ref a)] 1)) t := by
      intro t k
      refine pre0 t ?_
      show Steps p.tables e below (s₁.setTop (mkF m 0 #[.val (.ref a)] [])) _
      refine XS.aloadN X0.here hx rfl (hb hby own_d6_0) rfl rfl ?_
      exact k
    obtain ⟨T9, X9, e9, st9⟩ := getF X0 hx hZ hown (host := "") (Or.inl (hw _ (List.mem_of_getElem? (i := 27) rfl))) Via.refl e0 Fv (g := (mkF m 1 #[.val (.ref a)] [(.ref a)])) rfl rfl (hb hby own_d6_1)
    have k10 : ∀ t, Steps p.tables e below (T9.setTop (mkF m 4 #[.val (.ref a)] [(.ref bs)])) t → Steps p.tables e below (s₁.setTop (entryFrame m #[(.ref a)] 1)) t := fun t k => k8 t (st9 t k)
    have k11 : ∀ t, Steps p.tables e below (T9.setTop (mkF m 6 #[.val (.ref a)] [(.ref a), (.int (Nat.toInt32 (2 * nn)))])) t → Steps p.tables e below (s₁.setTop (entryFrame m #[(.ref a)] 1)) t := by
      intro t k
      refine k10 t ?_
      show Steps p.tables e below (T9.setTop (mkF m 4 #[.val (.ref a)] [(.ref bs)])) _
      refine own_len X9 hx hZ e9 hGb (g := (mkF m 4 #[.val (.ref a)] [(.ref bs)])) rfl rfl (hb hby own_d6_4) ?_
      show Steps p.tables e below (T9.setTop (mkF m 5 #[.val (.ref a)] [(.int (Nat.toInt32 (2 * nn)))])) _
      refine XS.aloadN X9.here hx rfl (hb hby own_d6_5) rfl rfl ?_
      exact k
    obtain ⟨cq12, kq12, q12a, q12b, q12c⟩ := isOf hZ e9 P0
    obtain ⟨_, _, ⟨T12, L12, k12c, n12⟩, -, X12, ⟨Lc12, hQ12, l12, y12, z12⟩, st12⟩ := X9.virtualBack hx (y := (⟨"java/lang/String", "coder", "()B"⟩ : MethodName)) (z := (⟨"java/lang/String", "coder", "()B"⟩ : MethodName)) hown (mvT hZ (hw _ (List.mem_of_getElem? (i := 38) rfl))) (mvT hZ (hw _ (List.mem_of_getElem? (i := 39) rfl))) (notFace_of_selects (args := #[]) (mvT hZ (hw _ (List.mem_of_getElem? (i := 41) rfl)))) (mvT hZ (hw _ (List.mem_of_getElem? (i := 41) rfl))) (mvT hZ (hw _ (List.mem_of_getElem? (i := 40) rfl))) (by decide) (backOf (W := 1) (own_rmcd1 l Z a0 hw [] a cs h0 n0 Z0 P0 Fc Xo SC hcs) hZ (hw _ (List.mem_of_getElem? (i := 42) rfl)) (hw _ (List.mem_of_getElem? (i := 10) rfl)) (by decide) (by decide)) q12a q12c (g := (mkF m 6 #[.val (.ref a)] [(.ref a), (.int (Nat.toInt32 (2 * nn)))])) rfl (by rw [hml]; rfl) (Steps.refl _) (argsL := []) (rest := [(.int (Nat.toInt32 (2 * nn)))]) (lenOf own_pd8 rfl) rfl (by show 2 * 0 + _ ≤ _; exact Nat.le_of_eq rfl) (hb hby own_d6_6) (fun _ _ => ⟨rfl, e9, (by decide : 0 + 0 ≤ _), (by decide : 0 + 0 ≤ _)⟩)
    dsimp only [Pt.U, Pt.locs, Pt.cells, Pt.slots] at X12 l12 y12 z12 st12 hQ12
    subst l12 y12 z12
    obtain ⟨rfl, N12q, e12⟩ := hQ12
    have N12 := Fr.app N0 N12q
    have k13 : ∀ t, Steps p.tables e below (T12.setTop (mkF m 9 #[.val (.ref a)] [(.int (1 : Int32)), (.int (Nat.toInt32 (2 * nn)))])) t → Steps p.tables e below (s₁.setTop (entryFrame m #[(.ref a)] 1)) t := fun t k => k11 t (st12.trans k)
    have k14 : ∀ t, Steps p.tables e below (T12.setTop (mkF m 10 #[.val (.ref a)] [(.int ((Nat.toInt32 (2 * nn)) >>> ((1 : Int32) &&& 31)))])) t → Steps p.tables e below (s₁.setTop (entryFrame m #[(.ref a)] 1)) t := by
      intro t k
      refine k13 t ?_
      show Steps p.tables e below (T12.setTop (mkF m 9 #[.val (.ref a)] [(.int (1 : Int32)), (.int (Nat.toInt32 (2 * nn)))])) _
      refine XS.ishr X12.here hx rfl (hb hby own_d6_9) rfl ?_
      exact k
    obtain ⟨fs, hr, hrun, hended, hW, hsame⟩ := X12.leave (v := (some (.int ((Nat.toInt32 (2 * nn)) >>> ((1 : Int32) &&& 31))))) (fun h => by rw [Bd.returns] at h; cases h)
    refine ⟨_, _, k14 _ ?_, hrun, hended, _, _, rfl, ?_, ⟨_, rfl⟩, hW, hsame.mono (by decide) (by decide)⟩
    · exact retI X12 hx Bd.returns (hb hby own_d6_10) hr
    · show own_Qle Z a nn oo cf cs h0 n0 _ T12.heap _
      exact ⟨((Nat.toInt32 (2 * nn)) >>> ((1 : Int32) &&& 31)), rfl, N12, e12, (own_le1 hGb.small)⟩
def own_vih (p1 : Int32) : Int32 :=
  if p1 < (55296 : Int32) then (0 : Int32) else
  if p1 < (56320 : Int32) then (1 : Int32) else
  (0 : Int32)
theorem own_d23_0 : decode jdk_89_method_14_code 0 = .ok (.iload_n 0, 1) := by decide +kernel
theorem own_d23_1 : decode jdk_89_method_14_code 1 = .ok (.ldc 75, 2) := by decide +kernel
theorem own_d23_3 : decode jdk_89_method_14_code 3 = .ok (.if_icmp .lt 13, 3) := by decide +kernel
theorem own_d23_6 : decode jdk_89_method_14_code 6 = .ok (.iload_n 0, 1) := by decide +kernel
theorem own_d23_7 : decode jdk_89_method_14_code 7 = .ok (.ldc 76, 2) := by decide +kernel
theorem own_d23_9 : decode jdk_89_method_14_code 9 = .ok (.if_icmp .ge 7, 3) := by decide +kernel
theorem own_d23_12 : decode jdk_89_method_14_code 12 = .ok (.iconst 1, 1) := by decide +kernel
theorem own_d23_13 : decode jdk_89_method_14_code 13 = .ok (.goto 4, 3) := by decide +kernel
theorem own_d23_16 : decode jdk_89_method_14_code 16 = .ok (.iconst 0, 1) := by decide +kernel
theorem own_d23_17 : decode jdk_89_method_14_code 17 = .ok (.ireturn, 1) := by decide +kernel
theorem own_pn2 : plainName "java/lang/Character" = true := by first | (simp [plainName, overriddenIn]; done) | decide +kernel
theorem own_efih (m : MethodId) (x0 : Int32) : entryFrame m #[(.int x0)] 1 = mkF m 0 #[.val (.int x0)] [] := by first | (simp [entryFrame, mkF, argsToLocals, Value.category]; done) | rfl
def own_Qih (Z : State) (p1 : Int32) (h0 : Heap) (n0 : Nat) (v : Option Value) (h : Heap) (L : List Loc) : Prop := v = some (.int (own_vih p1)) ∧ Fr n0 L ∧ h = h0
set_option maxRecDepth 65536 in
set_option maxHeartbeats 40000000 in
theorem own_rmih (l : Launch) (Z : State) (a0 : Array Value) (hw : ∀ d ∈ tables_1, d.before a0 Z = true) (ws : List Jvm.Cond) (p1 : Int32) (h0 : Heap) (n0 : Nat) (Z0 : n0 ≤ h0.size) :
    MetFree l (⟨"java/lang/Character", "isHighSurrogate", "(C)Z"⟩ : MethodName) (head1 (Jvm.Cond.code (⟨"java/lang/Character", "isHighSurrogate", "(C)Z"⟩ : MethodName) jdk_89_method_14_code 1 (some .boolean) :: ws) ({ frames := 0, cells := 0, slots := 0, locals := 0 } : Room)) (fun aa U => aa = #[(.int p1)] ∧ Z.Warmed39 U.vm ∧ U.heap = h0) (fun _ _ _ _ _ => True) (fun _ U o U' => ∃ v L, o = .returned v ∧ own_Qih Z p1 h0 n0 v U'.heap L ∧ FrameEnd U o U' L ({ frames := 0, cells := 0, slots := 0, locals := 0 } : Room).cells ({ frames := 0, cells := 0, slots := 0, locals := 0 } : Room).slots) := by
  refine MetFree.of_bodySF (plainFor_of_name own_pn2) hisR ?_
  intro p e s m args below meth c s₁ Bd hml0 hP hK
  obtain ⟨rfl, hZ, hh⟩ := hP
  have hx := Bd.exec
  have hby := Bd.bytes
  have hml : c.maxLocals = 1 := hml0
  have hown : s.vm.findClass "java/lang/Character" = some m.cls := findClass_of_methodNamed Bd.named
  have hnm := (name_of_methodNamed Bd.named Bd.method).1
  have X0 : Stand p l e ({ frames := 0, cells := 0, slots := 0, locals := 0 } : Room) s m #[(.int p1)] below meth c s₁ [] 0 0 := Stand.of_body Bd
  have e0 : s₁.heap = h0 := by rw [← hh, Bd.state]; rfl
  have N0 := Fr.nil n0
  have pre0 : ∀ t, Steps p.tables e below (s₁.setTop (mkF m 0 #[.val (.int p1)] [])) t → Steps p.tables e below (s₁.setTop (entryFrame m #[(.int p1)] 1)) t := fun t k => castTop (own_efih m p1) k
  have k1 : ∀ t, Steps p.tables e below (s₁.setTop (mkF m 3 #[.val (.int p1)] [(.int (55296 : Int32)), (.int p1)])) t → Steps p.tables e below (s₁.setTop (entryFrame m #[(.int p1)] 1)) t := by
    intro t k
    refine pre0 t ?_
    show Steps p.tables e below (s₁.setTop (mkF m 0 #[.val (.int p1)] [])) _
    refine XS.iloadN X0.here hx rfl (hb hby own_d23_0) rfl ?_
    show Steps p.tables e below (s₁.setTop (mkF m 1 #[.val (.int p1)] [(.int p1)])) _
    refine X0.ldcInt hx hown (mvT hZ (hw _ (List.mem_of_getElem? (i := 106) rfl))) (g := (mkF m 1 #[.val (.int p1)] [(.int p1)])) rfl (hb hby own_d23_1) _ ?_
    exact k
  by_cases hc3_2 : p1 < (55296 : Int32)
  · have k3 : ∀ t, Steps p.tables e below (s₁.setTop (mkF m 17 #[.val (.int p1)] [(.int (0 : Int32))])) t → Steps p.tables e below (s₁.setTop (entryFrame m #[(.int p1)] 1)) t := by
      intro t k
      refine k1 t ?_
      show Steps p.tables e below (s₁.setTop (mkF m 3 #[.val (.int p1)] [(.int (55296 : Int32)), (.int p1)])) _
      refine XS.icmpYes X0.here hx rfl (pc0 := 3) (pc' := 16) rfl (hb hby own_d23_3) rfl (tlt hc3_2).1 (by decide) (by decide) ?_
      show Steps p.tables e below (s₁.setTop (mkF m 16 #[.val (.int p1)] [])) _
      refine XS.iconst X0.here hx rfl (hb hby own_d23_16) ?_
      exact k
    obtain ⟨fs, hr, hrun, hended, hW, hsame⟩ := X0.leave (v := (some (.int (0 : Int32)))) (fun h => by rw [Bd.returns] at h; cases h)
    refine ⟨_, _, k3 _ ?_, hrun, hended, _, _, rfl, ?_, ⟨_, rfl⟩, hW, hsame.mono (by decide) (by decide)⟩
    · exact retN X0 hx (t := .boolean) Bd.returns (by simp) (hb hby own_d23_17) hr
    · have hv : (own_vih p1) = (0 : Int32) := (if_pos hc3_2)
      exact ⟨congrArg (fun z => some (Value.int z)) hv.symm, N0, e0⟩
  · have k4 : ∀ t, Steps p.tables e below (s₁.setTop (mkF m 9 #[.val (.int p1)] [(.int (56320 : Int32)), (.int p1)])) t → Steps p.tables e below (s₁.setTop (entryFrame m #[(.int p1)] 1)) t := by
      intro t k
      refine k1 t ?_
      show Steps p.tables e below (s₁.setTop (mkF m 3 #[.val (.int p1)] [(.int (55296 : Int32)), (.int p1)])) _
      refine XS.icmpNo X0.here hx rfl (hb hby own_d23_3) rfl (flt hc3_2).1 ?_
      show Steps p.tables e below (s₁.setTop (mkF m 6 #[.val (.int p1)] [])) _
      refine XS.iloadN X0.here hx rfl (hb hby own_d23_6) rfl ?_
      show Steps p.tables e below (s₁.setTop (mkF m 7 #[.val (.int p1)] [(.int p1)])) _
      refine X0.ldcInt hx hown (mvT hZ (hw _ (List.mem_of_getElem? (i := 107) rfl))) (g := (mkF m 7 #[.val (.int p1)] [(.int p1)])) rfl (hb hby own_d23_7) _ ?_
      exact k
    by_cases hc9_5 : p1 < (56320 : Int32)
    · have k6 : ∀ t, Steps p.tables e below (s₁.setTop (mkF m 17 #[.val (.int p1)] [(.int (1 : Int32))])) t → Steps p.tables e below (s₁.setTop (entryFrame m #[(.int p1)] 1)) t := by
        intro t k
        refine k4 t ?_
        show Steps p.tables e below (s₁.setTop (mkF m 9 #[.val (.int p1)] [(.int (56320 : Int32)), (.int p1)])) _
        refine XS.icmpNo X0.here hx rfl (hb hby own_d23_9) rfl (tlt hc9_5).2.1 ?_
        show Steps p.tables e below (s₁.setTop (mkF m 12 #[.val (.int p1)] [])) _
        refine XS.iconst X0.here hx rfl (hb hby own_d23_12) ?_
        show Steps p.tables e below (s₁.setTop (mkF m 13 #[.val (.int p1)] [(.int (1 : Int32))])) _
        refine XS.goto X0.here hx rfl (pc0 := 13) (pc' := 17) rfl (hb hby own_d23_13) (by decide) (by decide) ?_
        exact k
      obtain ⟨fs, hr, hrun, hended, hW, hsame⟩ := X0.leave (v := (some (.int (1 : Int32)))) (fun h => by rw [Bd.returns] at h; cases h)
      refine ⟨_, _, k6 _ ?_, hrun, hended, _, _, rfl, ?_, ⟨_, rfl⟩, hW, hsame.mono (by decide) (by decide)⟩
      · exact retN X0 hx (t := .boolean) Bd.returns (by simp) (hb hby own_d23_17) hr
      · have hv : (own_vih p1) = (1 : Int32) := ((if_neg hc3_2).trans (if_pos hc9_5))
        exact ⟨congrArg (fun z => some (Value.int z)) hv.symm, N0, e0⟩
    · have k7 : ∀ t, Steps p.tables e below (s₁.setTop (mkF m 17 #[.val (.int p1)] [(.int (0 : Int32))])) t → Steps p.tables e below (s₁.setTop (entryFrame m #[(.int p1)] 1)) t := by
        intro t k
        refine k4 t ?_
        show Steps p.tables e below (s₁.setTop (mkF m 9 #[.val (.int p1)] [(.int (56320 : Int32)), (.int p1)])) _
        refine XS.icmpYes X0.here hx rfl (pc0 := 9) (pc' := 16) rfl (hb hby own_d23_9) rfl (flt hc9_5).2.1 (by decide) (by decide) ?_
        show Steps p.tables e below (s₁.setTop (mkF m 16 #[.val (.int p1)] [])) _
        refine XS.iconst X0.here hx rfl (hb hby own_d23_16) ?_
        exact k
      obtain ⟨fs, hr, hrun, hended, hW, hsame⟩ := X0.leave (v := (some (.int (0 : Int32)))) (fun h => by rw [Bd.returns] at h; cases h)
      refine ⟨_, _, k7 _ ?_, hrun, hended, _, _, rfl, ?_, ⟨_, rfl⟩, hW, hsame.mono (by decide) (by decide)⟩
      · exact retN X0 hx (t := .boolean) Bd.returns (by simp) (hb hby own_d23_17) hr
      · have hv : (own_vih p1) = (0 : Int32) := ((if_neg hc3_2).trans (if_neg hc9_5))
        exact ⟨congrArg (fun z => some (Value.int z)) hv.symm, N0, e0⟩
def own_vil (p1 : Int32) : Int32 :=
  if p1 < (56320 : Int32) then (0 : Int32) else
  if p1 < (57344 : Int32) then (1 : Int32) else
  (0 : Int32)
theorem own_d25_0 : decode jdk_89_method_15_code 0 = .ok (.iload_n 0, 1) := by decide +kernel
theorem own_d25_1 : decode jdk_89_method_15_code 1 = .ok (.ldc 76, 2) := by decide +kernel
theorem own_d25_3 : decode jdk_89_method_15_code 3 = .ok (.if_icmp .lt 13, 3) := by decide +kernel
theorem own_d25_6 : decode jdk_89_method_15_code 6 = .ok (.iload_n 0, 1) := by decide +kernel
theorem own_d25_7 : decode jdk_89_method_15_code 7 = .ok (.ldc 77, 2) := by decide +kernel
theorem own_d25_9 : decode jdk_89_method_15_code 9 = .ok (.if_icmp .ge 7, 3) := by decide +kernel
theorem own_d25_12 : decode jdk_89_method_15_code 12 = .ok (.iconst 1, 1) := by decide +kernel
theorem own_d25_13 : decode jdk_89_method_15_code 13 = .ok (.goto 4, 3) := by decide +kernel
theorem own_d25_16 : decode jdk_89_method_15_code 16 = .ok (.iconst 0, 1) := by decide +kernel
theorem own_d25_17 : decode jdk_89_method_15_code 17 = .ok (.ireturn, 1) := by decide +kernel
theorem own_efil (m : MethodId) (x0 : Int32) : entryFrame m #[(.int x0)] 1 = mkF m 0 #[.val (.int x0)] [] := by first | (simp [entryFrame, mkF, argsToLocals, Value.category]; done) | rfl
def own_Qil (Z : State) (p1 : Int32) (h0 : Heap) (n0 : Nat) (v : Option Value) (h : Heap) (L : List Loc) : Prop := v = some (.int (own_vil p1)) ∧ Fr n0 L ∧ h = h0
set_option maxRecDepth 65536 in
set_option maxHeartbeats 40000000 in
theorem own_rmil (l : Launch) (Z : State) (a0 : Array Value) (hw : ∀ d ∈ tables_1, d.before a0 Z = true) (ws : List Jvm.Cond) (p1 : Int32) (h0 : Heap) (n0 : Nat) (Z0 : n0 ≤ h0.size) :
    MetFree l (⟨"java/lang/Character", "isLowSurrogate", "(C)Z"⟩ : MethodName) (head1 (Jvm.Cond.code (⟨"java/lang/Character", "isLowSurrogate", "(C)Z"⟩ : MethodName) jdk_89_method_15_code 1 (some .boolean) :: ws) ({ frames := 0, cells := 0, slots := 0, locals := 0 } : Room)) (fun aa U => aa = #[(.int p1)] ∧ Z.Warmed39 U.vm ∧ U.heap = h0) (fun _ _ _ _ _ => True) (fun _ U o U' => ∃ v L, o = .returned v ∧ own_Qil Z p1 h0 n0 v U'.heap L ∧ FrameEnd U o U' L ({ frames := 0, cells := 0, slots := 0, locals := 0 } : Room).cells ({ frames := 0, cells := 0, slots := 0, locals := 0 } : Room).slots) := by
  refine MetFree.of_bodySF (plainFor_of_name own_pn2) hisR ?_
  intro p e s m args below meth c s₁ Bd hml0 hP hK
  obtain ⟨rfl, hZ, hh⟩ := hP
  have hx := Bd.exec
  have hby := Bd.bytes
  have hml : c.maxLocals = 1 := hml0
  have hown : s.vm.findClass "java/lang/Character" = some m.cls := findClass_of_methodNamed Bd.named
  have hnm := (name_of_methodNamed Bd.named Bd.method).1
  have X0 : Stand p l e ({ frames := 0, cells := 0, slots := 0, locals := 0 } : Room) s m #[(.int p1)] below meth c s₁ [] 0 0 := Stand.of_body Bd
  have e0 : s₁.heap = h0 := by rw [← hh, Bd.state]; rfl
  have N0 := Fr.nil n0
  have pre0 : ∀ t, Steps p.tables e below (s₁.setTop (mkF m 0 #[.val (.int p1)] [])) t → Steps p.tables e below (s₁.setTop (entryFrame m #[(.int p1)] 1)) t := fun t k => castTop (own_efil m p1) k
  have k1 : ∀ t, Steps p.tables e below (s₁.setTop (mkF m 3 #[.val (.int p1)] [(.int (56320 : Int32)), (.int p1)])) t → Steps p.tables e below (s₁.setTop (entryFrame m #[(.int p1)] 1)) t := by
    intro t k
    refine pre0 t ?_
    show Steps p.tables e below (s₁.setTop (mkF m 0 #[.val (.int p1)] [])) _
    refine XS.iloadN X0.here hx rfl (hb hby own_d25_0) rfl ?_
    show Steps p.tables e below (s₁.setTop (mkF m 1 #[.val (.int p1)] [(.int p1)])) _
    refine X0.ldcInt hx hown (mvT hZ (hw _ (List.mem_of_getElem? (i := 107) rfl))) (g := (mkF m 1 #[.val (.int p1)] [(.int p1)])) rfl (hb hby own_d25_1) _ ?_
    exact k
  by_cases hc3_2 : p1 < (56320 : Int32)
  · have k3 : ∀ t, Steps p.tables e below (s₁.setTop (mkF m 17 #[.val (.int p1)] [(.int (0 : Int32))])) t → Steps p.tables e below (s₁.setTop (entryFrame m #[(.int p1)] 1)) t := by
      intro t k
      refine k1 t ?_
      show Steps p.tables e below (s₁.setTop (mkF m 3 #[.val (.int p1)] [(.int (56320 : Int32)), (.int p1)])) _
      refine XS.icmpYes X0.here hx rfl (pc0 := 3) (pc' := 16) rfl (hb hby own_d25_3) rfl (tlt hc3_2).1 (by decide) (by decide) ?_
      show Steps p.tables e below (s₁.setTop (mkF m 16 #[.val (.int p1)] [])) _
      refine XS.iconst X0.here hx rfl (hb hby own_d25_16) ?_
      exact k
    obtain ⟨fs, hr, hrun, hended, hW, hsame⟩ := X0.leave (v := (some (.int (0 : Int32)))) (fun h => by rw [Bd.returns] at h; cases h)
    refine ⟨_, _, k3 _ ?_, hrun, hended, _, _, rfl, ?_, ⟨_, rfl⟩, hW, hsame.mono (by decide) (by decide)⟩
    · exact retN X0 hx (t := .boolean) Bd.returns (by simp) (hb hby own_d25_17) hr
    · have hv : (own_vil p1) = (0 : Int32) := (if_pos hc3_2)
      exact ⟨congrArg (fun z => some (Value.int z)) hv.symm, N0, e0⟩
  · have k4 : ∀ t, Steps p.tables e below (s₁.setTop (mkF m 9 #[.val (.int p1)] [(.int (57344 : Int32)), (.int p1)])) t → Steps p.tables e below (s₁.setTop (entryFrame m #[(.int p1)] 1)) t := by
      intro t k
      refine k1 t ?_
      show Steps p.tables e below (s₁.setTop (mkF m 3 #[.val (.int p1)] [(.int (56320 : Int32)), (.int p1)])) _
      refine XS.icmpNo X0.here hx rfl (hb hby own_d25_3) rfl (flt hc3_2).1 ?_
      show Steps p.tables e below (s₁.setTop (mkF m 6 #[.val (.int p1)] [])) _
      refine XS.iloadN X0.here hx rfl (hb hby own_d25_6) rfl ?_
      show Steps p.tables e below (s₁.setTop (mkF m 7 #[.val (.int p1)] [(.int p1)])) _
      refine X0.ldcInt hx hown (mvT hZ (hw _ (List.mem_of_getElem? (i := 115) rfl))) (g := (mkF m 7 #[.val (.int p1)] [(.int p1)])) rfl (hb hby own_d25_7) _ ?_
      exact k
    by_cases hc9_5 : p1 < (57344 : Int32)
    · have k6 : ∀ t, Steps p.tables e below (s₁.setTop (mkF m 17 #[.val (.int p1)] [(.int (1 : Int32))])) t → Steps p.tables e below (s₁.setTop (entryFrame m #[(.int p1)] 1)) t := by
        intro t k
        refine k4 t ?_
        show Steps p.tables e below (s₁.setTop (mkF m 9 #[.val (.int p1)] [(.int (57344 : Int32)), (.int p1)])) _
        refine XS.icmpNo X0.here hx rfl (hb hby own_d25_9) rfl (tlt hc9_5).2.1 ?_
        show Steps p.tables e below (s₁.setTop (mkF m 12 #[.val (.int p1)] [])) _
        refine XS.iconst X0.here hx rfl (hb hby own_d25_12) ?_
        show Steps p.tables e below (s₁.setTop (mkF m 13 #[.val (.int p1)] [(.int (1 : Int32))])) _
        refine XS.goto X0.here hx rfl (pc0 := 13) (pc' := 17) rfl (hb hby own_d25_13) (by decide) (by decide) ?_
        exact k
      obtain ⟨fs, hr, hrun, hended, hW, hsame⟩ := X0.leave (v := (some (.int (1 : Int32)))) (fun h => by rw [Bd.returns] at h; cases h)
      refine ⟨_, _, k6 _ ?_, hrun, hended, _, _, rfl, ?_, ⟨_, rfl⟩, hW, hsame.mono (by decide) (by decide)⟩
      · exact retN X0 hx (t := .boolean) Bd.returns (by simp) (hb hby own_d25_17) hr
      · have hv : (own_vil p1) = (1 : Int32) := ((if_neg hc3_2).trans (if_pos hc9_5))
        exact ⟨congrArg (fun z => some (Value.int z)) hv.symm, N0, e0⟩
    · have k7 : ∀ t, Steps p.tables e below (s₁.setTop (mkF m 17 #[.val (.int p1)] [(.int (0 : Int32))])) t → Steps p.tables e below (s₁.setTop (entryFrame m #[(.int p1)] 1)) t := by
        intro t k
        refine k4 t ?_
        show Steps p.tables e below (s₁.setTop (mkF m 9 #[.val (.int p1)] [(.int (57344 : Int32)), (.int p1)])) _
        refine XS.icmpYes X0.here hx rfl (pc0 := 9) (pc' := 16) rfl (hb hby own_d25_9) rfl (flt hc9_5).2.1 (by decide) (by decide) ?_
        show Steps p.tables e below (s₁.setTop (mkF m 16 #[.val (.int p1)] [])) _
        refine XS.iconst X0.here hx rfl (hb hby own_d25_16) ?_
        exact k
      obtain ⟨fs, hr, hrun, hended, hW, hsame⟩ := X0.leave (v := (some (.int (0 : Int32)))) (fun h => by rw [Bd.returns] at h; cases h)
      refine ⟨_, _, k7 _ ?_, hrun, hended, _, _, rfl, ?_, ⟨_, rfl⟩, hW, hsame.mono (by decide) (by decide)⟩
      · exact retN X0 hx (t := .boolean) Bd.returns (by simp) (hb hby own_d25_17) hr
      · have hv : (own_vil p1) = (0 : Int32) := ((if_neg hc3_2).trans (if_neg hc9_5))
        exact ⟨congrArg (fun z => some (Value.int z)) hv.symm, N0, e0⟩
def own_cpn (c : Nat → Int32) : Nat → Nat → Nat
  | 0, _ => 0
  | 1, _ => 1
  | d + 2, i => if own_vih (c i) = 0 then 1 + own_cpn c (d + 1) (i + 1) else if own_vil (c (i + 1)) = 0 then 1 + own_cpn c (d + 1) (i + 1) else 1 + own_cpn c d (i + 2)
theorem own_cpn2 (c : Nat → Int32) (d i : Nat) : own_cpn c (d + 2) i = if own_vih (c i) = 0 then 1 + own_cpn c (d + 1) (i + 1) else if own_vil (c (i + 1)) = 0 then 1 + own_cpn c (d + 1) (i + 1) else 1 + own_cpn c d (i + 2) := rfl
theorem own_sub1 {p3 : Int32} {n : Nat} (h : p3.toInt = (n : Int)) : (p3 - (1 : Int32)).toInt = (n : Int) - 1 := by
  have q := c_isub p3 1; have r := rng32 (p3 - 1); have r2 := rng32 p3; have e : (1 : Int32).toInt = 1 := rfl; omega
theorem own_sub0 {p3 : Int32} {n : Nat} (h : p3.toInt = (n : Int)) : (p3 - (0 : Int32)).toInt = (n : Int) := by
  have q := c_isub p3 0; have r := rng32 (p3 - 0); have r2 := rng32 p3; have e : (0 : Int32).toInt = 0 := rfl; omega
theorem own_cpz {i5 p3 : Int32} {j n : Nat} (h5 : i5.toInt = (j : Int)) (h3 : p3.toInt = (n : Int)) (q : n ≤ j + 1) : ¬ (i5 < (p3 - (1 : Int32))) := by
  rw [Int32.lt_iff_toInt_lt, own_sub1 h3]; omega
theorem own_cpl {i5 p3 : Int32} {j n : Nat} (h5 : i5.toInt = (j : Int)) (h3 : p3.toInt = (n : Int)) (hn : n ≤ 1000000) (q : i5 < (p3 - (1 : Int32))) : j + 1 < n := by
  rw [Int32.lt_iff_toInt_lt, own_sub1 h3] at q; omega
theorem own_cp0 {p3 : Int32} {n o : Nat} {cf : Nat → Int32} (h : p3.toInt = (n : Int)) : (p3 - (0 : Int32)).toInt + ((own_cpn cf (n - 0) (o + 0) : Nat) : Int) = ((own_cpn cf n o : Nat) : Int) + ((n - 0 : Nat) : Int) := by
  have q := own_sub0 h
  show (p3 - (0 : Int32)).toInt + ((own_cpn cf n o : Nat) : Int) = ((own_cpn cf n o : Nat) : Int) + ((n : Nat) : Int)
  omega
theorem own_cpe {i4 i5 p3 : Int32} {j n o : Nat} {cf : Nat → Int32} (h5 : i5.toInt = (j : Int)) (h3 : p3.toInt = (n : Int)) (hk : j ≤ n) (q : ¬ (i5 < (p3 - (1 : Int32)))) (h : i4.toInt + ((own_cpn cf (n - j) (o + j) : Nat) : Int) = ((own_cpn cf n o : Nat) : Int) + ((n - j : Nat) : Int)) : i4.toInt = ((own_cpn cf n o : Nat) : Int) := by
  rw [Int32.lt_iff_toInt_lt, own_sub1 h3] at q
  have z : n - j = 0 ∨ n - j = 1 := by omega
  rcases z with z | z
  · rw [z] at h; have e : own_cpn cf 0 (o + j) = 0 := rfl; rw [e] at h; omega
  · rw [z] at h; have e : own_cpn cf 1 (o + j) = 1 := rfl; rw [e] at h; omega
theorem own_cpA {i4 : Int32} {j n o : Nat} {cf : Nat → Int32} (hj : j + 1 < n) (h1 : own_vih (cf (o + j)) = 0) (h : i4.toInt + ((own_cpn cf (n - j) (o + j) : Nat) : Int) = ((own_cpn cf n o : Nat) : Int) + ((n - j : Nat) : Int)) : i4.toInt + ((own_cpn cf (n - (j + 1)) (o + (j + 1)) : Nat) : Int) = ((own_cpn cf n o : Nat) : Int) + ((n - (j + 1) : Nat) : Int) := by
  obtain ⟨d, rfl⟩ : ∃ d, n = j + (d + 2) := ⟨n - j - 2, by omega⟩
  rw [show j + (d + 2) - j = d + 2 by omega] at h
  rw [show j + (d + 2) - (j + 1) = d + 1 by omega, show o + (j + 1) = o + j + 1 from rfl]
  rw [own_cpn2 cf d (o + j), if_pos h1] at h; omega
theorem own_cpB {i4 : Int32} {j n o : Nat} {cf : Nat → Int32} (hj : j + 1 < n) (h1 : ¬ (own_vih (cf (o + j)) = 0)) (h2 : own_vil (cf (o + (j + 1))) = 0) (h : i4.toInt + ((own_cpn cf (n - j) (o + j) : Nat) : Int) = ((own_cpn cf n o : Nat) : Int) + ((n - j : Nat) : Int)) : i4.toInt + ((own_cpn cf (n - (j + 1)) (o + (j + 1)) : Nat) : Int) = ((own_cpn cf n o : Nat) : Int) + ((n - (j + 1) : Nat) : Int) := by
  obtain ⟨d, rfl⟩ : ∃ d, n = j + (d + 2) := ⟨n - j - 2, by omega⟩
  rw [show j + (d + 2) - j = d + 2 by omega] at h
  rw [show j + (d + 2) - (j + 1) = d + 1 by omega]
  rw [show o + (j + 1) = o + j + 1 from rfl] at h2 ⊢
  rw [own_cpn2 cf d (o + j), if_neg h1, if_pos h2] at h; omega
theorem own_cpn_le (c : Nat → Int32) : ∀ d i, own_cpn c d i ≤ d
  | 0, _ => Nat.le_refl _
  | 1, _ => Nat.le_refl _
  | d + 2, i => by
    have h1 := own_cpn_le c (d + 1) (i + 1)
    have h2 := own_cpn_le c d (i + 2)
    rw [own_cpn2]; split
    · omega
    · split <;> omega
theorem own_cpC {i4 : Int32} {j n o : Nat} {cf : Nat → Int32} (hj : j + 1 < n) (h1 : ¬ (own_vih (cf (o + j)) = 0)) (h2 : ¬ (own_vil (cf (o + (j + 1))) = 0)) (h : i4.toInt + ((own_cpn cf (n - j) (o + j) : Nat) : Int) = ((own_cpn cf n o : Nat) : Int) + ((n - j : Nat) : Int)) : (i4 + (-1 : Int32)).toInt + ((own_cpn cf (n - (j + 2)) (o + (j + 2)) : Nat) : Int) = ((own_cpn cf n o : Nat) : Int) + ((n - (j + 2) : Nat) : Int) := by
  obtain ⟨d, rfl⟩ : ∃ d, n = j + (d + 2) := ⟨n - j - 2, by omega⟩
  rw [show j + (d + 2) - j = d + 2 by omega] at h
  have hl := own_cpn_le cf (d + 2) (o + j)
  rw [show j + (d + 2) - (j + 2) = d by omega, show o + (j + 2) = o + j + 2 from rfl]
  rw [show o + (j + 1) = o + j + 1 from rfl] at h2
  have q := c_iadd i4 (-1); have r := rng32 (i4 + -1); have r2 := rng32 i4; have e : (-1 : Int32).toInt = -1 := rfl
  rw [own_cpn2 cf d (o + j), if_neg h1, if_neg h2] at h hl; omega
theorem own_ih0 {x : Int32} (h : ¬ ((255 : Int32) < x)) : own_vih x = 0 := by
  unfold own_vih; rw [if_pos]
  rw [Int32.lt_iff_toInt_lt] at h ⊢
  have e1 : (255 : Int32).toInt = 255 := rfl; have e2 : (55296 : Int32).toInt = 55296 := rfl; omega
theorem own_cpnL (c : Nat → Int32) : ∀ d i, (∀ k, k < d → ¬ ((255 : Int32) < c (i + k))) → own_cpn c d i = d
  | 0, _, _ => rfl
  | 1, _, _ => rfl
  | d + 2, i, h => by
    have h1 := own_cpnL c (d + 1) (i + 1) (fun k hk => by have z := h (k + 1) (by omega); rw [show i + 1 + k = i + (k + 1) by omega]; exact z)
    rw [own_cpn2, if_pos (show own_vih (c i) = 0 from own_ih0 (h 0 (by omega))), h1]; omega
theorem own_cpL {p3 : Int32} {n o : Nat} {cf : Nat → Int32} (h : p3.toInt = (n : Int)) (hall : ∀ i, i < n → ¬ ((255 : Int32) < cf (o + i))) : (p3 - (0 : Int32)).toInt = ((own_cpn cf n o : Nat) : Int) := by
  rw [own_sub0 h, own_cpnL cf n o hall]
theorem own_io1 {x p2 : Int32} {k : Nat} (h : x.toInt = (k : Int)) (h1 : ¬ (x < (1 : Int32))) (h2 : ¬ (p2 < x)) : 1 ≤ k ∧ (k : Int) ≤ p2.toInt := by
  rw [Int32.lt_iff_toInt_lt] at h1 h2; have e : (1 : Int32).toInt = 1 := rfl; omega
theorem own_ioa {x p2 : Int32} {k : Nat} (h : x.toInt = (k : Int)) (h1 : x < (1 : Int32)) : ¬ (1 ≤ k ∧ (k : Int) ≤ p2.toInt) := by
  rw [Int32.lt_iff_toInt_lt] at h1; have e : (1 : Int32).toInt = 1 := rfl; omega
theorem own_iob {x p2 : Int32} {k : Nat} (h : x.toInt = (k : Int)) (h1 : p2 < x) : ¬ (1 ≤ k ∧ (k : Int) ≤ p2.toInt) := by
  rw [Int32.lt_iff_toInt_lt] at h1; omega
theorem own_chL {vs : List Int32} (h : ∀ v ∈ vs, own_ch v) : ∀ i, i < vs.length → own_ch (own_of vs (0 + i)) := by
  intro i hi
  rw [Nat.zero_add]; unfold own_of; rw [List.getD_eq_getElem?_getD, List.getElem?_eq_getElem hi]
  exact h _ (List.getElem_mem hi)

theorem own_d10_0 : decode jdk_41_method_12_code 0 = .ok (.iload_n 0, 1) := by decide +kernel
theorem own_d10_1 : decode jdk_41_method_12_code 1 = .ok (.ifCond .lt 13, 3) := by decide +kernel
theorem own_d10_4 : decode jdk_41_method_12_code 4 = .ok (.iload_n 0, 1) := by decide +kernel
theorem own_d10_5 : decode jdk_41_method_12_code 5 = .ok (.iload_n 1, 1) := by decide +kernel
theorem own_d10_6 : decode jdk_41_method_12_code 6 = .ok (.if_icmp .gt 8, 3) := by decide +kernel
theorem own_d10_9 : decode jdk_41_method_12_code 9 = .ok (.iload_n 1, 1) := by decide +kernel
theorem own_d10_10 : decode jdk_41_method_12_code 10 = .ok (.iload_n 2, 1) := by decide +kernel
theorem own_d10_11 : decode jdk_41_method_12_code 11 = .ok (.if_icmp .le 11, 3) := by decide +kernel
theorem own_d10_22 : decode jdk_41_method_12_code 22 = .ok (.iload_n 0, 1) := by decide +kernel
theorem own_d10_23 : decode jdk_41_method_12_code 23 = .ok (.ireturn, 1) := by decide +kernel
theorem own_pn3 : plainName "jdk/internal/util/Preconditions" = true := by first | (simp [plainName, overriddenIn]; done) | decide +kernel
theorem own_efpf (m : MethodId) (x1 : Int32) (x2 : Int32) : entryFrame m #[(.int (0 : Int32)), (.int x1), (.int x2), .null] 4 = mkF m 0 #[.val (.int (0 : Int32)), .val (.int x1), .val (.int x2), .val .null] [] := by first | (simp [entryFrame, mkF, argsToLocals, Value.category]; done) | rfl
def own_Qpf (Z : State) (p2 : Int32) (p3 : Int32) (nn : Nat) (h0 : Heap) (n0 : Nat) (v : Option Value) (h : Heap) (L : List Loc) : Prop := v = some (.int (0 : Int32)) ∧ Fr n0 L ∧ h = h0
def own_Rpf : Room := { frames := 0, cells := 0, slots := 0, locals := 0 }
set_option maxRecDepth 65536 in
set_option maxHeartbeats 40000000 in
theorem own_rmpf (l : Launch) (Z : State) (a0 : Array Value) (hw : ∀ d ∈ tables_1, d.before a0 Z = true) (ws : List Jvm.Cond) (p2 : Int32) (p3 : Int32) (nn : Nat) (h0 : Heap) (n0 : Nat) (Z0 : n0 ≤ h0.size) (hp2 : p2.toInt = (nn : Int)) (hp3 : p3.toInt = (nn : Int)) :
    MetFree l (⟨"jdk/internal/util/Preconditions", "checkFromToIndex", "(IIILjava/util/function/BiFunction;)I"⟩ : MethodName) (head1 (Jvm.Cond.code (⟨"jdk/internal/util/Preconditions", "checkFromToIndex", "(IIILjava/util/function/BiFunction;)I"⟩ : MethodName) jdk_41_method_12_code 4 (some .int) :: ws) own_Rpf) (fun aa U => aa = #[(.int (0 : Int32)), (.int p2), (.int p3), .null] ∧ Z.Warmed39 U.vm ∧ U.heap = h0) (fun _ _ _ _ _ => True) (fun _ U o U' => ∃ v L, o = .returned v ∧ own_Qpf Z p2 p3 nn h0 n0 v U'.heap L ∧ FrameEnd U o U' L own_Rpf.cells own_Rpf.slots) := by
  refine MetFree.of_bodySF (plainFor_of_name own_pn3) hisR ?_
  intro p e s m args below meth c s₁ Bd hml0 hP hK
  obtain ⟨rfl, hZ, hh⟩ := hP
  have hx := Bd.exec
  have hby := Bd.bytes
  have hml : c.maxLocals = 4 := hml0
  have hown : s.vm.findClass "jdk/internal/util/Preconditions" = some m.cls := findClass_of_methodNamed Bd.named
  have hnm := (name_of_methodNamed Bd.named Bd.method).1
  have X0 : Stand p l e own_Rpf s m #[(.int (0 : Int32)), (.int p2), (.int p3), .null] below meth c s₁ [] 0 0 := Stand.of_body Bd
  have e0 : s₁.heap = h0 := by rw [← hh, Bd.state]; rfl
  have N0 := Fr.nil n0
  have pre0 : ∀ t, Steps p.tables e below (s₁.setTop (mkF m 0 #[.val (.int (0 : Int32)), .val (.int p2), .val (.int p3), .val .null] [])) t → Steps p.tables e below (s₁.setTop (entryFrame m #[(.int (0 : Int32)), (.int p2), (.int p3), .null] 4)) t := fun t k => castTop (own_efpf m p2 p3) k
  have k1 : ∀ t, Steps p.tables e below (s₁.setTop (mkF m 23 #[.val (.int (0 : Int32)), .val (.int p2), .val (.int p3), .val .null] [(.int (0 : Int32))])) t → Steps p.tables e below (s₁.setTop (entryFrame m #[(.int (0 : Int32)), (.int p2), (.int p3), .null] 4)) t := by
    intro t k
    refine pre0 t ?_
    show Steps p.tables e below (s₁.setTop (mkF m 0 #[.val (.int (0 : Int32)), .val (.int p2), .val (.int p3), .val .null] [])) _
    refine XS.iloadN X0.here hx rfl (hb hby own_d10_0) rfl ?_
    show Steps p.tables e below (s₁.setTop (mkF m 1 #[.val (.int (0 : Int32)), .val (.int p2), .val (.int p3), .val .null] [(.int (0 : Int32))])) _
    refine XS.ifNo X0.here hx rfl (hb hby own_d10_1) rfl ((if0 _ _).trans (flt (Int32.lt_irrefl : ¬ ((0 : Int32) < (0 : Int32)))).1) ?_
    show Steps p.tables e below (s₁.setTop (mkF m 4 #[.val (.int (0 : Int32)), .val (.int p2), .val (.int p3), .val .null] [])) _
    refine XS.iloadN X0.here hx rfl (hb hby own_d10_4) rfl ?_
    show Steps p.tables e below (s₁.setTop (mkF m 5 #[.val (.int (0 : Int32)), .val (.int p2), .val (.int p3), .val .null] [(.int (0 : Int32))])) _
    refine XS.iloadN X0.here hx rfl (hb hby own_d10_5) rfl ?_
    show Steps p.tables e below (s₁.setTop (mkF m 6 #[.val (.int (0 : Int32)), .val (.int p2), .val (.int p3), .val .null] [(.int p2), (.int (0 : Int32))])) _
    refine XS.icmpNo X0.here hx rfl (hb hby own_d10_6) rfl (flt (own_nn hp2)).2.2.1 ?_
    show Steps p.tables e below (s₁.setTop (mkF m 9 #[.val (.int (0 : Int32)), .val (.int p2), .val (.int p3), .val .null] [])) _
    refine XS.iloadN X0.here hx rfl (hb hby own_d10_9) rfl ?_
    show Steps p.tables e below (s₁.setTop (mkF m 10 #[.val (.int (0 : Int32)), .val (.int p2), .val (.int p3), .val .null] [(.int p2)])) _
    refine XS.iloadN X0.here hx rfl (hb hby own_d10_10) rfl ?_
    show Steps p.tables e below (s₁.setTop (mkF m 11 #[.val (.int (0 : Int32)), .val (.int p2), .val (.int p3), .val .null] [(.int p3), (.int p2)])) _
    refine XS.icmpYes X0.here hx rfl (pc0 := 11) (pc' := 22) rfl (hb hby own_d10_11) rfl (flt (own_nlt hp3 hp2 (Nat.le_refl _))).2.2.2 (by decide) (by decide) ?_
    show Steps p.tables e below (s₁.setTop (mkF m 22 #[.val (.int (0 : Int32)), .val (.int p2), .val (.int p3), .val .null] [])) _
    refine XS.iloadN X0.here hx rfl (hb hby own_d10_22) rfl ?_
    exact k
  obtain ⟨fs, hr, hrun, hended, hW, hsame⟩ := X0.leave (v := (some (.int (0 : Int32)))) (fun h => by rw [Bd.returns] at h; cases h)
  refine ⟨_, _, k1 _ ?_, hrun, hended, _, _, rfl, ?_, ⟨_, rfl⟩, hW, hsame.mono (by decide) (by decide)⟩
  · exact retI X0 hx Bd.returns (hb hby own_d10_23) hr
  · show own_Qpf Z p2 p3 nn h0 n0 _ s₁.heap _
    exact ⟨rfl, N0, e0⟩
theorem own_d9_0 : decode jdk_31_method_18_code 0 = .ok (.iload_n 0, 1) := by decide +kernel
theorem own_d9_1 : decode jdk_31_method_18_code 1 = .ok (.iload_n 1, 1) := by decide +kernel
theorem own_d9_2 : decode jdk_31_method_18_code 2 = .ok (.iload_n 2, 1) := by decide +kernel
theorem own_d9_3 : decode jdk_31_method_18_code 3 = .ok (.aconst_null, 1) := by decide +kernel
theorem own_d9_4 : decode jdk_31_method_18_code 4 = .ok (.invokestatic 111, 3) := by decide +kernel
theorem own_d9_7 : decode jdk_31_method_18_code 7 = .ok (.ireturn, 1) := by decide +kernel
theorem own_pd9 : parseMethodDescriptor "(IIILjava/util/function/BiFunction;)I" = some ⟨[.int, .int, .int, (.object "java/util/function/BiFunction")], some .int⟩ := by decide +kernel
theorem own_pn4 : plainName "java/util/Objects" = true := by first | (simp [plainName, overriddenIn]; done) | decide +kernel
theorem own_efof (m : MethodId) (x1 : Int32) (x2 : Int32) : entryFrame m #[(.int (0 : Int32)), (.int x1), (.int x2)] 3 = mkF m 0 #[.val (.int (0 : Int32)), .val (.int x1), .val (.int x2)] [] := by first | (simp [entryFrame, mkF, argsToLocals, Value.category]; done) | rfl
def own_Qof (Z : State) (p2 : Int32) (p3 : Int32) (nn : Nat) (h0 : Heap) (n0 : Nat) (v : Option Value) (h : Heap) (L : List Loc) : Prop := v = some (.int (0 : Int32)) ∧ Fr n0 L ∧ h = h0
def own_Rof : Room := { frames := 1, cells := 0, slots := 0, locals := 15 }
set_option maxRecDepth 65536 in
set_option maxHeartbeats 40000000 in
theorem own_rmof (l : Launch) (Z : State) (a0 : Array Value) (hw : ∀ d ∈ tables_1, d.before a0 Z = true) (ws : List Jvm.Cond) (p2 : Int32) (p3 : Int32) (nn : Nat) (h0 : Heap) (n0 : Nat) (Z0 : n0 ≤ h0.size) (hp2 : p2.toInt = (nn : Int)) (hp3 : p3.toInt = (nn : Int)) :
    MetFree l (⟨"java/util/Objects", "checkFromToIndex", "(III)I"⟩ : MethodName) (head1 (Jvm.Cond.code (⟨"java/util/Objects", "checkFromToIndex", "(III)I"⟩ : MethodName) jdk_31_method_18_code 3 (some .int) :: ws) own_Rof) (fun aa U => aa = #[(.int (0 : Int32)), (.int p2), (.int p3)] ∧ Z.Warmed39 U.vm ∧ U.heap = h0) (fun _ _ _ _ _ => True) (fun _ U o U' => ∃ v L, o = .returned v ∧ own_Qof Z p2 p3 nn h0 n0 v U'.heap L ∧ FrameEnd U o U' L own_Rof.cells own_Rof.slots) := by
  refine MetFree.of_bodySF (plainFor_of_name own_pn4) hisR ?_
  intro p e s m args below meth c s₁ Bd hml0 hP hK
  obtain ⟨rfl, hZ, hh⟩ := hP
  have hx := Bd.exec
  have hby := Bd.bytes
  have hml : c.maxLocals = 3 := hml0
  have hown : s.vm.findClass "java/util/Objects" = some m.cls := findClass_of_methodNamed Bd.named
  have hnm := (name_of_methodNamed Bd.named Bd.method).1
  have X0 : Stand p l e own_Rof s m #[(.int (0 : Int32)), (.int p2), (.int p3)] below meth c s₁ [] 0 0 := Stand.of_body Bd
  have e0 : s₁.heap = h0 := by rw [← hh, Bd.state]; rfl
  have N0 := Fr.nil n0
  have pre0 : ∀ t, Steps p.tables e below (s₁.setTop (mkF m 0 #[.val (.int (0 : Int32)), .val (.int p2), .val (.int p3)] [])) t → Steps p.tables e below (s₁.setTop (entryFrame m #[(.int (0 : Int32)), (.int p2), (.int p3)] 3)) t := fun t k => castTop (own_efof m p2 p3) k
  have k1 : ∀ t, Steps p.tables e below (s₁.setTop (mkF m 4 #[.val (.int (0 : Int32)), .val (.int p2), .val (.int p3)] [.null, (.int p3), (.int p2), (.int (0 : Int32))])) t → Steps p.tables e below (s₁.setTop (entryFrame m #[(.int (0 : Int32)), (.int p2), (.int p3)] 3)) t := by
    intro t k
    refine pre0 t ?_
    show Steps p.tables e below (s₁.setTop (mkF m 0 #[.val (.int (0 : Int32)), .val (.int p2), .val (.int p3)] [])) _
    refine XS.iloadN X0.here hx rfl (hb hby own_d9_0) rfl ?_
    show Steps p.tables e below (s₁.setTop (mkF m 1 #[.val (.int (0 : Int32)), .val (.int p2), .val (.int p3)] [(.int (0 : Int32))])) _
    refine XS.iloadN X0.here hx rfl (hb hby own_d9_1) rfl ?_
    show Steps p.tables e below (s₁.setTop (mkF m 2 #[.val (.int (0 : Int32)), .val (.int p2), .val (.int p3)] [(.int p2), (.int (0 : Int32))])) _
    refine XS.iloadN X0.here hx rfl (hb hby own_d9_2) rfl ?_
    show Steps p.tables e below (s₁.setTop (mkF m 3 #[.val (.int (0 : Int32)), .val (.int p2), .val (.int p3)] [(.int p3), (.int p2), (.int (0 : Int32))])) _
    refine XS.aconstNull X0.here hx rfl (hb hby own_d9_3) ?_
    exact k
  obtain ⟨_, _, ⟨T2, L2, k2c, n2⟩, -, X2, ⟨Lc2, hQ2, l2, y2, z2⟩, st2⟩ := Jvm.LawKit.callS X0 hx (y := (⟨"jdk/internal/util/Preconditions", "checkFromToIndex", "(IIILjava/util/function/BiFunction;)I"⟩ : MethodName)) hown (mvT hZ (hw _ (List.mem_of_getElem? (i := 54) rfl))) (mvT hZ (hw _ (List.mem_of_getElem? (i := 55) rfl))) (mvT hZ (hw _ (List.mem_of_getElem? (i := 56) rfl))) (mvT hZ (hw _ (List.mem_of_getElem? (i := 57) rfl))) (by decide) (backOf (W := 0) (own_rmpf l Z a0 hw [] p2 p3 nn h0 n0 Z0 hp2 hp3) hZ (hw _ (List.mem_of_getElem? (i := 57) rfl)) (hw _ (List.mem_of_getElem? (i := 56) rfl)) (by decide) (by decide)) (g := (mkF m 4 #[.val (.int (0 : Int32)), .val (.int p2), .val (.int p3)] [.null, (.int p3), (.int p2), (.int (0 : Int32))])) rfl (by rw [hml]; rfl) (argsL := [(.int (0 : Int32)), (.int p2), (.int p3), .null]) (rest := []) (lenOf own_pd9 rfl) rfl (by show 2 * 0 + _ ≤ _; exact Nat.le_of_eq rfl) (hb hby own_d9_4) (fun _ _ => ⟨rfl, e0, (by decide : 0 + 0 ≤ _), (by decide : 0 + 0 ≤ _)⟩)
  dsimp only [Pt.U, Pt.locs, Pt.cells, Pt.slots] at X2 l2 y2 z2 st2 hQ2
  subst l2 y2 z2
  obtain ⟨rfl, N2q, e2⟩ := hQ2
  have N2 := Fr.app N0 N2q
  have k3 : ∀ t, Steps p.tables e below (T2.setTop (mkF m 7 #[.val (.int (0 : Int32)), .val (.int p2), .val (.int p3)] [(.int (0 : Int32))])) t → Steps p.tables e below (s₁.setTop (entryFrame m #[(.int (0 : Int32)), (.int p2), (.int p3)] 3)) t := fun t k => k1 t (st2 t k)
  obtain ⟨fs, hr, hrun, hended, hW, hsame⟩ := X2.leave (v := (some (.int (0 : Int32)))) (fun h => by rw [Bd.returns] at h; cases h)
  refine ⟨_, _, k3 _ ?_, hrun, hended, _, _, rfl, ?_, ⟨_, rfl⟩, hW, hsame.mono (by decide) (by decide)⟩
  · exact retI X2 hx Bd.returns (hb hby own_d9_7) hr
  · show own_Qof Z p2 p3 nn h0 n0 _ T2.heap _
    exact ⟨rfl, N2, e2⟩
theorem own_d22_0 : decode jdk_52_method_11_code 0 = .ok (.getstatic 44, 3) := by decide +kernel
theorem own_d22_3 : decode jdk_52_method_11_code 3 = .ok (.ifCond .ne 16, 3) := by decide +kernel
theorem own_d22_19 : decode jdk_52_method_11_code 19 = .ok (.iload_n 2, 1) := by decide +kernel
theorem own_d22_20 : decode jdk_52_method_11_code 20 = .ok (.iload_n 1, 1) := by decide +kernel
theorem own_d22_21 : decode jdk_52_method_11_code 21 = .ok (.isub, 1) := by decide +kernel
theorem own_d22_22 : decode jdk_52_method_11_code 22 = .ok (.istore 4, 2) := by decide +kernel
theorem own_d22_24 : decode jdk_52_method_11_code 24 = .ok (.iload_n 1, 1) := by decide +kernel
theorem own_d22_25 : decode jdk_52_method_11_code 25 = .ok (.istore 5, 2) := by decide +kernel
theorem own_d22_27 : decode jdk_52_method_11_code 27 = .ok (.iload_n 3, 1) := by decide +kernel
theorem own_d22_28 : decode jdk_52_method_11_code 28 = .ok (.ifCond .eq 16, 3) := by decide +kernel
theorem own_d22_44 : decode jdk_52_method_11_code 44 = .ok (.iload 5, 2) := by decide +kernel
theorem own_d22_46 : decode jdk_52_method_11_code 46 = .ok (.iload_n 2, 1) := by decide +kernel
theorem own_d22_47 : decode jdk_52_method_11_code 47 = .ok (.iconst 1, 1) := by decide +kernel
theorem own_d22_48 : decode jdk_52_method_11_code 48 = .ok (.isub, 1) := by decide +kernel
theorem own_d22_49 : decode jdk_52_method_11_code 49 = .ok (.if_icmp .ge 39, 3) := by decide +kernel
theorem own_d22_52 : decode jdk_52_method_11_code 52 = .ok (.aload_n 0, 1) := by decide +kernel
theorem own_d22_53 : decode jdk_52_method_11_code 53 = .ok (.iload 5, 2) := by decide +kernel
theorem own_d22_55 : decode jdk_52_method_11_code 55 = .ok (.iinc 5 1, 3) := by decide +kernel
theorem own_d22_58 : decode jdk_52_method_11_code 58 = .ok (.invokestatic 71, 3) := by decide +kernel
theorem own_d22_61 : decode jdk_52_method_11_code 61 = .ok (.invokestatic 75, 3) := by decide +kernel
theorem own_d22_64 : decode jdk_52_method_11_code 64 = .ok (.ifCond .eq (-20), 3) := by decide +kernel
theorem own_d22_67 : decode jdk_52_method_11_code 67 = .ok (.aload_n 0, 1) := by decide +kernel
theorem own_d22_68 : decode jdk_52_method_11_code 68 = .ok (.iload 5, 2) := by decide +kernel
theorem own_d22_70 : decode jdk_52_method_11_code 70 = .ok (.invokestatic 71, 3) := by decide +kernel
theorem own_d22_73 : decode jdk_52_method_11_code 73 = .ok (.invokestatic 81, 3) := by decide +kernel
theorem own_d22_76 : decode jdk_52_method_11_code 76 = .ok (.ifCond .eq (-32), 3) := by decide +kernel
theorem own_d22_79 : decode jdk_52_method_11_code 79 = .ok (.iinc 4 (-1), 3) := by decide +kernel
theorem own_d22_82 : decode jdk_52_method_11_code 82 = .ok (.iinc 5 1, 3) := by decide +kernel
theorem own_d22_85 : decode jdk_52_method_11_code 85 = .ok (.goto (-41), 3) := by decide +kernel
theorem own_d22_88 : decode jdk_52_method_11_code 88 = .ok (.iload 4, 2) := by decide +kernel
theorem own_d22_90 : decode jdk_52_method_11_code 90 = .ok (.ireturn, 1) := by decide +kernel
theorem own_pd10 : parseMethodDescriptor "(C)Z" = some ⟨[.char], some .boolean⟩ := by decide +kernel
theorem own_efcp (m : MethodId) (x0 : Addr) (x2 : Int32) : entryFrame m #[(.ref x0), (.int (0 : Int32)), (.int x2), (.int (0 : Int32))] 6 = mkF m 0 #[.val (.ref x0), .val (.int (0 : Int32)), .val (.int x2), .val (.int (0 : Int32)), .unset, .unset] [] := by first | (simp [entryFrame, mkF, argsToLocals, Value.category]; done) | rfl
def own_Qcp (Z : State) (p1 : Addr) (p3 : Int32) (nn : Nat) (oo : Nat) (cf : Nat → Int32) (h0 : Heap) (n0 : Nat) (v : Option Value) (h : Heap) (L : List Loc) : Prop := ∃ (r : Int32), v = some (.int r) ∧ Fr n0 L ∧ h = h0 ∧ (r.toInt = ((own_cpn cf nn oo : Nat) : Int))
def own_Rcp : Room := { frames := 1, cells := 0, slots := 0, locals := 13 }
set_option maxRecDepth 65536 in
set_option maxHeartbeats 40000000 in
theorem own_rmcp (l : Launch) (Z : State) (a0 : Array Value) (hw : ∀ d ∈ tables_1, d.before a0 Z = true) (ws : List Jvm.Cond) (p1 : Addr) (p3 : Int32) (nn : Nat) (oo : Nat) (cf : Nat → Int32) (h0 : Heap) (n0 : Nat) (Z0 : n0 ≤ h0.size) (P0 : own_G Z h0 p1 .byte (2 * nn) (own_u16 cf oo)) (Xo : Old Z n0 h0) (hp3 : p3.toInt = (nn : Int)) (SA : Sta Z Z.heap "java/lang/StringUTF16" "$assertionsDisabled" "Z" (.int (1 : Int32))) (SH : Sta Z Z.heap "java/lang/StringUTF16" "HI_BYTE_SHIFT" "I" (.int (0 : Int32))) (SL : Sta Z Z.heap "java/lang/StringUTF16" "LO_BYTE_SHIFT" "I" (.int (8 : Int32))) (hch : ∀ i, i < nn → own_ch (cf (oo + i))) (hn : nn ≤ 4) :
    MetFree l (⟨"java/lang/StringUTF16", "codePointCount", "([BIIZ)I"⟩ : MethodName) (head1 (Jvm.Cond.code (⟨"java/lang/StringUTF16", "codePointCount", "([BIIZ)I"⟩ : MethodName) jdk_52_method_11_code 6 (some .int) :: ws) own_Rcp) (fun aa U => aa = #[(.ref p1), (.int (0 : Int32)), (.int p3), (.int (0 : Int32))] ∧ Z.Warmed39 U.vm ∧ U.heap = h0) (fun _ _ _ _ _ => True) (fun _ U o U' => ∃ v L, o = .returned v ∧ own_Qcp Z p1 p3 nn oo cf h0 n0 v U'.heap L ∧ FrameEnd U o U' L own_Rcp.cells own_Rcp.slots) := by
  refine MetFree.of_bodySF (plainFor_of_name own_pn0) hisR ?_
  intro p e s m args below meth c s₁ Bd hml0 hP hK
  obtain ⟨rfl, hZ, hh⟩ := hP
  have hx := Bd.exec
  have hby := Bd.bytes
  have hml : c.maxLocals = 6 := hml0
  have hown : s.vm.findClass "java/lang/StringUTF16" = some m.cls := findClass_of_methodNamed Bd.named
  have hnm := (name_of_methodNamed Bd.named Bd.method).1
  have X0 : Stand p l e own_Rcp s m #[(.ref p1), (.int (0 : Int32)), (.int p3), (.int (0 : Int32))] below meth c s₁ [] 0 0 := Stand.of_body Bd
  have e0 : s₁.heap = h0 := by rw [← hh, Bd.state]; rfl
  have N0 := Fr.nil n0
  have pre0 : ∀ t, Steps p.tables e below (s₁.setTop (mkF m 0 #[.val (.ref p1), .val (.int (0 : Int32)), .val (.int p3), .val (.int (0 : Int32)), .unset, .unset] [])) t → Steps p.tables e below (s₁.setTop (entryFrame m #[(.ref p1), (.int (0 : Int32)), (.int p3), (.int (0 : Int32))] 6)) t := fun t k => castTop (own_efcp m p1 p3) k
  obtain ⟨T1, X1, e1, st1⟩ := getS2 X0 hx hZ hown (host := "") (Or.inl (hw _ (List.mem_of_getElem? (i := 83) rfl))) Via.refl e0 (SA.ext Xo.2) (g := (mkF m 0 #[.val (.ref p1), .val (.int (0 : Int32)), .val (.int p3), .val (.int (0 : Int32)), .unset, .unset] [])) rfl (hb hby own_d22_0)
  have k2 : ∀ t, Steps p.tables e below (T1.setTop (mkF m 3 #[.val (.ref p1), .val (.int (0 : Int32)), .val (.int p3), .val (.int (0 : Int32)), .unset, .unset] [(.int (1 : Int32))])) t → Steps p.tables e below (s₁.setTop (entryFrame m #[(.ref p1), (.int (0 : Int32)), (.int p3), (.int (0 : Int32))] 6)) t := fun t k => pre0 t (st1 t k)
  have k3 : ∀ t, Steps p.tables e below (T1.setTop (mkF m 44 #[.val (.ref p1), .val (.int (0 : Int32)), .val (.int p3), .val (.int (0 : Int32)), .val (.int (p3 - (0 : Int32))), .val (.int (0 : Int32))] [])) t → Steps p.tables e below (s₁.setTop (entryFrame m #[(.ref p1), (.int (0 : Int32)), (.int p3), (.int (0 : Int32))] 6)) t := by
    intro t k
    refine k2 t ?_
    show Steps p.tables e below (T1.setTop (mkF m 3 #[.val (.ref p1), .val (.int (0 : Int32)), .val (.int p3), .val (.int (0 : Int32)), .unset, .unset] [(.int (1 : Int32))])) _
    refine XS.ifYes X1.here hx rfl (pc0 := 3) (pc' := 19) rfl (hb hby own_d22_3) rfl ((if0 _ _).trans (feq (by decide : ¬ ((1 : Int32) = (0 : Int32)))).2) (by decide) (by decide) ?_
    show Steps p.tables e below (T1.setTop (mkF m 19 #[.val (.ref p1), .val (.int (0 : Int32)), .val (.int p3), .val (.int (0 : Int32)), .unset, .unset] [])) _
    refine XS.iloadN X1.here hx rfl (hb hby own_d22_19) rfl ?_
    show Steps p.tables e below (T1.setTop (mkF m 20 #[.val (.ref p1), .val (.int (0 : Int32)), .val (.int p3), .val (.int (0 : Int32)), .unset, .unset] [(.int p3)])) _
    refine XS.iloadN X1.here hx rfl (hb hby own_d22_20) rfl ?_
    show Steps p.tables e below (T1.setTop (mkF m 21 #[.val (.ref p1), .val (.int (0 : Int32)), .val (.int p3), .val (.int (0 : Int32)), .unset, .unset] [(.int (0 : Int32)), (.int p3)])) _
    refine XS.isub X1.here hx rfl (hb hby own_d22_21) rfl ?_
    show Steps p.tables e below (T1.setTop (mkF m 22 #[.val (.ref p1), .val (.int (0 : Int32)), .val (.int p3), .val (.int (0 : Int32)), .unset, .unset] [(.int (p3 - (0 : Int32)))])) _
    refine XS.istore X1.here hx rfl (hb hby own_d22_22) rfl (l' := #[.val (.ref p1), .val (.int (0 : Int32)), .val (.int p3), .val (.int (0 : Int32)), .val (.int (p3 - (0 : Int32))), .unset]) rfl ?_
    show Steps p.tables e below (T1.setTop (mkF m 24 #[.val (.ref p1), .val (.int (0 : Int32)), .val (.int p3), .val (.int (0 : Int32)), .val (.int (p3 - (0 : Int32))), .unset] [])) _
    refine XS.iloadN X1.here hx rfl (hb hby own_d22_24) rfl ?_
    show Steps p.tables e below (T1.setTop (mkF m 25 #[.val (.ref p1), .val (.int (0 : Int32)), .val (.int p3), .val (.int (0 : Int32)), .val (.int (p3 - (0 : Int32))), .unset] [(.int (0 : Int32))])) _
    refine XS.istore X1.here hx rfl (hb hby own_d22_25) rfl (l' := #[.val (.ref p1), .val (.int (0 : Int32)), .val (.int p3), .val (.int (0 : Int32)), .val (.int (p3 - (0 : Int32))), .val (.int (0 : Int32))]) rfl ?_
    show Steps p.tables e below (T1.setTop (mkF m 27 #[.val (.ref p1), .val (.int (0 : Int32)), .val (.int p3), .val (.int (0 : Int32)), .val (.int (p3 - (0 : Int32))), .val (.int (0 : Int32))] [])) _
    refine XS.iloadN X1.here hx rfl (hb hby own_d22_27) rfl ?_
    show Steps p.tables e below (T1.setTop (mkF m 28 #[.val (.ref p1), .val (.int (0 : Int32)), .val (.int p3), .val (.int (0 : Int32)), .val (.int (p3 - (0 : Int32))), .val (.int (0 : Int32))] [(.int (0 : Int32))])) _
    refine XS.ifYes X1.here hx rfl (pc0 := 28) (pc' := 44) rfl (hb hby own_d22_28) rfl ((if0 _ _).trans (teq (rfl : (0 : Int32) = (0 : Int32))).1) (by decide) (by decide) ?_
    exact k
  refine own_ind (fun dd => ∃ (jj : Nat) (i4 : Int32) (i5 : Int32) (Tl4 : State) (Ll4 : List Loc), nn ≤ jj + dd + 1 ∧ jj ≤ nn ∧ i5.toInt = (jj : Int) ∧ i4.toInt + ((own_cpn cf (nn - jj) (oo + jj) : Nat) : Int) = ((own_cpn cf nn oo : Nat) : Int) + ((nn - jj : Nat) : Int) ∧ Stand p l e own_Rcp s m #[(.ref p1), (.int (0 : Int32)), (.int p3), (.int (0 : Int32))] below meth c Tl4 Ll4 0 0 ∧ Tl4.heap = h0 ∧ Fr n0 Ll4 ∧ ∀ t, Steps p.tables e below (Tl4.setTop (mkF m 44 #[.val (.ref p1), .val (.int (0 : Int32)), .val (.int p3), .val (.int (0 : Int32)), .val (.int i4), .val (.int i5)] [])) t → Steps p.tables e below (s₁.setTop (entryFrame m #[(.ref p1), (.int (0 : Int32)), (.int p3), (.int (0 : Int32))] 6)) t) ?_ ?_ (nn) ⟨0, (p3 - (0 : Int32)), (0 : Int32), _, _, (by omega), (Nat.zero_le _), rfl, (own_cp0 hp3), X1, e1, N0, k3⟩
  · rintro ⟨jj, i4, i5, Tl4, Ll4, ivj, ivk, iv5, ivc, Xl4, el4, Nl4, kl4⟩
    have k5 : ∀ t, Steps p.tables e below (Tl4.setTop (mkF m 90 #[.val (.ref p1), .val (.int (0 : Int32)), .val (.int p3), .val (.int (0 : Int32)), .val (.int i4), .val (.int i5)] [(.int i4)])) t → Steps p.tables e below (s₁.setTop (entryFrame m #[(.ref p1), (.int (0 : Int32)), (.int p3), (.int (0 : Int32))] 6)) t := by
      intro t k
      refine kl4 t ?_
      show Steps p.tables e below (Tl4.setTop (mkF m 44 #[.val (.ref p1), .val (.int (0 : Int32)), .val (.int p3), .val (.int (0 : Int32)), .val (.int i4), .val (.int i5)] [])) _
      refine XS.iload Xl4.here hx rfl (hb hby own_d22_44) rfl ?_
      show Steps p.tables e below (Tl4.setTop (mkF m 46 #[.val (.ref p1), .val (.int (0 : Int32)), .val (.int p3), .val (.int (0 : Int32)), .val (.int i4), .val (.int i5)] [(.int i5)])) _
      refine XS.iloadN Xl4.here hx rfl (hb hby own_d22_46) rfl ?_
      show Steps p.tables e below (Tl4.setTop (mkF m 47 #[.val (.ref p1), .val (.int (0 : Int32)), .val (.int p3), .val (.int (0 : Int32)), .val (.int i4), .val (.int i5)] [(.int p3), (.int i5)])) _
      refine XS.iconst Xl4.here hx rfl (hb hby own_d22_47) ?_
      show Steps p.tables e below (Tl4.setTop (mkF m 48 #[.val (.ref p1), .val (.int (0 : Int32)), .val (.int p3), .val (.int (0 : Int32)), .val (.int i4), .val (.int i5)] [(.int (1 : Int32)), (.int p3), (.int i5)])) _
      refine XS.isub Xl4.here hx rfl (hb hby own_d22_48) rfl ?_
      show Steps p.tables e below (Tl4.setTop (mkF m 49 #[.val (.ref p1), .val (.int (0 : Int32)), .val (.int p3), .val (.int (0 : Int32)), .val (.int i4), .val (.int i5)] [(.int (p3 - (1 : Int32))), (.int i5)])) _
      refine XS.icmpYes Xl4.here hx rfl (pc0 := 49) (pc' := 88) rfl (hb hby own_d22_49) rfl (flt (own_cpz iv5 hp3 (by omega))).2.1 (by decide) (by decide) ?_
      show Steps p.tables e below (Tl4.setTop (mkF m 88 #[.val (.ref p1), .val (.int (0 : Int32)), .val (.int p3), .val (.int (0 : Int32)), .val (.int i4), .val (.int i5)] [])) _
      refine XS.iload Xl4.here hx rfl (hb hby own_d22_88) rfl ?_
      exact k
    obtain ⟨fs, hr, hrun, hended, hW, hsame⟩ := Xl4.leave (v := (some (.int i4))) (fun h => by rw [Bd.returns] at h; cases h)
    refine ⟨_, _, k5 _ ?_, hrun, hended, _, _, rfl, ?_, ⟨_, rfl⟩, hW, hsame.mono (by decide) (by decide)⟩
    · exact retI Xl4 hx Bd.returns (hb hby own_d22_90) hr
    · show own_Qcp Z p1 p3 nn oo cf h0 n0 _ Tl4.heap _
      exact ⟨i4, rfl, Nl4, el4, (own_cpe iv5 hp3 ivk (own_cpz iv5 hp3 (by omega)) ivc)⟩
  · rintro dd ⟨jj, i4, i5, Tl4, Ll4, ivj, ivk, iv5, ivc, Xl4, el4, Nl4, kl4⟩ ih
    have k6 : ∀ t, Steps p.tables e below (Tl4.setTop (mkF m 49 #[.val (.ref p1), .val (.int (0 : Int32)), .val (.int p3), .val (.int (0 : Int32)), .val (.int i4), .val (.int i5)] [(.int (p3 - (1 : Int32))), (.int i5)])) t → Steps p.tables e below (s₁.setTop (entryFrame m #[(.ref p1), (.int (0 : Int32)), (.int p3), (.int (0 : Int32))] 6)) t := by
      intro t k
      refine kl4 t ?_
      show Steps p.tables e below (Tl4.setTop (mkF m 44 #[.val (.ref p1), .val (.int (0 : Int32)), .val (.int p3), .val (.int (0 : Int32)), .val (.int i4), .val (.int i5)] [])) _
      refine XS.iload Xl4.here hx rfl (hb hby own_d22_44) rfl ?_
      show Steps p.tables e below (Tl4.setTop (mkF m 46 #[.val (.ref p1), .val (.int (0 : Int32)), .val (.int p3), .val (.int (0 : Int32)), .val (.int i4), .val (.int i5)] [(.int i5)])) _
      refine XS.iloadN Xl4.here hx rfl (hb hby own_d22_46) rfl ?_
      show Steps p.tables e below (Tl4.setTop (mkF m 47 #[.val (.ref p1), .val (.int (0 : Int32)), .val (.int p3), .val (.int (0 : Int32)), .val (.int i4), .val (.int i5)] [(.int p3), (.int i5)])) _
      refine XS.iconst Xl4.here hx rfl (hb hby own_d22_47) ?_
      show Steps p.tables e below (Tl4.setTop (mkF m 48 #[.val (.ref p1), .val (.int (0 : Int32)), .val (.int p3), .val (.int (0 : Int32)), .val (.int i4), .val (.int i5)] [(.int (1 : Int32)), (.int p3), (.int i5)])) _
      refine XS.isub Xl4.here hx rfl (hb hby own_d22_48) rfl ?_
      exact k
    by_cases hc49_7 : i5 < (p3 - (1 : Int32))
    · have k8 : ∀ t, Steps p.tables e below (Tl4.setTop (mkF m 52 #[.val (.ref p1), .val (.int (0 : Int32)), .val (.int p3), .val (.int (0 : Int32)), .val (.int i4), .val (.int i5)] [])) t → Steps p.tables e below (s₁.setTop (entryFrame m #[(.ref p1), (.int (0 : Int32)), (.int p3), (.int (0 : Int32))] 6)) t := by
        intro t k
        refine k6 t ?_
        show Steps p.tables e below (Tl4.setTop (mkF m 49 #[.val (.ref p1), .val (.int (0 : Int32)), .val (.int p3), .val (.int (0 : Int32)), .val (.int i4), .val (.int i5)] [(.int (p3 - (1 : Int32))), (.int i5)])) _
        refine XS.icmpNo Xl4.here hx rfl (hb hby own_d22_49) rfl (tlt hc49_7).2.1 ?_
        exact k
      have hjl : jj + 1 < nn := own_cpl iv5 hp3 (by omega) hc49_7
      have k9 : ∀ t, Steps p.tables e below (Tl4.setTop (mkF m 58 #[.val (.ref p1), .val (.int (0 : Int32)), .val (.int p3), .val (.int (0 : Int32)), .val (.int i4), .val (.int (i5 + (1 : Int32)))] [(.int i5), (.ref p1)])) t → Steps p.tables e below (s₁.setTop (entryFrame m #[(.ref p1), (.int (0 : Int32)), (.int p3), (.int (0 : Int32))] 6)) t := by
        intro t k
        refine k8 t ?_
        show Steps p.tables e below (Tl4.setTop (mkF m 52 #[.val (.ref p1), .val (.int (0 : Int32)), .val (.int p3), .val (.int (0 : Int32)), .val (.int i4), .val (.int i5)] [])) _
        refine XS.aloadN Xl4.here hx rfl (hb hby own_d22_52) rfl rfl ?_
        show Steps p.tables e below (Tl4.setTop (mkF m 53 #[.val (.ref p1), .val (.int (0 : Int32)), .val (.int p3), .val (.int (0 : Int32)), .val (.int i4), .val (.int i5)] [(.ref p1)])) _
        refine XS.iload Xl4.here hx rfl (hb hby own_d22_53) rfl ?_
        show Steps p.tables e below (Tl4.setTop (mkF m 55 #[.val (.ref p1), .val (.int (0 : Int32)), .val (.int p3), .val (.int (0 : Int32)), .val (.int i4), .val (.int i5)] [(.int i5), (.ref p1)])) _
        refine XS.iinc Xl4.here hx rfl (hb hby own_d22_55) rfl (l' := #[.val (.ref p1), .val (.int (0 : Int32)), .val (.int p3), .val (.int (0 : Int32)), .val (.int i4), .val (.int (i5 + (1 : Int32)))]) rfl ?_
        exact k
      obtain ⟨_, _, ⟨T10, L10, k10c, n10⟩, -, X10, ⟨Lc10, hQ10, l10, y10, z10⟩, st10⟩ := Jvm.LawKit.callS Xl4 hx (y := (⟨"java/lang/StringUTF16", "getChar", "([BI)C"⟩ : MethodName)) hown (mvT hZ (hw _ (List.mem_of_getElem? (i := 86) rfl))) (mvT hZ (hw _ (List.mem_of_getElem? (i := 87) rfl))) (mvT hZ (hw _ (List.mem_of_getElem? (i := 65) rfl))) (mvT hZ (hw _ (List.mem_of_getElem? (i := 88) rfl))) (by decide) (backOf (W := 0) (own_rmgc l Z a0 hw [] p1 i5 (2 * nn) (own_u16 cf oo) jj (cf (oo + jj)) h0 n0 Z0 P0 Xo iv5 SA SH SL (by omega) (by omega) (own_u0 cf oo jj) (own_u1 cf oo jj) (hch jj (by omega))) hZ (hw _ (List.mem_of_getElem? (i := 88) rfl)) (hw _ (List.mem_of_getElem? (i := 65) rfl)) (by decide) (by decide)) (g := (mkF m 58 #[.val (.ref p1), .val (.int (0 : Int32)), .val (.int p3), .val (.int (0 : Int32)), .val (.int i4), .val (.int (i5 + (1 : Int32)))] [(.int i5), (.ref p1)])) rfl (by rw [hml]; rfl) (argsL := [(.ref p1), (.int i5)]) (rest := []) (lenOf own_pd5 rfl) rfl (by show 2 * 0 + _ ≤ _; exact Nat.le_of_eq rfl) (hb hby own_d22_58) (fun _ _ => ⟨rfl, el4, (by decide : 0 + 0 ≤ _), (by decide : 0 + 0 ≤ _)⟩)
      dsimp only [Pt.U, Pt.locs, Pt.cells, Pt.slots] at X10 l10 y10 z10 st10 hQ10
      subst l10 y10 z10
      obtain ⟨rfl, N10q, e10⟩ := hQ10
      have N10 := Fr.app Nl4 N10q
      have k11 : ∀ t, Steps p.tables e below (T10.setTop (mkF m 61 #[.val (.ref p1), .val (.int (0 : Int32)), .val (.int p3), .val (.int (0 : Int32)), .val (.int i4), .val (.int (i5 + (1 : Int32)))] [(.int (cf (oo + jj)))])) t → Steps p.tables e below (s₁.setTop (entryFrame m #[(.ref p1), (.int (0 : Int32)), (.int p3), (.int (0 : Int32))] 6)) t := fun t k => k9 t (st10 t k)
      obtain ⟨_, _, ⟨T12, L12, k12c, n12⟩, -, X12, ⟨Lc12, hQ12, l12, y12, z12⟩, st12⟩ := Jvm.LawKit.callS X10 hx (y := (⟨"java/lang/Character", "isHighSurrogate", "(C)Z"⟩ : MethodName)) hown (mvT hZ (hw _ (List.mem_of_getElem? (i := 102) rfl))) (mvT hZ (hw _ (List.mem_of_getElem? (i := 103) rfl))) (mvT hZ (hw _ (List.mem_of_getElem? (i := 104) rfl))) (mvT hZ (hw _ (List.mem_of_getElem? (i := 105) rfl))) (by decide) (backOf (W := 0) (own_rmih l Z a0 hw [] (cf (oo + jj)) h0 n0 Z0) hZ (hw _ (List.mem_of_getElem? (i := 105) rfl)) (hw _ (List.mem_of_getElem? (i := 104) rfl)) (by decide) (by decide)) (g := (mkF m 61 #[.val (.ref p1), .val (.int (0 : Int32)), .val (.int p3), .val (.int (0 : Int32)), .val (.int i4), .val (.int (i5 + (1 : Int32)))] [(.int (cf (oo + jj)))])) rfl (by rw [hml]; rfl) (argsL := [(.int (cf (oo + jj)))]) (rest := []) (lenOf own_pd10 rfl) rfl (by show 2 * 0 + _ ≤ _; exact Nat.le_of_eq rfl) (hb hby own_d22_61) (fun _ _ => ⟨rfl, e10, (by decide : 0 + 0 ≤ _), (by decide : 0 + 0 ≤ _)⟩)
      dsimp only [Pt.U, Pt.locs, Pt.cells, Pt.slots] at X12 l12 y12 z12 st12 hQ12
      subst l12 y12 z12
      obtain ⟨rfl, N12q, e12⟩ := hQ12
      have N12 := Fr.app N10 N12q
      have k13 : ∀ t, Steps p.tables e below (T12.setTop (mkF m 64 #[.val (.ref p1), .val (.int (0 : Int32)), .val (.int p3), .val (.int (0 : Int32)), .val (.int i4), .val (.int (i5 + (1 : Int32)))] [(.int (own_vih (cf (oo + jj))))])) t → Steps p.tables e below (s₁.setTop (entryFrame m #[(.ref p1), (.int (0 : Int32)), (.int p3), (.int (0 : Int32))] 6)) t := fun t k => k11 t (st12 t k)
      by_cases hc64_14 : (own_vih (cf (oo + jj))) = (0 : Int32)
      · have k15 : ∀ t, Steps p.tables e below (T12.setTop (mkF m 44 #[.val (.ref p1), .val (.int (0 : Int32)), .val (.int p3), .val (.int (0 : Int32)), .val (.int i4), .val (.int (i5 + (1 : Int32)))] [])) t → Steps p.tables e below (s₁.setTop (entryFrame m #[(.ref p1), (.int (0 : Int32)), (.int p3), (.int (0 : Int32))] 6)) t := by
          intro t k
          refine k13 t ?_
          show Steps p.tables e below (T12.setTop (mkF m 64 #[.val (.ref p1), .val (.int (0 : Int32)), .val (.int p3), .val (.int (0 : Int32)), .val (.int i4), .val (.int (i5 + (1 : Int32)))] [(.int (own_vih (cf (oo + jj))))])) _
          refine XS.ifYes X12.here hx rfl (pc0 := 64) (pc' := 44) rfl (hb hby own_d22_64) rfl ((if0 _ _).trans (teq hc64_14).1) (by decide) (by decide) ?_
          exact k
        exact ih ⟨(jj + 1), i4, (i5 + (1 : Int32)), _, _, (by omega), (by omega), (own_inc iv5 (by omega)), (own_cpA hjl hc64_14 ivc), X12, e12, N12, k15⟩
      · have k16 : ∀ t, Steps p.tables e below (T12.setTop (mkF m 70 #[.val (.ref p1), .val (.int (0 : Int32)), .val (.int p3), .val (.int (0 : Int32)), .val (.int i4), .val (.int (i5 + (1 : Int32)))] [(.int (i5 + (1 : Int32))), (.ref p1)])) t → Steps p.tables e below (s₁.setTop (entryFrame m #[(.ref p1), (.int (0 : Int32)), (.int p3), (.int (0 : Int32))] 6)) t := by
          intro t k
          refine k13 t ?_
          show Steps p.tables e below (T12.setTop (mkF m 64 #[.val (.ref p1), .val (.int (0 : Int32)), .val (.int p3), .val (.int (0 : Int32)), .val (.int i4), .val (.int (i5 + (1 : Int32)))] [(.int (own_vih (cf (oo + jj))))])) _
          refine XS.ifNo X12.here hx rfl (hb hby own_d22_64) rfl ((if0 _ _).trans (feq hc64_14).1) ?_
          show Steps p.tables e below (T12.setTop (mkF m 67 #[.val (.ref p1), .val (.int (0 : Int32)), .val (.int p3), .val (.int (0 : Int32)), .val (.int i4), .val (.int (i5 + (1 : Int32)))] [])) _
          refine XS.aloadN X12.here hx rfl (hb hby own_d22_67) rfl rfl ?_
          show Steps p.tables e below (T12.setTop (mkF m 68 #[.val (.ref p1), .val (.int (0 : Int32)), .val (.int p3), .val (.int (0 : Int32)), .val (.int i4), .val (.int (i5 + (1 : Int32)))] [(.ref p1)])) _
          refine XS.iload X12.here hx rfl (hb hby own_d22_68) rfl ?_
          exact k
        obtain ⟨_, _, ⟨T17, L17, k17c, n17⟩, -, X17, ⟨Lc17, hQ17, l17, y17, z17⟩, st17⟩ := Jvm.LawKit.callS X12 hx (y := (⟨"java/lang/StringUTF16", "getChar", "([BI)C"⟩ : MethodName)) hown (mvT hZ (hw _ (List.mem_of_getElem? (i := 86) rfl))) (mvT hZ (hw _ (List.mem_of_getElem? (i := 87) rfl))) (mvT hZ (hw _ (List.mem_of_getElem? (i := 65) rfl))) (mvT hZ (hw _ (List.mem_of_getElem? (i := 88) rfl))) (by decide) (backOf (W := 0) (own_rmgc l Z a0 hw [] p1 (i5 + (1 : Int32)) (2 * nn) (own_u16 cf oo) (jj + 1) (cf (oo + (jj + 1))) h0 n0 Z0 P0 Xo (own_inc iv5 (by omega)) SA SH SL (by omega) (by omega) (own_u0 cf oo (jj + 1)) (own_u1 cf oo (jj + 1)) (hch (jj + 1) (by omega))) hZ (hw _ (List.mem_of_getElem? (i := 88) rfl)) (hw _ (List.mem_of_getElem? (i := 65) rfl)) (by decide) (by decide)) (g := (mkF m 70 #[.val (.ref p1), .val (.int (0 : Int32)), .val (.int p3), .val (.int (0 : Int32)), .val (.int i4), .val (.int (i5 + (1 : Int32)))] [(.int (i5 + (1 : Int32))), (.ref p1)])) rfl (by rw [hml]; rfl) (argsL := [(.ref p1), (.int (i5 + (1 : Int32)))]) (rest := []) (lenOf own_pd5 rfl) rfl (by show 2 * 0 + _ ≤ _; exact Nat.le_of_eq rfl) (hb hby own_d22_70) (fun _ _ => ⟨rfl, e12, (by decide : 0 + 0 ≤ _), (by decide : 0 + 0 ≤ _)⟩)
        dsimp only [Pt.U, Pt.locs, Pt.cells, Pt.slots] at X17 l17 y17 z17 st17 hQ17
        subst l17 y17 z17
        obtain ⟨rfl, N17q, e17⟩ := hQ17
        have N17 := Fr.app N12 N17q
        have k18 : ∀ t, Steps p.tables e below (T17.setTop (mkF m 73 #[.val (.ref p1), .val (.int (0 : Int32)), .val (.int p3), .val (.int (0 : Int32)), .val (.int i4), .val (.int (i5 + (1 : Int32)))] [(.int (cf (oo + (jj + 1))))])) t → Steps p.tables e below (s₁.setTop (entryFrame m #[(.ref p1), (.int (0 : Int32)), (.int p3), (.int (0 : Int32))] 6)) t := fun t k => k16 t (st17 t k)
        obtain ⟨_, _, ⟨T19, L19, k19c, n19⟩, -, X19, ⟨Lc19, hQ19, l19, y19, z19⟩, st19⟩ := Jvm.LawKit.callS X17 hx (y := (⟨"java/lang/Character", "isLowSurrogate", "(C)Z"⟩ : MethodName)) hown (mvT hZ (hw _ (List.mem_of_getElem? (i := 111) rfl))) (mvT hZ (hw _ (List.mem_of_getElem? (i := 112) rfl))) (mvT hZ (hw _ (List.mem_of_getElem? (i := 104) rfl))) (mvT hZ (hw _ (List.mem_of_getElem? (i := 113) rfl))) (by decide) (backOf (W := 0) (own_rmil l Z a0 hw [] (cf (oo + (jj + 1))) h0 n0 Z0) hZ (hw _ (List.mem_of_getElem? (i := 113) rfl)) (hw _ (List.mem_of_getElem? (i := 104) rfl)) (by decide) (by decide)) (g := (mkF m 73 #[.val (.ref p1), .val (.int (0 : Int32)), .val (.int p3), .val (.int (0 : Int32)), .val (.int i4), .val (.int (i5 + (1 : Int32)))] [(.int (cf (oo + (jj + 1))))])) rfl (by rw [hml]; rfl) (argsL := [(.int (cf (oo + (jj + 1))))]) (rest := []) (lenOf own_pd10 rfl) rfl (by show 2 * 0 + _ ≤ _; exact Nat.le_of_eq rfl) (hb hby own_d22_73) (fun _ _ => ⟨rfl, e17, (by decide : 0 + 0 ≤ _), (by decide : 0 + 0 ≤ _)⟩)
        dsimp only [Pt.U, Pt.locs, Pt.cells, Pt.slots] at X19 l19 y19 z19 st19 hQ19
        subst l19 y19 z19
        obtain ⟨rfl, N19q, e19⟩ := hQ19
        have N19 := Fr.app N17 N19q
        have k20 : ∀ t, Steps p.tables e below (T19.setTop (mkF m 76 #[.val (.ref p1), .val (.int (0 : Int32)), .val (.int p3), .val (.int (0 : Int32)), .val (.int i4), .val (.int (i5 + (1 : Int32)))] [(.int (own_vil (cf (oo + (jj + 1)))))])) t → Steps p.tables e below (s₁.setTop (entryFrame m #[(.ref p1), (.int (0 : Int32)), (.int p3), (.int (0 : Int32))] 6)) t := fun t k => k18 t (st19 t k)
        by_cases hc76_21 : (own_vil (cf (oo + (jj + 1)))) = (0 : Int32)
        · have k22 : ∀ t, Steps p.tables e below (T19.setTop (mkF m 44 #[.val (.ref p1), .val (.int (0 : Int32)), .val (.int p3), .val (.int (0 : Int32)), .val (.int i4), .val (.int (i5 + (1 : Int32)))] [])) t → Steps p.tables e below (s₁.setTop (entryFrame m #[(.ref p1), (.int (0 : Int32)), (.int p3), (.int (0 : Int32))] 6)) t := by
            intro t k
            refine k20 t ?_
            show Steps p.tables e below (T19.setTop (mkF m 76 #[.val (.ref p1), .val (.int (0 : Int32)), .val (.int p3), .val (.int (0 : Int32)), .val (.int i4), .val (.int (i5 + (1 : Int32)))] [(.int (own_vil (cf (oo + (jj + 1)))))])) _
            refine XS.ifYes X19.here hx rfl (pc0 := 76) (pc' := 44) rfl (hb hby own_d22_76) rfl ((if0 _ _).trans (teq hc76_21).1) (by decide) (by decide) ?_
            exact k
          exact ih ⟨(jj + 1), i4, (i5 + (1 : Int32)), _, _, (by omega), (by omega), (own_inc iv5 (by omega)), (own_cpB hjl hc64_14 hc76_21 ivc), X19, e19, N19, k22⟩
        · have k23 : ∀ t, Steps p.tables e below (T19.setTop (mkF m 44 #[.val (.ref p1), .val (.int (0 : Int32)), .val (.int p3), .val (.int (0 : Int32)), .val (.int (i4 + (-1 : Int32))), .val (.int ((i5 + (1 : Int32)) + (1 : Int32)))] [])) t → Steps p.tables e below (s₁.setTop (entryFrame m #[(.ref p1), (.int (0 : Int32)), (.int p3), (.int (0 : Int32))] 6)) t := by
            intro t k
            refine k20 t ?_
            show Steps p.tables e below (T19.setTop (mkF m 76 #[.val (.ref p1), .val (.int (0 : Int32)), .val (.int p3), .val (.int (0 : Int32)), .val (.int i4), .val (.int (i5 + (1 : Int32)))] [(.int (own_vil (cf (oo + (jj + 1)))))])) _
            refine XS.ifNo X19.here hx rfl (hb hby own_d22_76) rfl ((if0 _ _).trans (feq hc76_21).1) ?_
            show Steps p.tables e below (T19.setTop (mkF m 79 #[.val (.ref p1), .val (.int (0 : Int32)), .val (.int p3), .val (.int (0 : Int32)), .val (.int i4), .val (.int (i5 + (1 : Int32)))] [])) _
            refine XS.iinc X19.here hx rfl (hb hby own_d22_79) rfl (l' := #[.val (.ref p1), .val (.int (0 : Int32)), .val (.int p3), .val (.int (0 : Int32)), .val (.int (i4 + (-1 : Int32))), .val (.int (i5 + (1 : Int32)))]) rfl ?_
            show Steps p.tables e below (T19.setTop (mkF m 82 #[.val (.ref p1), .val (.int (0 : Int32)), .val (.int p3), .val (.int (0 : Int32)), .val (.int (i4 + (-1 : Int32))), .val (.int (i5 + (1 : Int32)))] [])) _
            refine XS.iinc X19.here hx rfl (hb hby own_d22_82) rfl (l' := #[.val (.ref p1), .val (.int (0 : Int32)), .val (.int p3), .val (.int (0 : Int32)), .val (.int (i4 + (-1 : Int32))), .val (.int ((i5 + (1 : Int32)) + (1 : Int32)))]) rfl ?_
            show Steps p.tables e below (T19.setTop (mkF m 85 #[.val (.ref p1), .val (.int (0 : Int32)), .val (.int p3), .val (.int (0 : Int32)), .val (.int (i4 + (-1 : Int32))), .val (.int ((i5 + (1 : Int32)) + (1 : Int32)))] [])) _
            refine XS.goto X19.here hx rfl (pc0 := 85) (pc' := 44) rfl (hb hby own_d22_85) (by decide) (by decide) ?_
            exact k
          exact ih ⟨(jj + 2), (i4 + (-1 : Int32)), ((i5 + (1 : Int32)) + (1 : Int32)), _, _, (by omega), (by omega), (by have z := own_inc (own_inc iv5 (by omega)) (by omega); omega), (own_cpC hjl hc64_14 hc76_21 ivc), X19, e19, N19, k23⟩
    · have k24 : ∀ t, Steps p.tables e below (Tl4.setTop (mkF m 90 #[.val (.ref p1), .val (.int (0 : Int32)), .val (.int p3), .val (.int (0 : Int32)), .val (.int i4), .val (.int i5)] [(.int i4)])) t → Steps p.tables e below (s₁.setTop (entryFrame m #[(.ref p1), (.int (0 : Int32)), (.int p3), (.int (0 : Int32))] 6)) t := by
        intro t k
        refine k6 t ?_
        show Steps p.tables e below (Tl4.setTop (mkF m 49 #[.val (.ref p1), .val (.int (0 : Int32)), .val (.int p3), .val (.int (0 : Int32)), .val (.int i4), .val (.int i5)] [(.int (p3 - (1 : Int32))), (.int i5)])) _
        refine XS.icmpYes Xl4.here hx rfl (pc0 := 49) (pc' := 88) rfl (hb hby own_d22_49) rfl (flt hc49_7).2.1 (by decide) (by decide) ?_
        show Steps p.tables e below (Tl4.setTop (mkF m 88 #[.val (.ref p1), .val (.int (0 : Int32)), .val (.int p3), .val (.int (0 : Int32)), .val (.int i4), .val (.int i5)] [])) _
        refine XS.iload Xl4.here hx rfl (hb hby own_d22_88) rfl ?_
        exact k
      obtain ⟨fs, hr, hrun, hended, hW, hsame⟩ := Xl4.leave (v := (some (.int i4))) (fun h => by rw [Bd.returns] at h; cases h)
      refine ⟨_, _, k24 _ ?_, hrun, hended, _, _, rfl, ?_, ⟨_, rfl⟩, hW, hsame.mono (by decide) (by decide)⟩
      · exact retI Xl4 hx Bd.returns (hb hby own_d22_90) hr
      · show own_Qcp Z p1 p3 nn oo cf h0 n0 _ Tl4.heap _
        exact ⟨i4, rfl, Nl4, el4, (own_cpe iv5 hp3 ivk hc49_7 ivc)⟩
theorem own_d21_0 : decode jdk_52_method_12_code 0 = .ok (.aload_n 0, 1) := by decide +kernel
theorem own_d21_1 : decode jdk_52_method_12_code 1 = .ok (.iload_n 1, 1) := by decide +kernel
theorem own_d21_2 : decode jdk_52_method_12_code 2 = .ok (.iload_n 2, 1) := by decide +kernel
theorem own_d21_3 : decode jdk_52_method_12_code 3 = .ok (.iconst 0, 1) := by decide +kernel
theorem own_d21_4 : decode jdk_52_method_12_code 4 = .ok (.invokestatic 100, 3) := by decide +kernel
theorem own_d21_7 : decode jdk_52_method_12_code 7 = .ok (.ireturn, 1) := by decide +kernel
theorem own_pd11 : parseMethodDescriptor "([BIIZ)I" = some ⟨[(.array .byte), .int, .int, .boolean], some .int⟩ := by decide +kernel
theorem own_efcq (m : MethodId) (x0 : Addr) (x2 : Int32) : entryFrame m #[(.ref x0), (.int (0 : Int32)), (.int x2)] 3 = mkF m 0 #[.val (.ref x0), .val (.int (0 : Int32)), .val (.int x2)] [] := by first | (simp [entryFrame, mkF, argsToLocals, Value.category]; done) | rfl
def own_Qcq (Z : State) (p1 : Addr) (p3 : Int32) (nn : Nat) (oo : Nat) (cf : Nat → Int32) (h0 : Heap) (n0 : Nat) (v : Option Value) (h : Heap) (L : List Loc) : Prop := ∃ (r : Int32), v = some (.int r) ∧ Fr n0 L ∧ h = h0 ∧ (r.toInt = ((own_cpn cf nn oo : Nat) : Int))
def own_Rcq : Room := { frames := 2, cells := 0, slots := 0, locals := 30 }
set_option maxRecDepth 65536 in
set_option maxHeartbeats 40000000 in
theorem own_rmcq (l : Launch) (Z : State) (a0 : Array Value) (hw : ∀ d ∈ tables_1, d.before a0 Z = true) (ws : List Jvm.Cond) (p1 : Addr) (p3 : Int32) (nn : Nat) (oo : Nat) (cf : Nat → Int32) (h0 : Heap) (n0 : Nat) (Z0 : n0 ≤ h0.size) (P0 : own_G Z h0 p1 .byte (2 * nn) (own_u16 cf oo)) (Xo : Old Z n0 h0) (hp3 : p3.toInt = (nn : Int)) (SA : Sta Z Z.heap "java/lang/StringUTF16" "$assertionsDisabled" "Z" (.int (1 : Int32))) (SH : Sta Z Z.heap "java/lang/StringUTF16" "HI_BYTE_SHIFT" "I" (.int (0 : Int32))) (SL : Sta Z Z.heap "java/lang/StringUTF16" "LO_BYTE_SHIFT" "I" (.int (8 : Int32))) (hch : ∀ i, i < nn → own_ch (cf (oo + i))) (hn : nn ≤ 4) :
    MetFree l (⟨"java/lang/StringUTF16", "codePointCount", "([BII)I"⟩ : MethodName) (head1 (Jvm.Cond.code (⟨"java/lang/StringUTF16", "codePointCount", "([BII)I"⟩ : MethodName) jdk_52_method_12_code 3 (some .int) :: ws) own_Rcq) (fun aa U => aa = #[(.ref p1), (.int (0 : Int32)), (.int p3)] ∧ Z.Warmed39 U.vm ∧ U.heap = h0) (fun _ _ _ _ _ => True) (fun _ U o U' => ∃ v L, o = .returned v ∧ own_Qcq Z p1 p3 nn oo cf h0 n0 v U'.heap L ∧ FrameEnd U o U' L own_Rcq.cells own_Rcq.slots) := by
  refine MetFree.of_bodySF (plainFor_of_name own_pn0) hisR ?_
  intro p e s m args below meth c s₁ Bd hml0 hP hK
  obtain ⟨rfl, hZ, hh⟩ := hP
  have hx := Bd.exec
  have hby := Bd.bytes
  have hml : c.maxLocals = 3 := hml0
  have hown : s.vm.findClass "java/lang/StringUTF16" = some m.cls := findClass_of_methodNamed Bd.named
  have hnm := (name_of_methodNamed Bd.named Bd.method).1
  have X0 : Stand p l e own_Rcq s m #[(.ref p1), (.int (0 : Int32)), (.int p3)] below meth c s₁ [] 0 0 := Stand.of_body Bd
  have e0 : s₁.heap = h0 := by rw [← hh, Bd.state]; rfl
  have N0 := Fr.nil n0
  have pre0 : ∀ t, Steps p.tables e below (s₁.setTop (mkF m 0 #[.val (.ref p1), .val (.int (0 : Int32)), .val (.int p3)] [])) t → Steps p.tables e below (s₁.setTop (entryFrame m #[(.ref p1), (.int (0 : Int32)), (.int p3)] 3)) t := fun t k => castTop (own_efcq m p1 p3) k
  have k1 : ∀ t, Steps p.tables e below (s₁.setTop (mkF m 4 #[.val (.ref p1), .val (.int (0 : Int32)), .val (.int p3)] [(.int (0 : Int32)), (.int p3), (.int (0 : Int32)), (.ref p1)])) t → Steps p.tables e below (s₁.setTop (entryFrame m #[(.ref p1), (.int (0 : Int32)), (.int p3)] 3)) t := by
    intro t k
    refine pre0 t ?_
    show Steps p.tables e below (s₁.setTop (mkF m 0 #[.val (.ref p1), .val (.int (0 : Int32)), .val (.int p3)] [])) _
    refine XS.aloadN X0.here hx rfl (hb hby own_d21_0) rfl rfl ?_
    show Steps p.tables e below (s₁.setTop (mkF m 1 #[.val (.ref p1), .val (.int (0 : Int32)), .val (.int p3)] [(.ref p1)])) _
    refine XS.iloadN X0.here hx rfl (hb hby own_d21_1) rfl ?_
    show Steps p.tables e below (s₁.setTop (mkF m 2 #[.val (.ref p1), .val (.int (0 : Int32)), .val (.int p3)] [(.int (0 : Int32)), (.ref p1)])) _
    refine XS.iloadN X0.here hx rfl (hb hby own_d21_2) rfl ?_
    show Steps p.tables e below (s₁.setTop (mkF m 3 #[.val (.ref p1), .val (.int (0 : Int32)), .val (.int p3)] [(.int p3), (.int (0 : Int32)), (.ref p1)])) _
    refine XS.iconst X0.here hx rfl (hb hby own_d21_3) ?_
    exact k
  obtain ⟨_, _, ⟨T2, L2, k2c, n2⟩, -, X2, ⟨Lc2, hQ2, l2, y2, z2⟩, st2⟩ := Jvm.LawKit.callS X0 hx (y := (⟨"java/lang/StringUTF16", "codePointCount", "([BIIZ)I"⟩ : MethodName)) hown (mvT hZ (hw _ (List.mem_of_getElem? (i := 99) rfl))) (mvT hZ (hw _ (List.mem_of_getElem? (i := 100) rfl))) (mvT hZ (hw _ (List.mem_of_getElem? (i := 65) rfl))) (mvT hZ (hw _ (List.mem_of_getElem? (i := 101) rfl))) (by decide) (backOf (W := 0) (own_rmcp l Z a0 hw [] p1 p3 nn oo cf h0 n0 Z0 P0 Xo hp3 SA SH SL hch (by omega)) hZ (hw _ (List.mem_of_getElem? (i := 101) rfl)) (hw _ (List.mem_of_getElem? (i := 65) rfl)) (by decide) (by decide)) (g := (mkF m 4 #[.val (.ref p1), .val (.int (0 : Int32)), .val (.int p3)] [(.int (0 : Int32)), (.int p3), (.int (0 : Int32)), (.ref p1)])) rfl (by rw [hml]; rfl) (argsL := [(.ref p1), (.int (0 : Int32)), (.int p3), (.int (0 : Int32))]) (rest := []) (lenOf own_pd11 rfl) rfl (by show 2 * 0 + _ ≤ _; exact Nat.le_of_eq rfl) (hb hby own_d21_4) (fun _ _ => ⟨rfl, e0, (by decide : 0 + 0 ≤ _), (by decide : 0 + 0 ≤ _)⟩)
  dsimp only [Pt.U, Pt.locs, Pt.cells, Pt.slots] at X2 l2 y2 z2 st2 hQ2
  subst l2 y2 z2
  obtain ⟨r_2, rfl, N2q, e2, hq2_hr⟩ := hQ2
  have N2 := Fr.app N0 N2q
  have k3 : ∀ t, Steps p.tables e below (T2.setTop (mkF m 7 #[.val (.ref p1), .val (.int (0 : Int32)), .val (.int p3)] [(.int r_2)])) t → Steps p.tables e below (s₁.setTop (entryFrame m #[(.ref p1), (.int (0 : Int32)), (.int p3)] 3)) t := fun t k => k1 t (st2 t k)
  obtain ⟨fs, hr, hrun, hended, hW, hsame⟩ := X2.leave (v := (some (.int r_2))) (fun h => by rw [Bd.returns] at h; cases h)
  refine ⟨_, _, k3 _ ?_, hrun, hended, _, _, rfl, ?_, ⟨_, rfl⟩, hW, hsame.mono (by decide) (by decide)⟩
  · exact retI X2 hx Bd.returns (hb hby own_d21_7) hr
  · show own_Qcq Z p1 p3 nn oo cf h0 n0 _ T2.heap _
    exact ⟨r_2, rfl, N2, e2, hq2_hr⟩
theorem own_d8_0 : decode jdk_42_method_59_code 0 = .ok (.iload_n 1, 1) := by decide +kernel
theorem own_d8_1 : decode jdk_42_method_59_code 1 = .ok (.iload_n 2, 1) := by decide +kernel
theorem own_d8_2 : decode jdk_42_method_59_code 2 = .ok (.aload_n 0, 1) := by decide +kernel
theorem own_d8_3 : decode jdk_42_method_59_code 3 = .ok (.invokevirtual 505, 3) := by decide +kernel
theorem own_d8_6 : decode jdk_42_method_59_code 6 = .ok (.invokestatic 511, 3) := by decide +kernel
theorem own_d8_9 : decode jdk_42_method_59_code 9 = .ok (.pop, 1) := by decide +kernel
theorem own_d8_10 : decode jdk_42_method_59_code 10 = .ok (.aload_n 0, 1) := by decide +kernel
theorem own_d8_11 : decode jdk_42_method_59_code 11 = .ok (.invokevirtual 492, 3) := by decide +kernel
theorem own_d8_14 : decode jdk_42_method_59_code 14 = .ok (.ifCond .eq 7, 3) := by decide +kernel
theorem own_d8_17 : decode jdk_42_method_59_code 17 = .ok (.iload_n 2, 1) := by decide +kernel
theorem own_d8_18 : decode jdk_42_method_59_code 18 = .ok (.iload_n 1, 1) := by decide +kernel
theorem own_d8_19 : decode jdk_42_method_59_code 19 = .ok (.isub, 1) := by decide +kernel
theorem own_d8_20 : decode jdk_42_method_59_code 20 = .ok (.ireturn, 1) := by decide +kernel
theorem own_d8_21 : decode jdk_42_method_59_code 21 = .ok (.aload_n 0, 1) := by decide +kernel
theorem own_d8_22 : decode jdk_42_method_59_code 22 = .ok (.getfield 9, 3) := by decide +kernel
theorem own_d8_25 : decode jdk_42_method_59_code 25 = .ok (.iload_n 1, 1) := by decide +kernel
theorem own_d8_26 : decode jdk_42_method_59_code 26 = .ok (.iload_n 2, 1) := by decide +kernel
theorem own_d8_27 : decode jdk_42_method_59_code 27 = .ok (.invokestatic 514, 3) := by decide +kernel
theorem own_d8_30 : decode jdk_42_method_59_code 30 = .ok (.ireturn, 1) := by decide +kernel
theorem own_pd12 : parseMethodDescriptor "()I" = some ⟨[], some .int⟩ := by decide +kernel
theorem own_pd13 : parseMethodDescriptor "(III)I" = some ⟨[.int, .int, .int], some .int⟩ := by decide +kernel
theorem own_pd14 : parseMethodDescriptor "()Z" = some ⟨[], some .boolean⟩ := by decide +kernel
theorem own_pd15 : parseMethodDescriptor "([BII)I" = some ⟨[(.array .byte), .int, .int], some .int⟩ := by decide +kernel
theorem own_efct (m : MethodId) (x0 : Addr) (x2 : Int32) : entryFrame m #[(.ref x0), (.int (0 : Int32)), (.int x2)] 3 = mkF m 0 #[.val (.ref x0), .val (.int (0 : Int32)), .val (.int x2)] [] := by first | (simp [entryFrame, mkF, argsToLocals, Value.category]; done) | rfl
def own_Qct (Z : State) (a : Addr) (p3 : Int32) (nn : Nat) (oo : Nat) (cf : Nat → Int32) (cs : Int32) (h0 : Heap) (n0 : Nat) (v : Option Value) (h : Heap) (L : List Loc) : Prop := ∃ (r : Int32), v = some (.int r) ∧ Fr n0 L ∧ h = h0 ∧ (r.toInt = ((own_cpn cf nn oo : Nat) : Int))
def own_Rct : Room := { frames := 3, cells := 0, slots := 0, locals := 44 }
set_option maxRecDepth 65536 in
set_option maxHeartbeats 40000000 in
theorem own_rmct (l : Launch) (Z : State) (a0 : Array Value) (hw : ∀ d ∈ tables_1, d.before a0 Z = true) (ws : List Jvm.Cond) (a : Addr) (p3 : Int32) (nn : Nat) (oo : Nat) (cf : Nat → Int32) (cs : Int32) (h0 : Heap) (n0 : Nat) (Z0 : n0 ≤ h0.size) (P0 : Exa Z h0 a "java/lang/String") (P1 : own_Str Z h0 a nn oo cf) (Xo : Old Z n0 h0) (hp3 : p3.toInt = (nn : Int)) (SC : Sta Z Z.heap "java/lang/String" "COMPACT_STRINGS" "Z" (.int cs)) (SA : Sta Z Z.heap "java/lang/StringUTF16" "$assertionsDisabled" "Z" (.int (1 : Int32))) (SH : Sta Z Z.heap "java/lang/StringUTF16" "HI_BYTE_SHIFT" "I" (.int (0 : Int32))) (SL : Sta Z Z.heap "java/lang/StringUTF16" "LO_BYTE_SHIFT" "I" (.int (8 : Int32))) (hcs : ¬ (cs = (0 : Int32))) (hnn : nn ≤ 4) :
    MetFree l (⟨"java/lang/String", "codePointCount", "(II)I"⟩ : MethodName) (head1 (Jvm.Cond.code (⟨"java/lang/String", "codePointCount", "(II)I"⟩ : MethodName) jdk_42_method_59_code 3 (some .int) :: ws) own_Rct) (fun aa U => aa = #[(.ref a), (.int (0 : Int32)), (.int p3)] ∧ Z.Warmed39 U.vm ∧ U.heap = h0) (fun _ _ _ _ _ => True) (fun _ U o U' => ∃ v L, o = .returned v ∧ own_Qct Z a p3 nn oo cf cs h0 n0 v U'.heap L ∧ FrameEnd U o U' L own_Rct.cells own_Rct.slots) := by
  refine MetFree.of_bodySF (plainFor_of_name own_pn1) hisR ?_
  intro p e s m args below meth c s₁ Bd hml0 hP hK
  obtain ⟨rfl, hZ, hh⟩ := hP
  have hx := Bd.exec
  have hby := Bd.bytes
  have hml : c.maxLocals = 3 := hml0
  have hown : s.vm.findClass "java/lang/String" = some m.cls := findClass_of_methodNamed Bd.named
  have hnm := (name_of_methodNamed Bd.named Bd.method).1
  have X0 : Stand p l e own_Rct s m #[(.ref a), (.int (0 : Int32)), (.int p3)] below meth c s₁ [] 0 0 := Stand.of_body Bd
  have e0 : s₁.heap = h0 := by rw [← hh, Bd.state]; rfl
  have N0 := Fr.nil n0
  have pre0 : ∀ t, Steps p.tables e below (s₁.setTop (mkF m 0 #[.val (.ref a), .val (.int (0 : Int32)), .val (.int p3)] [])) t → Steps p.tables e below (s₁.setTop (entryFrame m #[(.ref a), (.int (0 : Int32)), (.int p3)] 3)) t := fun t k => castTop (own_efct m a p3) k
  obtain ⟨Es, hN, hch, bs, cd, Fv, Fc, hB⟩ := id P1
  rcases hB with ⟨rfl, hall, hGb⟩ | ⟨rfl, hall, hGb⟩
  · skip
    have k1 : ∀ t, Steps p.tables e below (s₁.setTop (mkF m 3 #[.val (.ref a), .val (.int (0 : Int32)), .val (.int p3)] [(.ref a), (.int p3), (.int (0 : Int32))])) t → Steps p.tables e below (s₁.setTop (entryFrame m #[(.ref a), (.int (0 : Int32)), (.int p3)] 3)) t := by
      intro t k
      refine pre0 t ?_
      show Steps p.tables e below (s₁.setTop (mkF m 0 #[.val (.ref a), .val (.int (0 : Int32)), .val (.int p3)] [])) _
      refine XS.iloadN X0.here hx rfl (hb hby own_d8_0) rfl ?_
      show Steps p.tables e below (s₁.setTop (mkF m 1 #[.val (.ref a), .val (.int (0 : Int32)), .val (.int p3)] [(.int (0 : Int32))])) _
      refine XS.iloadN X0.here hx rfl (hb hby own_d8_1) rfl ?_
      show Steps p.tables e below (s₁.setTop (mkF m 2 #[.val (.ref a), .val (.int (0 : Int32)), .val (.int p3)] [(.int p3), (.int (0 : Int32))])) _
      refine XS.aloadN X0.here hx rfl (hb hby own_d8_2) rfl rfl ?_
      exact k
    obtain ⟨cq2, kq2, q2a, q2b, q2c⟩ := isOf hZ e0 P0
    obtain ⟨_, _, ⟨T2, L2, k2c, n2⟩, -, X2, ⟨Lc2, hQ2, l2, y2, z2⟩, st2⟩ := X0.virtualBack hx (y := (⟨"java/lang/String", "length", "()I"⟩ : MethodName)) (z := (⟨"java/lang/String", "length", "()I"⟩ : MethodName)) hown (mvT hZ (hw _ (List.mem_of_getElem? (i := 49) rfl))) (mvT hZ (hw _ (List.mem_of_getElem? (i := 34) rfl))) (notFace_of_selects (args := #[]) (mvT hZ (hw _ (List.mem_of_getElem? (i := 36) rfl)))) (mvT hZ (hw _ (List.mem_of_getElem? (i := 36) rfl))) (mvT hZ (hw _ (List.mem_of_getElem? (i := 35) rfl))) (by decide) (backOf (W := 2) (own_rmle l Z a0 hw [] a nn oo cf cs h0 n0 Z0 P0 P1 Xo SC hcs) hZ (hw _ (List.mem_of_getElem? (i := 37) rfl)) (hw _ (List.mem_of_getElem? (i := 10) rfl)) (by decide) (by decide)) q2a q2c (g := (mkF m 3 #[.val (.ref a), .val (.int (0 : Int32)), .val (.int p3)] [(.ref a), (.int p3), (.int (0 : Int32))])) rfl (by rw [hml]; rfl) (Steps.refl _) (argsL := []) (rest := [(.int p3), (.int (0 : Int32))]) (lenOf own_pd12 rfl) rfl (by show 2 * 0 + _ ≤ _; exact Nat.le_of_eq rfl) (hb hby own_d8_3) (fun _ _ => ⟨rfl, e0, (by decide : 0 + 0 ≤ _), (by decide : 0 + 0 ≤ _)⟩)
    dsimp only [Pt.U, Pt.locs, Pt.cells, Pt.slots] at X2 l2 y2 z2 st2 hQ2
    subst l2 y2 z2
    obtain ⟨r_2, rfl, N2q, e2, hq2_hr⟩ := hQ2
    have N2 := Fr.app N0 N2q
    have k3 : ∀ t, Steps p.tables e below (T2.setTop (mkF m 6 #[.val (.ref a), .val (.int (0 : Int32)), .val (.int p3)] [(.int r_2), (.int p3), (.int (0 : Int32))])) t → Steps p.tables e below (s₁.setTop (entryFrame m #[(.ref a), (.int (0 : Int32)), (.int p3)] 3)) t := fun t k => k1 t (st2.trans k)
    obtain ⟨_, _, ⟨T4, L4, k4c, n4⟩, -, X4, ⟨Lc4, hQ4, l4, y4, z4⟩, st4⟩ := Jvm.LawKit.callS X2 hx (y := (⟨"java/util/Objects", "checkFromToIndex", "(III)I"⟩ : MethodName)) hown (mvT hZ (hw _ (List.mem_of_getElem? (i := 50) rfl))) (mvT hZ (hw _ (List.mem_of_getElem? (i := 51) rfl))) (mvT hZ (hw _ (List.mem_of_getElem? (i := 52) rfl))) (mvT hZ (hw _ (List.mem_of_getElem? (i := 53) rfl))) (by decide) (backOf (W := 0) (own_rmof l Z a0 hw [] p3 r_2 nn h0 n0 Z0 hp3 hq2_hr) hZ (hw _ (List.mem_of_getElem? (i := 53) rfl)) (hw _ (List.mem_of_getElem? (i := 52) rfl)) (by decide) (by decide)) (g := (mkF m 6 #[.val (.ref a), .val (.int (0 : Int32)), .val (.int p3)] [(.int r_2), (.int p3), (.int (0 : Int32))])) rfl (by rw [hml]; rfl) (argsL := [(.int (0 : Int32)), (.int p3), (.int r_2)]) (rest := []) (lenOf own_pd13 rfl) rfl (by show 2 * 0 + _ ≤ _; exact Nat.le_of_eq rfl) (hb hby own_d8_6) (fun _ _ => ⟨rfl, e2, (by decide : 0 + 0 ≤ _), (by decide : 0 + 0 ≤ _)⟩)
    dsimp only [Pt.U, Pt.locs, Pt.cells, Pt.slots] at X4 l4 y4 z4 st4 hQ4
    subst l4 y4 z4
    obtain ⟨rfl, N4q, e4⟩ := hQ4
    have N4 := Fr.app N2 N4q
    have k5 : ∀ t, Steps p.tables e below (T4.setTop (mkF m 9 #[.val (.ref a), .val (.int (0 : Int32)), .val (.int p3)] [(.int (0 : Int32))])) t → Steps p.tables e below (s₁.setTop (entryFrame m #[(.ref a), (.int (0 : Int32)), (.int p3)] 3)) t := fun t k => k3 t (st4 t k)
    have k6 : ∀ t, Steps p.tables e below (T4.setTop (mkF m 11 #[.val (.ref a), .val (.int (0 : Int32)), .val (.int p3)] [(.ref a)])) t → Steps p.tables e below (s₁.setTop (entryFrame m #[(.ref a), (.int (0 : Int32)), (.int p3)] 3)) t := by
      intro t k
      refine k5 t ?_
      show Steps p.tables e below (T4.setTop (mkF m 9 #[.val (.ref a), .val (.int (0 : Int32)), .val (.int p3)] [(.int (0 : Int32))])) _
      refine XS.pop X4.here hx rfl (hb hby own_d8_9) rfl rfl ?_
      show Steps p.tables e below (T4.setTop (mkF m 10 #[.val (.ref a), .val (.int (0 : Int32)), .val (.int p3)] [])) _
      refine XS.aloadN X4.here hx rfl (hb hby own_d8_10) rfl rfl ?_
      exact k
    obtain ⟨cq7, kq7, q7a, q7b, q7c⟩ := isOf hZ e4 P0
    obtain ⟨_, _, ⟨T7, L7, k7c, n7⟩, -, X7, ⟨Lc7, hQ7, l7, y7, z7⟩, st7⟩ := X4.virtualBack hx (y := (⟨"java/lang/String", "isLatin1", "()Z"⟩ : MethodName)) (z := (⟨"java/lang/String", "isLatin1", "()Z"⟩ : MethodName)) hown (mvT hZ (hw _ (List.mem_of_getElem? (i := 58) rfl))) (mvT hZ (hw _ (List.mem_of_getElem? (i := 59) rfl))) (notFace_of_selects (args := #[]) (mvT hZ (hw _ (List.mem_of_getElem? (i := 61) rfl)))) (mvT hZ (hw _ (List.mem_of_getElem? (i := 61) rfl))) (mvT hZ (hw _ (List.mem_of_getElem? (i := 60) rfl))) (by decide) (backOf (W := 0) (own_rmla0 l Z a0 hw [] a cs h0 n0 Z0 P0 Fc Xo SC hcs) hZ (hw _ (List.mem_of_getElem? (i := 62) rfl)) (hw _ (List.mem_of_getElem? (i := 10) rfl)) (by decide) (by decide)) q7a q7c (g := (mkF m 11 #[.val (.ref a), .val (.int (0 : Int32)), .val (.int p3)] [(.ref a)])) rfl (by rw [hml]; rfl) (Steps.refl _) (argsL := []) (rest := []) (lenOf own_pd14 rfl) rfl (by show 2 * 0 + _ ≤ _; exact Nat.le_of_eq rfl) (hb hby own_d8_11) (fun _ _ => ⟨rfl, e4, (by decide : 0 + 0 ≤ _), (by decide : 0 + 0 ≤ _)⟩)
    dsimp only [Pt.U, Pt.locs, Pt.cells, Pt.slots] at X7 l7 y7 z7 st7 hQ7
    subst l7 y7 z7
    obtain ⟨rfl, N7q, e7⟩ := hQ7
    have N7 := Fr.app N4 N7q
    have k8 : ∀ t, Steps p.tables e below (T7.setTop (mkF m 14 #[.val (.ref a), .val (.int (0 : Int32)), .val (.int p3)] [(.int (1 : Int32))])) t → Steps p.tables e below (s₁.setTop (entryFrame m #[(.ref a), (.int (0 : Int32)), (.int p3)] 3)) t := fun t k => k6 t (st7.trans k)
    have k9 : ∀ t, Steps p.tables e below (T7.setTop (mkF m 20 #[.val (.ref a), .val (.int (0 : Int32)), .val (.int p3)] [(.int (p3 - (0 : Int32)))])) t → Steps p.tables e below (s₁.setTop (entryFrame m #[(.ref a), (.int (0 : Int32)), (.int p3)] 3)) t := by
      intro t k
      refine k8 t ?_
      show Steps p.tables e below (T7.setTop (mkF m 14 #[.val (.ref a), .val (.int (0 : Int32)), .val (.int p3)] [(.int (1 : Int32))])) _
      refine XS.ifNo X7.here hx rfl (hb hby own_d8_14) rfl ((if0 _ _).trans (feq (by decide : ¬ ((1 : Int32) = (0 : Int32)))).1) ?_
      show Steps p.tables e below (T7.setTop (mkF m 17 #[.val (.ref a), .val (.int (0 : Int32)), .val (.int p3)] [])) _
      refine XS.iloadN X7.here hx rfl (hb hby own_d8_17) rfl ?_
      show Steps p.tables e below (T7.setTop (mkF m 18 #[.val (.ref a), .val (.int (0 : Int32)), .val (.int p3)] [(.int p3)])) _
      refine XS.iloadN X7.here hx rfl (hb hby own_d8_18) rfl ?_
      show Steps p.tables e below (T7.setTop (mkF m 19 #[.val (.ref a), .val (.int (0 : Int32)), .val (.int p3)] [(.int (0 : Int32)), (.int p3)])) _
      refine XS.isub X7.here hx rfl (hb hby own_d8_19) rfl ?_
      exact k
    obtain ⟨fs, hr, hrun, hended, hW, hsame⟩ := X7.leave (v := (some (.int (p3 - (0 : Int32))))) (fun h => by rw [Bd.returns] at h; cases h)
    refine ⟨_, _, k9 _ ?_, hrun, hended, _, _, rfl, ?_, ⟨_, rfl⟩, hW, hsame.mono (by decide) (by decide)⟩
    · exact retI X7 hx Bd.returns (hb hby own_d8_20) hr
    · show own_Qct Z a p3 nn oo cf cs h0 n0 _ T7.heap _
      exact ⟨(p3 - (0 : Int32)), rfl, N7, e7, (own_cpL hp3 hall)⟩
  · skip
    have k10 : ∀ t, Steps p.tables e below (s₁.setTop (mkF m 3 #[.val (.ref a), .val (.int (0 : Int32)), .val (.int p3)] [(.ref a), (.int p3), (.int (0 : Int32))])) t → Steps p.tables e below (s₁.setTop (entryFrame m #[(.ref a), (.int (0 : Int32)), (.int p3)] 3)) t := by
      intro t k
      refine pre0 t ?_
      show Steps p.tables e below (s₁.setTop (mkF m 0 #[.val (.ref a), .val (.int (0 : Int32)), .val (.int p3)] [])) _
      refine XS.iloadN X0.here hx rfl (hb hby own_d8_0) rfl ?_
      show Steps p.tables e below (s₁.setTop (mkF m 1 #[.val (.ref a), .val (.int (0 : Int32)), .val (.int p3)] [(.int (0 : Int32))])) _
      refine XS.iloadN X0.here hx rfl (hb hby own_d8_1) rfl ?_
      show Steps p.tables e below (s₁.setTop (mkF m 2 #[.val (.ref a), .val (.int (0 : Int32)), .val (.int p3)] [(.int p3), (.int (0 : Int32))])) _
      refine XS.aloadN X0.here hx rfl (hb hby own_d8_2) rfl rfl ?_
      exact k
    obtain ⟨cq11, kq11, q11a, q11b, q11c⟩ := isOf hZ e0 P0
    obtain ⟨_, _, ⟨T11, L11, k11c, n11⟩, -, X11, ⟨Lc11, hQ11, l11, y11, z11⟩, st11⟩ := X0.virtualBack hx (y := (⟨"java/lang/String", "length", "()I"⟩ : MethodName)) (z := (⟨"java/lang/String", "length", "()I"⟩ : MethodName)) hown (mvT hZ (hw _ (List.mem_of_getElem? (i := 49) rfl))) (mvT hZ (hw _ (List.mem_of_getElem? (i := 34) rfl))) (notFace_of_selects (args := #[]) (mvT hZ (hw _ (List.mem_of_getElem? (i := 36) rfl)))) (mvT hZ (hw _ (List.mem_of_getElem? (i := 36) rfl))) (mvT hZ (hw _ (List.mem_of_getElem? (i := 35) rfl))) (by decide) (backOf (W := 2) (own_rmle l Z a0 hw [] a nn oo cf cs h0 n0 Z0 P0 P1 Xo SC hcs) hZ (hw _ (List.mem_of_getElem? (i := 37) rfl)) (hw _ (List.mem_of_getElem? (i := 10) rfl)) (by decide) (by decide)) q11a q11c (g := (mkF m 3 #[.val (.ref a), .val (.int (0 : Int32)), .val (.int p3)] [(.ref a), (.int p3), (.int (0 : Int32))])) rfl (by rw [hml]; rfl) (Steps.refl _) (argsL := []) (rest := [(.int p3), (.int (0 : Int32))]) (lenOf own_pd12 rfl) rfl (by show 2 * 0 + _ ≤ _; exact Nat.le_of_eq rfl) (hb hby own_d8_3) (fun _ _ => ⟨rfl, e0, (by decide : 0 + 0 ≤ _), (by decide : 0 + 0 ≤ _)⟩)
    dsimp only [Pt.U, Pt.locs, Pt.cells, Pt.slots] at X11 l11 y11 z11 st11 hQ11
    subst l11 y11 z11
    obtain ⟨r_11, rfl, N11q, e11, hq11_hr⟩ := hQ11
    have N11 := Fr.app N0 N11q
    have k12 : ∀ t, Steps p.tables e below (T11.setTop (mkF m 6 #[.val (.ref a), .val (.int (0 : Int32)), .val (.int p3)] [(.int r_11), (.int p3), (.int (0 : Int32))])) t → Steps p.tables e below (s₁.setTop (entryFrame m #[(.ref a), (.int (0 : Int32)), (.int p3)] 3)) t := fun t k => k10 t (st11.trans k)
    obtain ⟨_, _, ⟨T13, L13, k13c, n13⟩, -, X13, ⟨Lc13, hQ13, l13, y13, z13⟩, st13⟩ := Jvm.LawKit.callS X11 hx (y := (⟨"java/util/Objects", "checkFromToIndex", "(III)I"⟩ : MethodName)) hown (mvT hZ (hw _ (List.mem_of_getElem? (i := 50) rfl))) (mvT hZ (hw _ (List.mem_of_getElem? (i := 51) rfl))) (mvT hZ (hw _ (List.mem_of_getElem? (i := 52) rfl))) (mvT hZ (hw _ (List.mem_of_getElem? (i := 53) rfl))) (by decide) (backOf (W := 0) (own_rmof l Z a0 hw [] p3 r_11 nn h0 n0 Z0 hp3 hq11_hr) hZ (hw _ (List.mem_of_getElem? (i := 53) rfl)) (hw _ (List.mem_of_getElem? (i := 52) rfl)) (by decide) (by decide)) (g := (mkF m 6 #[.val (.ref a), .val (.int (0 : Int32)), .val (.int p3)] [(.int r_11), (.int p3), (.int (0 : Int32))])) rfl (by rw [hml]; rfl) (argsL := [(.int (0 : Int32)), (.int p3), (.int r_11)]) (rest := []) (lenOf own_pd13 rfl) rfl (by show 2 * 0 + _ ≤ _; exact Nat.le_of_eq rfl) (hb hby own_d8_6) (fun _ _ => ⟨rfl, e11, (by decide : 0 + 0 ≤ _), (by decide : 0 + 0 ≤ _)⟩)
    dsimp only [Pt.U, Pt.locs, Pt.cells, Pt.slots] at X13 l13 y13 z13 st13 hQ13
    subst l13 y13 z13
    obtain ⟨rfl, N13q, e13⟩ := hQ13
    have N13 := Fr.app N11 N13q
    have k14 : ∀ t, Steps p.tables e below (T13.setTop (mkF m 9 #[.val (.ref a), .val (.int (0 : Int32)), .val (.int p3)] [(.int (0 : Int32))])) t → Steps p.tables e below (s₁.setTop (entryFrame m #[(.ref a), (.int (0 : Int32)), (.int p3)] 3)) t := fun t k => k12 t (st13 t k)
    have k15 : ∀ t, Steps p.tables e below (T13.setTop (mkF m 11 #[.val (.ref a), .val (.int (0 : Int32)), .val (.int p3)] [(.ref a)])) t → Steps p.tables e below (s₁.setTop (entryFrame m #[(.ref a), (.int (0 : Int32)), (.int p3)] 3)) t := by
      intro t k
      refine k14 t ?_
      show Steps p.tables e below (T13.setTop (mkF m 9 #[.val (.ref a), .val (.int (0 : Int32)), .val (.int p3)] [(.int (0 : Int32))])) _
      refine XS.pop X13.here hx rfl (hb hby own_d8_9) rfl rfl ?_
      show Steps p.tables e below (T13.setTop (mkF m 10 #[.val (.ref a), .val (.int (0 : Int32)), .val (.int p3)] [])) _
      refine XS.aloadN X13.here hx rfl (hb hby own_d8_10) rfl rfl ?_
      exact k
    obtain ⟨cq16, kq16, q16a, q16b, q16c⟩ := isOf hZ e13 P0
    obtain ⟨_, _, ⟨T16, L16, k16c, n16⟩, -, X16, ⟨Lc16, hQ16, l16, y16, z16⟩, st16⟩ := X13.virtualBack hx (y := (⟨"java/lang/String", "isLatin1", "()Z"⟩ : MethodName)) (z := (⟨"java/lang/String", "isLatin1", "()Z"⟩ : MethodName)) hown (mvT hZ (hw _ (List.mem_of_getElem? (i := 58) rfl))) (mvT hZ (hw _ (List.mem_of_getElem? (i := 59) rfl))) (notFace_of_selects (args := #[]) (mvT hZ (hw _ (List.mem_of_getElem? (i := 61) rfl)))) (mvT hZ (hw _ (List.mem_of_getElem? (i := 61) rfl))) (mvT hZ (hw _ (List.mem_of_getElem? (i := 60) rfl))) (by decide) (backOf (W := 0) (own_rmla1 l Z a0 hw [] a cs h0 n0 Z0 P0 Fc Xo SC hcs) hZ (hw _ (List.mem_of_getElem? (i := 62) rfl)) (hw _ (List.mem_of_getElem? (i := 10) rfl)) (by decide) (by decide)) q16a q16c (g := (mkF m 11 #[.val (.ref a), .val (.int (0 : Int32)), .val (.int p3)] [(.ref a)])) rfl (by rw [hml]; rfl) (Steps.refl _) (argsL := []) (rest := []) (lenOf own_pd14 rfl) rfl (by show 2 * 0 + _ ≤ _; exact Nat.le_of_eq rfl) (hb hby own_d8_11) (fun _ _ => ⟨rfl, e13, (by decide : 0 + 0 ≤ _), (by decide : 0 + 0 ≤ _)⟩)
    dsimp only [Pt.U, Pt.locs, Pt.cells, Pt.slots] at X16 l16 y16 z16 st16 hQ16
    subst l16 y16 z16
    obtain ⟨rfl, N16q, e16⟩ := hQ16
    have N16 := Fr.app N13 N16q
    have k17 : ∀ t, Steps p.tables e below (T16.setTop (mkF m 14 #[.val (.ref a), .val (.int (0 : Int32)), .val (.int p3)] [(.int (0 : Int32))])) t → Steps p.tables e below (s₁.setTop (entryFrame m #[(.ref a), (.int (0 : Int32)), (.int p3)] 3)) t := fun t k => k15 t (st16.trans k)
    have k18 : ∀ t, Steps p.tables e below (T16.setTop (mkF m 22 #[.val (.ref a), .val (.int (0 : Int32)), .val (.int p3)] [(.ref a)])) t → Steps p.tables e below (s₁.setTop (entryFrame m #[(.ref a), (.int (0 : Int32)), (.int p3)] 3)) t := by
      intro t k
      refine k17 t ?_
      show Steps p.tables e below (T16.setTop (mkF m 14 #[.val (.ref a), .val (.int (0 : Int32)), .val (.int p3)] [(.int (0 : Int32))])) _
      refine XS.ifYes X16.here hx rfl (pc0 := 14) (pc' := 21) rfl (hb hby own_d8_14) rfl ((if0 _ _).trans (teq (rfl : (0 : Int32) = (0 : Int32))).1) (by decide) (by decide) ?_
      show Steps p.tables e below (T16.setTop (mkF m 21 #[.val (.ref a), .val (.int (0 : Int32)), .val (.int p3)] [])) _
      refine XS.aloadN X16.here hx rfl (hb hby own_d8_21) rfl rfl ?_
      exact k
    obtain ⟨T19, X19, e19, st19⟩ := getF X16 hx hZ hown (host := "") (Or.inl (hw _ (List.mem_of_getElem? (i := 27) rfl))) Via.refl e16 Fv (g := (mkF m 22 #[.val (.ref a), .val (.int (0 : Int32)), .val (.int p3)] [(.ref a)])) rfl rfl (hb hby own_d8_22)
    have k20 : ∀ t, Steps p.tables e below (T19.setTop (mkF m 25 #[.val (.ref a), .val (.int (0 : Int32)), .val (.int p3)] [(.ref bs)])) t → Steps p.tables e below (s₁.setTop (entryFrame m #[(.ref a), (.int (0 : Int32)), (.int p3)] 3)) t := fun t k => k18 t (st19 t k)
    have k21 : ∀ t, Steps p.tables e below (T19.setTop (mkF m 27 #[.val (.ref a), .val (.int (0 : Int32)), .val (.int p3)] [(.int p3), (.int (0 : Int32)), (.ref bs)])) t → Steps p.tables e below (s₁.setTop (entryFrame m #[(.ref a), (.int (0 : Int32)), (.int p3)] 3)) t := by
      intro t k
      refine k20 t ?_
      show Steps p.tables e below (T19.setTop (mkF m 25 #[.val (.ref a), .val (.int (0 : Int32)), .val (.int p3)] [(.ref bs)])) _
      refine XS.iloadN X19.here hx rfl (hb hby own_d8_25) rfl ?_
      show Steps p.tables e below (T19.setTop (mkF m 26 #[.val (.ref a), .val (.int (0 : Int32)), .val (.int p3)] [(.int (0 : Int32)), (.ref bs)])) _
      refine XS.iloadN X19.here hx rfl (hb hby own_d8_26) rfl ?_
      exact k
    obtain ⟨_, _, ⟨T22, L22, k22c, n22⟩, -, X22, ⟨Lc22, hQ22, l22, y22, z22⟩, st22⟩ := Jvm.LawKit.callS X19 hx (y := (⟨"java/lang/StringUTF16", "codePointCount", "([BII)I"⟩ : MethodName)) hown (mvT hZ (hw _ (List.mem_of_getElem? (i := 96) rfl))) (mvT hZ (hw _ (List.mem_of_getElem? (i := 97) rfl))) (mvT hZ (hw _ (List.mem_of_getElem? (i := 65) rfl))) (mvT hZ (hw _ (List.mem_of_getElem? (i := 98) rfl))) (by decide) (backOf (W := 0) (own_rmcq l Z a0 hw [] bs p3 nn oo cf h0 n0 Z0 hGb Xo hp3 SA SH SL hch (by omega)) hZ (hw _ (List.mem_of_getElem? (i := 98) rfl)) (hw _ (List.mem_of_getElem? (i := 65) rfl)) (by decide) (by decide)) (g := (mkF m 27 #[.val (.ref a), .val (.int (0 : Int32)), .val (.int p3)] [(.int p3), (.int (0 : Int32)), (.ref bs)])) rfl (by rw [hml]; rfl) (argsL := [(.ref bs), (.int (0 : Int32)), (.int p3)]) (rest := []) (lenOf own_pd15 rfl) rfl (by show 2 * 0 + _ ≤ _; exact Nat.le_of_eq rfl) (hb hby own_d8_27) (fun _ _ => ⟨rfl, e19, (by decide : 0 + 0 ≤ _), (by decide : 0 + 0 ≤ _)⟩)
    dsimp only [Pt.U, Pt.locs, Pt.cells, Pt.slots] at X22 l22 y22 z22 st22 hQ22
    subst l22 y22 z22
    obtain ⟨r_22, rfl, N22q, e22, hq22_hr⟩ := hQ22
    have N22 := Fr.app N16 N22q
    have k23 : ∀ t, Steps p.tables e below (T22.setTop (mkF m 30 #[.val (.ref a), .val (.int (0 : Int32)), .val (.int p3)] [(.int r_22)])) t → Steps p.tables e below (s₁.setTop (entryFrame m #[(.ref a), (.int (0 : Int32)), (.int p3)] 3)) t := fun t k => k21 t (st22 t k)
    obtain ⟨fs, hr, hrun, hended, hW, hsame⟩ := X22.leave (v := (some (.int r_22))) (fun h => by rw [Bd.returns] at h; cases h)
    refine ⟨_, _, k23 _ ?_, hrun, hended, _, _, rfl, ?_, ⟨_, rfl⟩, hW, hsame.mono (by decide) (by decide)⟩
    · exact retI X22 hx Bd.returns (hb hby own_d8_30) hr
    · show own_Qct Z a p3 nn oo cf cs h0 n0 _ T22.heap _
      exact ⟨r_22, rfl, N22, e22, hq22_hr⟩
theorem own_d5_0 : decode prog_21_method_5_code 0 = .ok (.aload_n 0, 1) := by decide +kernel
theorem own_d5_1 : decode prog_21_method_5_code 1 = .ok (.iconst 0, 1) := by decide +kernel
theorem own_d5_2 : decode prog_21_method_5_code 2 = .ok (.aload_n 0, 1) := by decide +kernel
theorem own_d5_3 : decode prog_21_method_5_code 3 = .ok (.invokevirtual 48, 3) := by decide +kernel
theorem own_d5_6 : decode prog_21_method_5_code 6 = .ok (.invokevirtual 52, 3) := by decide +kernel
theorem own_d5_9 : decode prog_21_method_5_code 9 = .ok (.istore_n 2, 1) := by decide +kernel
theorem own_d5_10 : decode prog_21_method_5_code 10 = .ok (.iload_n 2, 1) := by decide +kernel
theorem own_d5_11 : decode prog_21_method_5_code 11 = .ok (.iconst 1, 1) := by decide +kernel
theorem own_d5_12 : decode prog_21_method_5_code 12 = .ok (.if_icmp .lt 12, 3) := by decide +kernel
theorem own_d5_15 : decode prog_21_method_5_code 15 = .ok (.iload_n 2, 1) := by decide +kernel
theorem own_d5_16 : decode prog_21_method_5_code 16 = .ok (.iload_n 1, 1) := by decide +kernel
theorem own_d5_17 : decode prog_21_method_5_code 17 = .ok (.if_icmp .gt 7, 3) := by decide +kernel
theorem own_d5_20 : decode prog_21_method_5_code 20 = .ok (.iconst 1, 1) := by decide +kernel
theorem own_d5_21 : decode prog_21_method_5_code 21 = .ok (.goto 4, 3) := by decide +kernel
theorem own_d5_24 : decode prog_21_method_5_code 24 = .ok (.iconst 0, 1) := by decide +kernel
theorem own_d5_25 : decode prog_21_method_5_code 25 = .ok (.ireturn, 1) := by decide +kernel
theorem own_pd16 : parseMethodDescriptor "(II)I" = some ⟨[.int, .int], some .int⟩ := by decide +kernel
theorem own_pn5 : plainName "com/example/daftar/daftar/model/Characters" = true := by first | (simp [plainName, overriddenIn]; done) | decide +kernel
theorem own_efio (m : MethodId) (x0 : Addr) (x1 : Int32) : entryFrame m #[(.ref x0), (.int x1)] 3 = mkF m 0 #[.val (.ref x0), .val (.int x1), .unset] [] := by first | (simp [entryFrame, mkF, argsToLocals, Value.category]; done) | rfl
def own_Qio (Z : State) (a : Addr) (p2 : Int32) (nn : Nat) (oo : Nat) (cf : Nat → Int32) (cs : Int32) (h0 : Heap) (n0 : Nat) (v : Option Value) (h : Heap) (L : List Loc) : Prop := ∃ (r : Int32), v = some (.int r) ∧ Fr n0 L ∧ h = h0 ∧ ((r = (1 : Int32) ∧ (1 ≤ own_cpn cf nn oo ∧ ((own_cpn cf nn oo : Nat) : Int) ≤ p2.toInt)) ∨ (r = (0 : Int32) ∧ ¬ (1 ≤ own_cpn cf nn oo ∧ ((own_cpn cf nn oo : Nat) : Int) ≤ p2.toInt)))
def own_Rio : Room := { frames := 4, cells := 0, slots := 0, locals := 58 }
set_option maxRecDepth 65536 in
set_option maxHeartbeats 40000000 in
theorem own_rmio (l : Launch) (Z : State) (a0 : Array Value) (hw : ∀ d ∈ tables_1, d.before a0 Z = true) (ws : List Jvm.Cond) (a : Addr) (p2 : Int32) (nn : Nat) (oo : Nat) (cf : Nat → Int32) (cs : Int32) (h0 : Heap) (n0 : Nat) (Z0 : n0 ≤ h0.size) (P0 : Exa Z h0 a "java/lang/String") (P1 : own_Str Z h0 a nn oo cf) (Xo : Old Z n0 h0) (SC : Sta Z Z.heap "java/lang/String" "COMPACT_STRINGS" "Z" (.int cs)) (SA : Sta Z Z.heap "java/lang/StringUTF16" "$assertionsDisabled" "Z" (.int (1 : Int32))) (SH : Sta Z Z.heap "java/lang/StringUTF16" "HI_BYTE_SHIFT" "I" (.int (0 : Int32))) (SL : Sta Z Z.heap "java/lang/StringUTF16" "LO_BYTE_SHIFT" "I" (.int (8 : Int32))) (hcs : ¬ (cs = (0 : Int32))) :
    MetFree l (⟨"com/example/daftar/daftar/model/Characters", "isOneTo", "(Ljava/lang/String;I)Z"⟩ : MethodName) (head1 (Jvm.Cond.code (⟨"com/example/daftar/daftar/model/Characters", "isOneTo", "(Ljava/lang/String;I)Z"⟩ : MethodName) prog_21_method_5_code 3 (some .boolean) :: ws) own_Rio) (fun aa U => aa = #[(.ref a), (.int p2)] ∧ Z.Warmed39 U.vm ∧ U.heap = h0) (fun _ _ _ _ _ => True) (fun _ U o U' => ∃ v L, o = .returned v ∧ own_Qio Z a p2 nn oo cf cs h0 n0 v U'.heap L ∧ FrameEnd U o U' L own_Rio.cells own_Rio.slots) := by
  refine MetFree.of_bodySF (plainFor_of_name own_pn5) hisR ?_
  intro p e s m args below meth c s₁ Bd hml0 hP hK
  obtain ⟨rfl, hZ, hh⟩ := hP
  have hx := Bd.exec
  have hby := Bd.bytes
  have hml : c.maxLocals = 3 := hml0
  have hown : s.vm.findClass "com/example/daftar/daftar/model/Characters" = some m.cls := findClass_of_methodNamed Bd.named
  have hnm := (name_of_methodNamed Bd.named Bd.method).1
  have X0 : Stand p l e own_Rio s m #[(.ref a), (.int p2)] below meth c s₁ [] 0 0 := Stand.of_body Bd
  have e0 : s₁.heap = h0 := by rw [← hh, Bd.state]; rfl
  have N0 := Fr.nil n0
  have pre0 : ∀ t, Steps p.tables e below (s₁.setTop (mkF m 0 #[.val (.ref a), .val (.int p2), .unset] [])) t → Steps p.tables e below (s₁.setTop (entryFrame m #[(.ref a), (.int p2)] 3)) t := fun t k => castTop (own_efio m a p2) k
  have hN := P1.2.1
  have k1 : ∀ t, Steps p.tables e below (s₁.setTop (mkF m 3 #[.val (.ref a), .val (.int p2), .unset] [(.ref a), (.int (0 : Int32)), (.ref a)])) t → Steps p.tables e below (s₁.setTop (entryFrame m #[(.ref a), (.int p2)] 3)) t := by
    intro t k
    refine pre0 t ?_
    show Steps p.tables e below (s₁.setTop (mkF m 0 #[.val (.ref a), .val (.int p2), .unset] [])) _
    refine XS.aloadN X0.here hx rfl (hb hby own_d5_0) rfl rfl ?_
    show Steps p.tables e below (s₁.setTop (mkF m 1 #[.val (.ref a), .val (.int p2), .unset] [(.ref a)])) _
    refine XS.iconst X0.here hx rfl (hb hby own_d5_1) ?_
    show Steps p.tables e below (s₁.setTop (mkF m 2 #[.val (.ref a), .val (.int p2), .unset] [(.int (0 : Int32)), (.ref a)])) _
    refine XS.aloadN X0.here hx rfl (hb hby own_d5_2) rfl rfl ?_
    exact k
  obtain ⟨cq2, kq2, q2a, q2b, q2c⟩ := isOf hZ e0 P0
  obtain ⟨_, _, ⟨T2, L2, k2c, n2⟩, -, X2, ⟨Lc2, hQ2, l2, y2, z2⟩, st2⟩ := X0.virtualBack hx (y := (⟨"java/lang/String", "length", "()I"⟩ : MethodName)) (z := (⟨"java/lang/String", "length", "()I"⟩ : MethodName)) hown (mvT hZ (hw _ (List.mem_of_getElem? (i := 33) rfl))) (mvT hZ (hw _ (List.mem_of_getElem? (i := 34) rfl))) (notFace_of_selects (args := #[]) (mvT hZ (hw _ (List.mem_of_getElem? (i := 36) rfl)))) (mvT hZ (hw _ (List.mem_of_getElem? (i := 36) rfl))) (mvT hZ (hw _ (List.mem_of_getElem? (i := 35) rfl))) (by decide) (backOf (W := 2) (own_rmle l Z a0 hw [] a nn oo cf cs h0 n0 Z0 P0 P1 Xo SC hcs) hZ (hw _ (List.mem_of_getElem? (i := 37) rfl)) (hw _ (List.mem_of_getElem? (i := 10) rfl)) (by decide) (by decide)) q2a q2c (g := (mkF m 3 #[.val (.ref a), .val (.int p2), .unset] [(.ref a), (.int (0 : Int32)), (.ref a)])) rfl (by rw [hml]; rfl) (Steps.refl _) (argsL := []) (rest := [(.int (0 : Int32)), (.ref a)]) (lenOf own_pd12 rfl) rfl (by show 2 * 0 + _ ≤ _; exact Nat.le_of_eq rfl) (hb hby own_d5_3) (fun _ _ => ⟨rfl, e0, (by decide : 0 + 0 ≤ _), (by decide : 0 + 0 ≤ _)⟩)
  dsimp only [Pt.U, Pt.locs, Pt.cells, Pt.slots] at X2 l2 y2 z2 st2 hQ2
  subst l2 y2 z2
  obtain ⟨r_2, rfl, N2q, e2, hq2_hr⟩ := hQ2
  have N2 := Fr.app N0 N2q
  have k3 : ∀ t, Steps p.tables e below (T2.setTop (mkF m 6 #[.val (.ref a), .val (.int p2), .unset] [(.int r_2), (.int (0 : Int32)), (.ref a)])) t → Steps p.tables e below (s₁.setTop (entryFrame m #[(.ref a), (.int p2)] 3)) t := fun t k => k1 t (st2.trans k)
  obtain ⟨cq4, kq4, q4a, q4b, q4c⟩ := isOf hZ e2 P0
  obtain ⟨_, _, ⟨T4, L4, k4c, n4⟩, -, X4, ⟨Lc4, hQ4, l4, y4, z4⟩, st4⟩ := X2.virtualBack hx (y := (⟨"java/lang/String", "codePointCount", "(II)I"⟩ : MethodName)) (z := (⟨"java/lang/String", "codePointCount", "(II)I"⟩ : MethodName)) hown (mvT hZ (hw _ (List.mem_of_getElem? (i := 44) rfl))) (mvT hZ (hw _ (List.mem_of_getElem? (i := 45) rfl))) (notFace_of_selects (args := #[]) (mvT hZ (hw _ (List.mem_of_getElem? (i := 47) rfl)))) (mvT hZ (hw _ (List.mem_of_getElem? (i := 47) rfl))) (mvT hZ (hw _ (List.mem_of_getElem? (i := 46) rfl))) (by decide) (backOf (W := 0) (own_rmct l Z a0 hw [] a r_2 nn oo cf cs h0 n0 Z0 P0 P1 Xo hq2_hr SC SA SH SL hcs (by omega)) hZ (hw _ (List.mem_of_getElem? (i := 48) rfl)) (hw _ (List.mem_of_getElem? (i := 10) rfl)) (by decide) (by decide)) q4a q4c (g := (mkF m 6 #[.val (.ref a), .val (.int p2), .unset] [(.int r_2), (.int (0 : Int32)), (.ref a)])) rfl (by rw [hml]; rfl) (Steps.refl _) (argsL := [(.int (0 : Int32)), (.int r_2)]) (rest := []) (lenOf own_pd16 rfl) rfl (by show 2 * 0 + _ ≤ _; exact Nat.le_of_eq rfl) (hb hby own_d5_6) (fun _ _ => ⟨rfl, e2, (by decide : 0 + 0 ≤ _), (by decide : 0 + 0 ≤ _)⟩)
  dsimp only [Pt.U, Pt.locs, Pt.cells, Pt.slots] at X4 l4 y4 z4 st4 hQ4
  subst l4 y4 z4
  obtain ⟨r_4, rfl, N4q, e4, hq4_hr⟩ := hQ4
  have N4 := Fr.app N2 N4q
  have k5 : ∀ t, Steps p.tables e below (T4.setTop (mkF m 9 #[.val (.ref a), .val (.int p2), .unset] [(.int r_4)])) t → Steps p.tables e below (s₁.setTop (entryFrame m #[(.ref a), (.int p2)] 3)) t := fun t k => k3 t (st4.trans k)
  have k6 : ∀ t, Steps p.tables e below (T4.setTop (mkF m 12 #[.val (.ref a), .val (.int p2), .val (.int r_4)] [(.int (1 : Int32)), (.int r_4)])) t → Steps p.tables e below (s₁.setTop (entryFrame m #[(.ref a), (.int p2)] 3)) t := by
    intro t k
    refine k5 t ?_
    show Steps p.tables e below (T4.setTop (mkF m 9 #[.val (.ref a), .val (.int p2), .unset] [(.int r_4)])) _
    refine XS.istoreN X4.here hx rfl (hb hby own_d5_9) rfl (l' := #[.val (.ref a), .val (.int p2), .val (.int r_4)]) rfl ?_
    show Steps p.tables e below (T4.setTop (mkF m 10 #[.val (.ref a), .val (.int p2), .val (.int r_4)] [])) _
    refine XS.iloadN X4.here hx rfl (hb hby own_d5_10) rfl ?_
    show Steps p.tables e below (T4.setTop (mkF m 11 #[.val (.ref a), .val (.int p2), .val (.int r_4)] [(.int r_4)])) _
    refine XS.iconst X4.here hx rfl (hb hby own_d5_11) ?_
    exact k
  by_cases hc12_7 : r_4 < (1 : Int32)
  · have k8 : ∀ t, Steps p.tables e below (T4.setTop (mkF m 25 #[.val (.ref a), .val (.int p2), .val (.int r_4)] [(.int (0 : Int32))])) t → Steps p.tables e below (s₁.setTop (entryFrame m #[(.ref a), (.int p2)] 3)) t := by
      intro t k
      refine k6 t ?_
      show Steps p.tables e below (T4.setTop (mkF m 12 #[.val (.ref a), .val (.int p2), .val (.int r_4)] [(.int (1 : Int32)), (.int r_4)])) _
      refine XS.icmpYes X4.here hx rfl (pc0 := 12) (pc' := 24) rfl (hb hby own_d5_12) rfl (tlt hc12_7).1 (by decide) (by decide) ?_
      show Steps p.tables e below (T4.setTop (mkF m 24 #[.val (.ref a), .val (.int p2), .val (.int r_4)] [])) _
      refine XS.iconst X4.here hx rfl (hb hby own_d5_24) ?_
      exact k
    obtain ⟨fs, hr, hrun, hended, hW, hsame⟩ := X4.leave (v := (some (.int (0 : Int32)))) (fun h => by rw [Bd.returns] at h; cases h)
    refine ⟨_, _, k8 _ ?_, hrun, hended, _, _, rfl, ?_, ⟨_, rfl⟩, hW, hsame.mono (by decide) (by decide)⟩
    · exact retN X4 hx (t := .boolean) Bd.returns (by simp) (hb hby own_d5_25) hr
    · show own_Qio Z a p2 nn oo cf cs h0 n0 _ T4.heap _
      exact ⟨(0 : Int32), rfl, N4, e4, (Or.inr ⟨rfl, own_ioa hq4_hr hc12_7⟩)⟩
  · have k9 : ∀ t, Steps p.tables e below (T4.setTop (mkF m 17 #[.val (.ref a), .val (.int p2), .val (.int r_4)] [(.int p2), (.int r_4)])) t → Steps p.tables e below (s₁.setTop (entryFrame m #[(.ref a), (.int p2)] 3)) t := by
      intro t k
      refine k6 t ?_
      show Steps p.tables e below (T4.setTop (mkF m 12 #[.val (.ref a), .val (.int p2), .val (.int r_4)] [(.int (1 : Int32)), (.int r_4)])) _
      refine XS.icmpNo X4.here hx rfl (hb hby own_d5_12) rfl (flt hc12_7).1 ?_
      show Steps p.tables e below (T4.setTop (mkF m 15 #[.val (.ref a), .val (.int p2), .val (.int r_4)] [])) _
      refine XS.iloadN X4.here hx rfl (hb hby own_d5_15) rfl ?_
      show Steps p.tables e below (T4.setTop (mkF m 16 #[.val (.ref a), .val (.int p2), .val (.int r_4)] [(.int r_4)])) _
      refine XS.iloadN X4.here hx rfl (hb hby own_d5_16) rfl ?_
      exact k
    by_cases hc17_10 : p2 < r_4
    · have k11 : ∀ t, Steps p.tables e below (T4.setTop (mkF m 25 #[.val (.ref a), .val (.int p2), .val (.int r_4)] [(.int (0 : Int32))])) t → Steps p.tables e below (s₁.setTop (entryFrame m #[(.ref a), (.int p2)] 3)) t := by
        intro t k
        refine k9 t ?_
        show Steps p.tables e below (T4.setTop (mkF m 17 #[.val (.ref a), .val (.int p2), .val (.int r_4)] [(.int p2), (.int r_4)])) _
        refine XS.icmpYes X4.here hx rfl (pc0 := 17) (pc' := 24) rfl (hb hby own_d5_17) rfl (tlt hc17_10).2.2.1 (by decide) (by decide) ?_
        show Steps p.tables e below (T4.setTop (mkF m 24 #[.val (.ref a), .val (.int p2), .val (.int r_4)] [])) _
        refine XS.iconst X4.here hx rfl (hb hby own_d5_24) ?_
        exact k
      obtain ⟨fs, hr, hrun, hended, hW, hsame⟩ := X4.leave (v := (some (.int (0 : Int32)))) (fun h => by rw [Bd.returns] at h; cases h)
      refine ⟨_, _, k11 _ ?_, hrun, hended, _, _, rfl, ?_, ⟨_, rfl⟩, hW, hsame.mono (by decide) (by decide)⟩
      · exact retN X4 hx (t := .boolean) Bd.returns (by simp) (hb hby own_d5_25) hr
      · show own_Qio Z a p2 nn oo cf cs h0 n0 _ T4.heap _
        exact ⟨(0 : Int32), rfl, N4, e4, (Or.inr ⟨rfl, own_iob hq4_hr hc17_10⟩)⟩
    · have k12 : ∀ t, Steps p.tables e below (T4.setTop (mkF m 25 #[.val (.ref a), .val (.int p2), .val (.int r_4)] [(.int (1 : Int32))])) t → Steps p.tables e below (s₁.setTop (entryFrame m #[(.ref a), (.int p2)] 3)) t := by
        intro t k
        refine k9 t ?_
        show Steps p.tables e below (T4.setTop (mkF m 17 #[.val (.ref a), .val (.int p2), .val (.int r_4)] [(.int p2), (.int r_4)])) _
        refine XS.icmpNo X4.here hx rfl (hb hby own_d5_17) rfl (flt hc17_10).2.2.1 ?_
        show Steps p.tables e below (T4.setTop (mkF m 20 #[.val (.ref a), .val (.int p2), .val (.int r_4)] [])) _
        refine XS.iconst X4.here hx rfl (hb hby own_d5_20) ?_
        show Steps p.tables e below (T4.setTop (mkF m 21 #[.val (.ref a), .val (.int p2), .val (.int r_4)] [(.int (1 : Int32))])) _
        refine XS.goto X4.here hx rfl (pc0 := 21) (pc' := 25) rfl (hb hby own_d5_21) (by decide) (by decide) ?_
        exact k
      obtain ⟨fs, hr, hrun, hended, hW, hsame⟩ := X4.leave (v := (some (.int (1 : Int32)))) (fun h => by rw [Bd.returns] at h; cases h)
      refine ⟨_, _, k12 _ ?_, hrun, hended, _, _, rfl, ?_, ⟨_, rfl⟩, hW, hsame.mono (by decide) (by decide)⟩
      · exact retN X4 hx (t := .boolean) Bd.returns (by simp) (hb hby own_d5_25) hr
      · show own_Qio Z a p2 nn oo cf cs h0 n0 _ T4.heap _
        exact ⟨(1 : Int32), rfl, N4, e4, (Or.inl ⟨rfl, own_io1 hq4_hr hc12_7 hc17_10⟩)⟩
def own_vdr (p1 : Int32) : Int32 :=
  if (p1 &&& (3 : Int32)) = (0 : Int32) then (nar .char ((((p1.toUInt32 >>> ((2 : Int32) &&& 31).toUInt32).toInt32) &&& (255 : Int32)).toUInt32.toUInt16.toUInt32.toInt32)) else
  if (p1 &&& (3 : Int32)) = (1 : Int32) then (nar .char (((55296 : Int32) + (((p1.toUInt32 >>> ((2 : Int32) &&& 31).toUInt32).toInt32) &&& (1023 : Int32))).toUInt32.toUInt16.toUInt32.toInt32)) else
  if (p1 &&& (3 : Int32)) = (2 : Int32) then (nar .char (((56320 : Int32) + (((p1.toUInt32 >>> ((2 : Int32) &&& 31).toUInt32).toInt32) &&& (1023 : Int32))).toUInt32.toUInt16.toUInt32.toInt32)) else
  (nar .char ((((p1.toUInt32 >>> ((2 : Int32) &&& 31).toUInt32).toInt32) &&& (65535 : Int32)).toUInt32.toUInt16.toUInt32.toInt32))
theorem own_d1_0 : decode method_3_code 0 = .ok (.iload_n 0, 1) := by decide +kernel
theorem own_d1_1 : decode method_3_code 1 = .ok (.iconst 3, 1) := by decide +kernel
theorem own_d1_2 : decode method_3_code 2 = .ok (.iand, 1) := by decide +kernel
theorem own_d1_3 : decode method_3_code 3 = .ok (.istore_n 1, 1) := by decide +kernel
theorem own_d1_4 : decode method_3_code 4 = .ok (.iload_n 0, 1) := by decide +kernel
theorem own_d1_5 : decode method_3_code 5 = .ok (.iconst 2, 1) := by decide +kernel
theorem own_d1_6 : decode method_3_code 6 = .ok (.iushr, 1) := by decide +kernel
theorem own_d1_7 : decode method_3_code 7 = .ok (.istore_n 2, 1) := by decide +kernel
theorem own_d1_8 : decode method_3_code 8 = .ok (.iload_n 1, 1) := by decide +kernel
theorem own_d1_9 : decode method_3_code 9 = .ok (.ifCond .ne 10, 3) := by decide +kernel
theorem own_d1_12 : decode method_3_code 12 = .ok (.iload_n 2, 1) := by decide +kernel
theorem own_d1_13 : decode method_3_code 13 = .ok (.sipush 255, 3) := by decide +kernel
theorem own_d1_16 : decode method_3_code 16 = .ok (.iand, 1) := by decide +kernel
theorem own_d1_17 : decode method_3_code 17 = .ok (.i2c, 1) := by decide +kernel
theorem own_d1_18 : decode method_3_code 18 = .ok (.ireturn, 1) := by decide +kernel
theorem own_d1_19 : decode method_3_code 19 = .ok (.iload_n 1, 1) := by decide +kernel
theorem own_d1_20 : decode method_3_code 20 = .ok (.iconst 1, 1) := by decide +kernel
theorem own_d1_21 : decode method_3_code 21 = .ok (.if_icmp .ne 13, 3) := by decide +kernel
theorem own_d1_24 : decode method_3_code 24 = .ok (.ldc 31, 2) := by decide +kernel
theorem own_d1_26 : decode method_3_code 26 = .ok (.iload_n 2, 1) := by decide +kernel
theorem own_d1_27 : decode method_3_code 27 = .ok (.sipush 1023, 3) := by decide +kernel
theorem own_d1_30 : decode method_3_code 30 = .ok (.iand, 1) := by decide +kernel
theorem own_d1_31 : decode method_3_code 31 = .ok (.iadd, 1) := by decide +kernel
theorem own_d1_32 : decode method_3_code 32 = .ok (.i2c, 1) := by decide +kernel
theorem own_d1_33 : decode method_3_code 33 = .ok (.ireturn, 1) := by decide +kernel
theorem own_d1_34 : decode method_3_code 34 = .ok (.iload_n 1, 1) := by decide +kernel
theorem own_d1_35 : decode method_3_code 35 = .ok (.iconst 2, 1) := by decide +kernel
theorem own_d1_36 : decode method_3_code 36 = .ok (.if_icmp .ne 13, 3) := by decide +kernel
theorem own_d1_39 : decode method_3_code 39 = .ok (.ldc 32, 2) := by decide +kernel
theorem own_d1_41 : decode method_3_code 41 = .ok (.iload_n 2, 1) := by decide +kernel
theorem own_d1_42 : decode method_3_code 42 = .ok (.sipush 1023, 3) := by decide +kernel
theorem own_d1_45 : decode method_3_code 45 = .ok (.iand, 1) := by decide +kernel
theorem own_d1_46 : decode method_3_code 46 = .ok (.iadd, 1) := by decide +kernel
theorem own_d1_47 : decode method_3_code 47 = .ok (.i2c, 1) := by decide +kernel
theorem own_d1_48 : decode method_3_code 48 = .ok (.ireturn, 1) := by decide +kernel
theorem own_d1_49 : decode method_3_code 49 = .ok (.iload_n 2, 1) := by decide +kernel
theorem own_d1_50 : decode method_3_code 50 = .ok (.ldc 33, 2) := by decide +kernel
theorem own_d1_52 : decode method_3_code 52 = .ok (.iand, 1) := by decide +kernel
theorem own_d1_53 : decode method_3_code 53 = .ok (.i2c, 1) := by decide +kernel
theorem own_d1_54 : decode method_3_code 54 = .ok (.ireturn, 1) := by decide +kernel
theorem own_pn6 : plainName "com/example/daftar/daftar/model/CharactersIsOneToPinLaw" = true := by first | (simp [plainName, overriddenIn]; done) | decide +kernel
theorem own_efdr (m : MethodId) (x0 : Int32) : entryFrame m #[(.int x0)] 3 = mkF m 0 #[.val (.int x0), .unset, .unset] [] := by first | (simp [entryFrame, mkF, argsToLocals, Value.category]; done) | rfl
def own_Qdr (Z : State) (p1 : Int32) (h0 : Heap) (n0 : Nat) (v : Option Value) (h : Heap) (L : List Loc) : Prop := v = some (.int (own_vdr p1)) ∧ Fr n0 L ∧ h = h0
set_option maxRecDepth 65536 in
set_option maxHeartbeats 40000000 in
theorem own_rmdr (l : Launch) (Z : State) (a0 : Array Value) (hw : ∀ d ∈ tables_1, d.before a0 Z = true) (ws : List Jvm.Cond) (p1 : Int32) (h0 : Heap) (n0 : Nat) (Z0 : n0 ≤ h0.size) :
    MetFree l (⟨"com/example/daftar/daftar/model/CharactersIsOneToPinLaw", "draw", "(I)C"⟩ : MethodName) (head1 (Jvm.Cond.code (⟨"com/example/daftar/daftar/model/CharactersIsOneToPinLaw", "draw", "(I)C"⟩ : MethodName) method_3_code 3 (some .char) :: ws) ({ frames := 0, cells := 0, slots := 0, locals := 0 } : Room)) (fun aa U => aa = #[(.int p1)] ∧ Z.Warmed39 U.vm ∧ U.heap = h0) (fun _ _ _ _ _ => True) (fun _ U o U' => ∃ v L, o = .returned v ∧ own_Qdr Z p1 h0 n0 v U'.heap L ∧ FrameEnd U o U' L ({ frames := 0, cells := 0, slots := 0, locals := 0 } : Room).cells ({ frames := 0, cells := 0, slots := 0, locals := 0 } : Room).slots) := by
  refine MetFree.of_bodySF (plainFor_of_name own_pn6) hisR ?_
  intro p e s m args below meth c s₁ Bd hml0 hP hK
  obtain ⟨rfl, hZ, hh⟩ := hP
  have hx := Bd.exec
  have hby := Bd.bytes
  have hml : c.maxLocals = 3 := hml0
  have hown : s.vm.findClass "com/example/daftar/daftar/model/CharactersIsOneToPinLaw" = some m.cls := findClass_of_methodNamed Bd.named
  have hnm := (name_of_methodNamed Bd.named Bd.method).1
  have X0 : Stand p l e ({ frames := 0, cells := 0, slots := 0, locals := 0 } : Room) s m #[(.int p1)] below meth c s₁ [] 0 0 := Stand.of_body Bd
  have e0 : s₁.heap = h0 := by rw [← hh, Bd.state]; rfl
  have N0 := Fr.nil n0
  have pre0 : ∀ t, Steps p.tables e below (s₁.setTop (mkF m 0 #[.val (.int p1), .unset, .unset] [])) t → Steps p.tables e below (s₁.setTop (entryFrame m #[(.int p1)] 3)) t := fun t k => castTop (own_efdr m p1) k
  have k1 : ∀ t, Steps p.tables e below (s₁.setTop (mkF m 9 #[.val (.int p1), .val (.int (p1 &&& (3 : Int32))), .val (.int ((p1.toUInt32 >>> ((2 : Int32) &&& 31).toUInt32).toInt32))] [(.int (p1 &&& (3 : Int32)))])) t → Steps p.tables e below (s₁.setTop (entryFrame m #[(.int p1)] 3)) t := by
    intro t k
    refine pre0 t ?_
    show Steps p.tables e below (s₁.setTop (mkF m 0 #[.val (.int p1), .unset, .unset] [])) _
    refine XS.iloadN X0.here hx rfl (hb hby own_d1_0) rfl ?_
    show Steps p.tables e below (s₁.setTop (mkF m 1 #[.val (.int p1), .unset, .unset] [(.int p1)])) _
    refine XS.iconst X0.here hx rfl (hb hby own_d1_1) ?_
    show Steps p.tables e below (s₁.setTop (mkF m 2 #[.val (.int p1), .unset, .unset] [(.int (3 : Int32)), (.int p1)])) _
    refine XS.iand X0.here hx rfl (hb hby own_d1_2) rfl ?_
    show Steps p.tables e below (s₁.setTop (mkF m 3 #[.val (.int p1), .unset, .unset] [(.int (p1 &&& (3 : Int32)))])) _
    refine XS.istoreN X0.here hx rfl (hb hby own_d1_3) rfl (l' := #[.val (.int p1), .val (.int (p1 &&& (3 : Int32))), .unset]) rfl ?_
    show Steps p.tables e below (s₁.setTop (mkF m 4 #[.val (.int p1), .val (.int (p1 &&& (3 : Int32))), .unset] [])) _
    refine XS.iloadN X0.here hx rfl (hb hby own_d1_4) rfl ?_
    show Steps p.tables e below (s₁.setTop (mkF m 5 #[.val (.int p1), .val (.int (p1 &&& (3 : Int32))), .unset] [(.int p1)])) _
    refine XS.iconst X0.here hx rfl (hb hby own_d1_5) ?_
    show Steps p.tables e below (s₁.setTop (mkF m 6 #[.val (.int p1), .val (.int (p1 &&& (3 : Int32))), .unset] [(.int (2 : Int32)), (.int p1)])) _
    refine XS.iushr X0.here hx rfl (hb hby own_d1_6) rfl ?_
    show Steps p.tables e below (s₁.setTop (mkF m 7 #[.val (.int p1), .val (.int (p1 &&& (3 : Int32))), .unset] [(.int ((p1.toUInt32 >>> ((2 : Int32) &&& 31).toUInt32).toInt32))])) _
    refine XS.istoreN X0.here hx rfl (hb hby own_d1_7) rfl (l' := #[.val (.int p1), .val (.int (p1 &&& (3 : Int32))), .val (.int ((p1.toUInt32 >>> ((2 : Int32) &&& 31).toUInt32).toInt32))]) rfl ?_
    show Steps p.tables e below (s₁.setTop (mkF m 8 #[.val (.int p1), .val (.int (p1 &&& (3 : Int32))), .val (.int ((p1.toUInt32 >>> ((2 : Int32) &&& 31).toUInt32).toInt32))] [])) _
    refine XS.iloadN X0.here hx rfl (hb hby own_d1_8) rfl ?_
    exact k
  by_cases hc9_2 : (p1 &&& (3 : Int32)) = (0 : Int32)
  · have k3 : ∀ t, Steps p.tables e below (s₁.setTop (mkF m 18 #[.val (.int p1), .val (.int (p1 &&& (3 : Int32))), .val (.int ((p1.toUInt32 >>> ((2 : Int32) &&& 31).toUInt32).toInt32))] [(.int ((((p1.toUInt32 >>> ((2 : Int32) &&& 31).toUInt32).toInt32) &&& (255 : Int32)).toUInt32.toUInt16.toUInt32.toInt32))])) t → Steps p.tables e below (s₁.setTop (entryFrame m #[(.int p1)] 3)) t := by
      intro t k
      refine k1 t ?_
      show Steps p.tables e below (s₁.setTop (mkF m 9 #[.val (.int p1), .val (.int (p1 &&& (3 : Int32))), .val (.int ((p1.toUInt32 >>> ((2 : Int32) &&& 31).toUInt32).toInt32))] [(.int (p1 &&& (3 : Int32)))])) _
      refine XS.ifNo X0.here hx rfl (hb hby own_d1_9) rfl ((if0 _ _).trans (teq hc9_2).2) ?_
      show Steps p.tables e below (s₁.setTop (mkF m 12 #[.val (.int p1), .val (.int (p1 &&& (3 : Int32))), .val (.int ((p1.toUInt32 >>> ((2 : Int32) &&& 31).toUInt32).toInt32))] [])) _
      refine XS.iloadN X0.here hx rfl (hb hby own_d1_12) rfl ?_
      show Steps p.tables e below (s₁.setTop (mkF m 13 #[.val (.int p1), .val (.int (p1 &&& (3 : Int32))), .val (.int ((p1.toUInt32 >>> ((2 : Int32) &&& 31).toUInt32).toInt32))] [(.int ((p1.toUInt32 >>> ((2 : Int32) &&& 31).toUInt32).toInt32))])) _
      refine XS.sipush X0.here hx rfl (hb hby own_d1_13) ?_
      show Steps p.tables e below (s₁.setTop (mkF m 16 #[.val (.int p1), .val (.int (p1 &&& (3 : Int32))), .val (.int ((p1.toUInt32 >>> ((2 : Int32) &&& 31).toUInt32).toInt32))] [(.int (255 : Int32)), (.int ((p1.toUInt32 >>> ((2 : Int32) &&& 31).toUInt32).toInt32))])) _
      refine XS.iand X0.here hx rfl (hb hby own_d1_16) rfl ?_
      show Steps p.tables e below (s₁.setTop (mkF m 17 #[.val (.int p1), .val (.int (p1 &&& (3 : Int32))), .val (.int ((p1.toUInt32 >>> ((2 : Int32) &&& 31).toUInt32).toInt32))] [(.int (((p1.toUInt32 >>> ((2 : Int32) &&& 31).toUInt32).toInt32) &&& (255 : Int32)))])) _
      refine XS.i2c X0.here hx rfl (hb hby own_d1_17) rfl ?_
      exact k
    obtain ⟨fs, hr, hrun, hended, hW, hsame⟩ := X0.leave (v := (some (.int (nar .char ((((p1.toUInt32 >>> ((2 : Int32) &&& 31).toUInt32).toInt32) &&& (255 : Int32)).toUInt32.toUInt16.toUInt32.toInt32))))) (fun h => by rw [Bd.returns] at h; cases h)
    refine ⟨_, _, k3 _ ?_, hrun, hended, _, _, rfl, ?_, ⟨_, rfl⟩, hW, hsame.mono (by decide) (by decide)⟩
    · exact retN X0 hx (t := .char) Bd.returns (by simp) (hb hby own_d1_18) hr
    · have hv : (own_vdr p1) = (nar .char ((((p1.toUInt32 >>> ((2 : Int32) &&& 31).toUInt32).toInt32) &&& (255 : Int32)).toUInt32.toUInt16.toUInt32.toInt32)) := (if_pos hc9_2)
      exact ⟨congrArg (fun z => some (Value.int z)) hv.symm, N0, e0⟩
  · have k4 : ∀ t, Steps p.tables e below (s₁.setTop (mkF m 21 #[.val (.int p1), .val (.int (p1 &&& (3 : Int32))), .val (.int ((p1.toUInt32 >>> ((2 : Int32) &&& 31).toUInt32).toInt32))] [(.int (1 : Int32)), (.int (p1 &&& (3 : Int32)))])) t → Steps p.tables e below (s₁.setTop (entryFrame m #[(.int p1)] 3)) t := by
      intro t k
      refine k1 t ?_
      show Steps p.tables e below (s₁.setTop (mkF m 9 #[.val (.int p1), .val (.int (p1 &&& (3 : Int32))), .val (.int ((p1.toUInt32 >>> ((2 : Int32) &&& 31).toUInt32).toInt32))] [(.int (p1 &&& (3 : Int32)))])) _
      refine XS.ifYes X0.here hx rfl (pc0 := 9) (pc' := 19) rfl (hb hby own_d1_9) rfl ((if0 _ _).trans (feq hc9_2).2) (by decide) (by decide) ?_
      show Steps p.tables e below (s₁.setTop (mkF m 19 #[.val (.int p1), .val (.int (p1 &&& (3 : Int32))), .val (.int ((p1.toUInt32 >>> ((2 : Int32) &&& 31).toUInt32).toInt32))] [])) _
      refine XS.iloadN X0.here hx rfl (hb hby own_d1_19) rfl ?_
      show Steps p.tables e below (s₁.setTop (mkF m 20 #[.val (.int p1), .val (.int (p1 &&& (3 : Int32))), .val (.int ((p1.toUInt32 >>> ((2 : Int32) &&& 31).toUInt32).toInt32))] [(.int (p1 &&& (3 : Int32)))])) _
      refine XS.iconst X0.here hx rfl (hb hby own_d1_20) ?_
      exact k
    by_cases hc21_5 : (p1 &&& (3 : Int32)) = (1 : Int32)
    · have k6 : ∀ t, Steps p.tables e below (s₁.setTop (mkF m 33 #[.val (.int p1), .val (.int (p1 &&& (3 : Int32))), .val (.int ((p1.toUInt32 >>> ((2 : Int32) &&& 31).toUInt32).toInt32))] [(.int (((55296 : Int32) + (((p1.toUInt32 >>> ((2 : Int32) &&& 31).toUInt32).toInt32) &&& (1023 : Int32))).toUInt32.toUInt16.toUInt32.toInt32))])) t → Steps p.tables e below (s₁.setTop (entryFrame m #[(.int p1)] 3)) t := by
        intro t k
        refine k4 t ?_
        show Steps p.tables e below (s₁.setTop (mkF m 21 #[.val (.int p1), .val (.int (p1 &&& (3 : Int32))), .val (.int ((p1.toUInt32 >>> ((2 : Int32) &&& 31).toUInt32).toInt32))] [(.int (1 : Int32)), (.int (p1 &&& (3 : Int32)))])) _
        refine XS.icmpNo X0.here hx rfl (hb hby own_d1_21) rfl (teq hc21_5).2 ?_
        show Steps p.tables e below (s₁.setTop (mkF m 24 #[.val (.int p1), .val (.int (p1 &&& (3 : Int32))), .val (.int ((p1.toUInt32 >>> ((2 : Int32) &&& 31).toUInt32).toInt32))] [])) _
        refine X0.ldcInt hx hown (mvT hZ (hw _ (List.mem_of_getElem? (i := 6) rfl))) (g := (mkF m 24 #[.val (.int p1), .val (.int (p1 &&& (3 : Int32))), .val (.int ((p1.toUInt32 >>> ((2 : Int32) &&& 31).toUInt32).toInt32))] [])) rfl (hb hby own_d1_24) _ ?_
        show Steps p.tables e below (s₁.setTop (mkF m 26 #[.val (.int p1), .val (.int (p1 &&& (3 : Int32))), .val (.int ((p1.toUInt32 >>> ((2 : Int32) &&& 31).toUInt32).toInt32))] [(.int (55296 : Int32))])) _
        refine XS.iloadN X0.here hx rfl (hb hby own_d1_26) rfl ?_
        show Steps p.tables e below (s₁.setTop (mkF m 27 #[.val (.int p1), .val (.int (p1 &&& (3 : Int32))), .val (.int ((p1.toUInt32 >>> ((2 : Int32) &&& 31).toUInt32).toInt32))] [(.int ((p1.toUInt32 >>> ((2 : Int32) &&& 31).toUInt32).toInt32)), (.int (55296 : Int32))])) _
        refine XS.sipush X0.here hx rfl (hb hby own_d1_27) ?_
        show Steps p.tables e below (s₁.setTop (mkF m 30 #[.val (.int p1), .val (.int (p1 &&& (3 : Int32))), .val (.int ((p1.toUInt32 >>> ((2 : Int32) &&& 31).toUInt32).toInt32))] [(.int (1023 : Int32)), (.int ((p1.toUInt32 >>> ((2 : Int32) &&& 31).toUInt32).toInt32)), (.int (55296 : Int32))])) _
        refine XS.iand X0.here hx rfl (hb hby own_d1_30) rfl ?_
        show Steps p.tables e below (s₁.setTop (mkF m 31 #[.val (.int p1), .val (.int (p1 &&& (3 : Int32))), .val (.int ((p1.toUInt32 >>> ((2 : Int32) &&& 31).toUInt32).toInt32))] [(.int (((p1.toUInt32 >>> ((2 : Int32) &&& 31).toUInt32).toInt32) &&& (1023 : Int32))), (.int (55296 : Int32))])) _
        refine XS.iadd X0.here hx rfl (hb hby own_d1_31) rfl ?_
        show Steps p.tables e below (s₁.setTop (mkF m 32 #[.val (.int p1), .val (.int (p1 &&& (3 : Int32))), .val (.int ((p1.toUInt32 >>> ((2 : Int32) &&& 31).toUInt32).toInt32))] [(.int ((55296 : Int32) + (((p1.toUInt32 >>> ((2 : Int32) &&& 31).toUInt32).toInt32) &&& (1023 : Int32))))])) _
        refine XS.i2c X0.here hx rfl (hb hby own_d1_32) rfl ?_
        exact k
      obtain ⟨fs, hr, hrun, hended, hW, hsame⟩ := X0.leave (v := (some (.int (nar .char (((55296 : Int32) + (((p1.toUInt32 >>> ((2 : Int32) &&& 31).toUInt32).toInt32) &&& (1023 : Int32))).toUInt32.toUInt16.toUInt32.toInt32))))) (fun h => by rw [Bd.returns] at h; cases h)
      refine ⟨_, _, k6 _ ?_, hrun, hended, _, _, rfl, ?_, ⟨_, rfl⟩, hW, hsame.mono (by decide) (by decide)⟩
      · exact retN X0 hx (t := .char) Bd.returns (by simp) (hb hby own_d1_33) hr
      · have hv : (own_vdr p1) = (nar .char (((55296 : Int32) + (((p1.toUInt32 >>> ((2 : Int32) &&& 31).toUInt32).toInt32) &&& (1023 : Int32))).toUInt32.toUInt16.toUInt32.toInt32)) := ((if_neg hc9_2).trans (if_pos hc21_5))
        exact ⟨congrArg (fun z => some (Value.int z)) hv.symm, N0, e0⟩
    · have k7 : ∀ t, Steps p.tables e below (s₁.setTop (mkF m 36 #[.val (.int p1), .val (.int (p1 &&& (3 : Int32))), .val (.int ((p1.toUInt32 >>> ((2 : Int32) &&& 31).toUInt32).toInt32))] [(.int (2 : Int32)), (.int (p1 &&& (3 : Int32)))])) t → Steps p.tables e below (s₁.setTop (entryFrame m #[(.int p1)] 3)) t := by
        intro t k
        refine k4 t ?_
        show Steps p.tables e below (s₁.setTop (mkF m 21 #[.val (.int p1), .val (.int (p1 &&& (3 : Int32))), .val (.int ((p1.toUInt32 >>> ((2 : Int32) &&& 31).toUInt32).toInt32))] [(.int (1 : Int32)), (.int (p1 &&& (3 : Int32)))])) _
        refine XS.icmpYes X0.here hx rfl (pc0 := 21) (pc' := 34) rfl (hb hby own_d1_21) rfl (feq hc21_5).2 (by decide) (by decide) ?_
        show Steps p.tables e below (s₁.setTop (mkF m 34 #[.val (.int p1), .val (.int (p1 &&& (3 : Int32))), .val (.int ((p1.toUInt32 >>> ((2 : Int32) &&& 31).toUInt32).toInt32))] [])) _
        refine XS.iloadN X0.here hx rfl (hb hby own_d1_34) rfl ?_
        show Steps p.tables e below (s₁.setTop (mkF m 35 #[.val (.int p1), .val (.int (p1 &&& (3 : Int32))), .val (.int ((p1.toUInt32 >>> ((2 : Int32) &&& 31).toUInt32).toInt32))] [(.int (p1 &&& (3 : Int32)))])) _
        refine XS.iconst X0.here hx rfl (hb hby own_d1_35) ?_
        exact k
      by_cases hc36_8 : (p1 &&& (3 : Int32)) = (2 : Int32)
      · have k9 : ∀ t, Steps p.tables e below (s₁.setTop (mkF m 48 #[.val (.int p1), .val (.int (p1 &&& (3 : Int32))), .val (.int ((p1.toUInt32 >>> ((2 : Int32) &&& 31).toUInt32).toInt32))] [(.int (((56320 : Int32) + (((p1.toUInt32 >>> ((2 : Int32) &&& 31).toUInt32).toInt32) &&& (1023 : Int32))).toUInt32.toUInt16.toUInt32.toInt32))])) t → Steps p.tables e below (s₁.setTop (entryFrame m #[(.int p1)] 3)) t := by
          intro t k
          refine k7 t ?_
          show Steps p.tables e below (s₁.setTop (mkF m 36 #[.val (.int p1), .val (.int (p1 &&& (3 : Int32))), .val (.int ((p1.toUInt32 >>> ((2 : Int32) &&& 31).toUInt32).toInt32))] [(.int (2 : Int32)), (.int (p1 &&& (3 : Int32)))])) _
          refine XS.icmpNo X0.here hx rfl (hb hby own_d1_36) rfl (teq hc36_8).2 ?_
          show Steps p.tables e below (s₁.setTop (mkF m 39 #[.val (.int p1), .val (.int (p1 &&& (3 : Int32))), .val (.int ((p1.toUInt32 >>> ((2 : Int32) &&& 31).toUInt32).toInt32))] [])) _
          refine X0.ldcInt hx hown (mvT hZ (hw _ (List.mem_of_getElem? (i := 5) rfl))) (g := (mkF m 39 #[.val (.int p1), .val (.int (p1 &&& (3 : Int32))), .val (.int ((p1.toUInt32 >>> ((2 : Int32) &&& 31).toUInt32).toInt32))] [])) rfl (hb hby own_d1_39) _ ?_
          show Steps p.tables e below (s₁.setTop (mkF m 41 #[.val (.int p1), .val (.int (p1 &&& (3 : Int32))), .val (.int ((p1.toUInt32 >>> ((2 : Int32) &&& 31).toUInt32).toInt32))] [(.int (56320 : Int32))])) _
          refine XS.iloadN X0.here hx rfl (hb hby own_d1_41) rfl ?_
          show Steps p.tables e below (s₁.setTop (mkF m 42 #[.val (.int p1), .val (.int (p1 &&& (3 : Int32))), .val (.int ((p1.toUInt32 >>> ((2 : Int32) &&& 31).toUInt32).toInt32))] [(.int ((p1.toUInt32 >>> ((2 : Int32) &&& 31).toUInt32).toInt32)), (.int (56320 : Int32))])) _
          refine XS.sipush X0.here hx rfl (hb hby own_d1_42) ?_
          show Steps p.tables e below (s₁.setTop (mkF m 45 #[.val (.int p1), .val (.int (p1 &&& (3 : Int32))), .val (.int ((p1.toUInt32 >>> ((2 : Int32) &&& 31).toUInt32).toInt32))] [(.int (1023 : Int32)), (.int ((p1.toUInt32 >>> ((2 : Int32) &&& 31).toUInt32).toInt32)), (.int (56320 : Int32))])) _
          refine XS.iand X0.here hx rfl (hb hby own_d1_45) rfl ?_
          show Steps p.tables e below (s₁.setTop (mkF m 46 #[.val (.int p1), .val (.int (p1 &&& (3 : Int32))), .val (.int ((p1.toUInt32 >>> ((2 : Int32) &&& 31).toUInt32).toInt32))] [(.int (((p1.toUInt32 >>> ((2 : Int32) &&& 31).toUInt32).toInt32) &&& (1023 : Int32))), (.int (56320 : Int32))])) _
          refine XS.iadd X0.here hx rfl (hb hby own_d1_46) rfl ?_
          show Steps p.tables e below (s₁.setTop (mkF m 47 #[.val (.int p1), .val (.int (p1 &&& (3 : Int32))), .val (.int ((p1.toUInt32 >>> ((2 : Int32) &&& 31).toUInt32).toInt32))] [(.int ((56320 : Int32) + (((p1.toUInt32 >>> ((2 : Int32) &&& 31).toUInt32).toInt32) &&& (1023 : Int32))))])) _
          refine XS.i2c X0.here hx rfl (hb hby own_d1_47) rfl ?_
          exact k
        obtain ⟨fs, hr, hrun, hended, hW, hsame⟩ := X0.leave (v := (some (.int (nar .char (((56320 : Int32) + (((p1.toUInt32 >>> ((2 : Int32) &&& 31).toUInt32).toInt32) &&& (1023 : Int32))).toUInt32.toUInt16.toUInt32.toInt32))))) (fun h => by rw [Bd.returns] at h; cases h)
        refine ⟨_, _, k9 _ ?_, hrun, hended, _, _, rfl, ?_, ⟨_, rfl⟩, hW, hsame.mono (by decide) (by decide)⟩
        · exact retN X0 hx (t := .char) Bd.returns (by simp) (hb hby own_d1_48) hr
        · have hv : (own_vdr p1) = (nar .char (((56320 : Int32) + (((p1.toUInt32 >>> ((2 : Int32) &&& 31).toUInt32).toInt32) &&& (1023 : Int32))).toUInt32.toUInt16.toUInt32.toInt32)) := ((if_neg hc9_2).trans ((if_neg hc21_5).trans (if_pos hc36_8)))
          exact ⟨congrArg (fun z => some (Value.int z)) hv.symm, N0, e0⟩
      · have k10 : ∀ t, Steps p.tables e below (s₁.setTop (mkF m 54 #[.val (.int p1), .val (.int (p1 &&& (3 : Int32))), .val (.int ((p1.toUInt32 >>> ((2 : Int32) &&& 31).toUInt32).toInt32))] [(.int ((((p1.toUInt32 >>> ((2 : Int32) &&& 31).toUInt32).toInt32) &&& (65535 : Int32)).toUInt32.toUInt16.toUInt32.toInt32))])) t → Steps p.tables e below (s₁.setTop (entryFrame m #[(.int p1)] 3)) t := by
          intro t k
          refine k7 t ?_
          show Steps p.tables e below (s₁.setTop (mkF m 36 #[.val (.int p1), .val (.int (p1 &&& (3 : Int32))), .val (.int ((p1.toUInt32 >>> ((2 : Int32) &&& 31).toUInt32).toInt32))] [(.int (2 : Int32)), (.int (p1 &&& (3 : Int32)))])) _
          refine XS.icmpYes X0.here hx rfl (pc0 := 36) (pc' := 49) rfl (hb hby own_d1_36) rfl (feq hc36_8).2 (by decide) (by decide) ?_
          show Steps p.tables e below (s₁.setTop (mkF m 49 #[.val (.int p1), .val (.int (p1 &&& (3 : Int32))), .val (.int ((p1.toUInt32 >>> ((2 : Int32) &&& 31).toUInt32).toInt32))] [])) _
          refine XS.iloadN X0.here hx rfl (hb hby own_d1_49) rfl ?_
          show Steps p.tables e below (s₁.setTop (mkF m 50 #[.val (.int p1), .val (.int (p1 &&& (3 : Int32))), .val (.int ((p1.toUInt32 >>> ((2 : Int32) &&& 31).toUInt32).toInt32))] [(.int ((p1.toUInt32 >>> ((2 : Int32) &&& 31).toUInt32).toInt32))])) _
          refine X0.ldcInt hx hown (mvT hZ (hw _ (List.mem_of_getElem? (i := 4) rfl))) (g := (mkF m 50 #[.val (.int p1), .val (.int (p1 &&& (3 : Int32))), .val (.int ((p1.toUInt32 >>> ((2 : Int32) &&& 31).toUInt32).toInt32))] [(.int ((p1.toUInt32 >>> ((2 : Int32) &&& 31).toUInt32).toInt32))])) rfl (hb hby own_d1_50) _ ?_
          show Steps p.tables e below (s₁.setTop (mkF m 52 #[.val (.int p1), .val (.int (p1 &&& (3 : Int32))), .val (.int ((p1.toUInt32 >>> ((2 : Int32) &&& 31).toUInt32).toInt32))] [(.int (65535 : Int32)), (.int ((p1.toUInt32 >>> ((2 : Int32) &&& 31).toUInt32).toInt32))])) _
          refine XS.iand X0.here hx rfl (hb hby own_d1_52) rfl ?_
          show Steps p.tables e below (s₁.setTop (mkF m 53 #[.val (.int p1), .val (.int (p1 &&& (3 : Int32))), .val (.int ((p1.toUInt32 >>> ((2 : Int32) &&& 31).toUInt32).toInt32))] [(.int (((p1.toUInt32 >>> ((2 : Int32) &&& 31).toUInt32).toInt32) &&& (65535 : Int32)))])) _
          refine XS.i2c X0.here hx rfl (hb hby own_d1_53) rfl ?_
          exact k
        obtain ⟨fs, hr, hrun, hended, hW, hsame⟩ := X0.leave (v := (some (.int (nar .char ((((p1.toUInt32 >>> ((2 : Int32) &&& 31).toUInt32).toInt32) &&& (65535 : Int32)).toUInt32.toUInt16.toUInt32.toInt32))))) (fun h => by rw [Bd.returns] at h; cases h)
        refine ⟨_, _, k10 _ ?_, hrun, hended, _, _, rfl, ?_, ⟨_, rfl⟩, hW, hsame.mono (by decide) (by decide)⟩
        · exact retN X0 hx (t := .char) Bd.returns (by simp) (hb hby own_d1_54) hr
        · have hv : (own_vdr p1) = (nar .char ((((p1.toUInt32 >>> ((2 : Int32) &&& 31).toUInt32).toInt32) &&& (65535 : Int32)).toUInt32.toUInt16.toUInt32.toInt32)) := ((if_neg hc9_2).trans ((if_neg hc21_5).trans (if_neg hc36_8)))
          exact ⟨congrArg (fun z => some (Value.int z)) hv.symm, N0, e0⟩
def own_vhi (p1 : Int32) : Int32 :=
  if p1 < (55296 : Int32) then (0 : Int32) else
  if (56319 : Int32) < p1 then (0 : Int32) else
  (1 : Int32)
theorem own_d20_0 : decode method_4_code 0 = .ok (.iload_n 0, 1) := by decide +kernel
theorem own_d20_1 : decode method_4_code 1 = .ok (.ldc 31, 2) := by decide +kernel
theorem own_d20_3 : decode method_4_code 3 = .ok (.if_icmp .lt 13, 3) := by decide +kernel
theorem own_d20_6 : decode method_4_code 6 = .ok (.iload_n 0, 1) := by decide +kernel
theorem own_d20_7 : decode method_4_code 7 = .ok (.ldc 34, 2) := by decide +kernel
theorem own_d20_9 : decode method_4_code 9 = .ok (.if_icmp .gt 7, 3) := by decide +kernel
theorem own_d20_12 : decode method_4_code 12 = .ok (.iconst 1, 1) := by decide +kernel
theorem own_d20_13 : decode method_4_code 13 = .ok (.goto 4, 3) := by decide +kernel
theorem own_d20_16 : decode method_4_code 16 = .ok (.iconst 0, 1) := by decide +kernel
theorem own_d20_17 : decode method_4_code 17 = .ok (.ireturn, 1) := by decide +kernel
theorem own_efhi (m : MethodId) (x0 : Int32) : entryFrame m #[(.int x0)] 1 = mkF m 0 #[.val (.int x0)] [] := by first | (simp [entryFrame, mkF, argsToLocals, Value.category]; done) | rfl
def own_Qhi (Z : State) (p1 : Int32) (h0 : Heap) (n0 : Nat) (v : Option Value) (h : Heap) (L : List Loc) : Prop := v = some (.int (own_vhi p1)) ∧ Fr n0 L ∧ h = h0
set_option maxRecDepth 65536 in
set_option maxHeartbeats 40000000 in
theorem own_rmhi (l : Launch) (Z : State) (a0 : Array Value) (hw : ∀ d ∈ tables_1, d.before a0 Z = true) (ws : List Jvm.Cond) (p1 : Int32) (h0 : Heap) (n0 : Nat) (Z0 : n0 ≤ h0.size) :
    MetFree l (⟨"com/example/daftar/daftar/model/CharactersIsOneToPinLaw", "hi", "(C)Z"⟩ : MethodName) (head1 (Jvm.Cond.code (⟨"com/example/daftar/daftar/model/CharactersIsOneToPinLaw", "hi", "(C)Z"⟩ : MethodName) method_4_code 1 (some .boolean) :: ws) ({ frames := 0, cells := 0, slots := 0, locals := 0 } : Room)) (fun aa U => aa = #[(.int p1)] ∧ Z.Warmed39 U.vm ∧ U.heap = h0) (fun _ _ _ _ _ => True) (fun _ U o U' => ∃ v L, o = .returned v ∧ own_Qhi Z p1 h0 n0 v U'.heap L ∧ FrameEnd U o U' L ({ frames := 0, cells := 0, slots := 0, locals := 0 } : Room).cells ({ frames := 0, cells := 0, slots := 0, locals := 0 } : Room).slots) := by
  refine MetFree.of_bodySF (plainFor_of_name own_pn6) hisR ?_
  intro p e s m args below meth c s₁ Bd hml0 hP hK
  obtain ⟨rfl, hZ, hh⟩ := hP
  have hx := Bd.exec
  have hby := Bd.bytes
  have hml : c.maxLocals = 1 := hml0
  have hown : s.vm.findClass "com/example/daftar/daftar/model/CharactersIsOneToPinLaw" = some m.cls := findClass_of_methodNamed Bd.named
  have hnm := (name_of_methodNamed Bd.named Bd.method).1
  have X0 : Stand p l e ({ frames := 0, cells := 0, slots := 0, locals := 0 } : Room) s m #[(.int p1)] below meth c s₁ [] 0 0 := Stand.of_body Bd
  have e0 : s₁.heap = h0 := by rw [← hh, Bd.state]; rfl
  have N0 := Fr.nil n0
  have pre0 : ∀ t, Steps p.tables e below (s₁.setTop (mkF m 0 #[.val (.int p1)] [])) t → Steps p.tables e below (s₁.setTop (entryFrame m #[(.int p1)] 1)) t := fun t k => castTop (own_efhi m p1) k
  have k1 : ∀ t, Steps p.tables e below (s₁.setTop (mkF m 3 #[.val (.int p1)] [(.int (55296 : Int32)), (.int p1)])) t → Steps p.tables e below (s₁.setTop (entryFrame m #[(.int p1)] 1)) t := by
    intro t k
    refine pre0 t ?_
    show Steps p.tables e below (s₁.setTop (mkF m 0 #[.val (.int p1)] [])) _
    refine XS.iloadN X0.here hx rfl (hb hby own_d20_0) rfl ?_
    show Steps p.tables e below (s₁.setTop (mkF m 1 #[.val (.int p1)] [(.int p1)])) _
    refine X0.ldcInt hx hown (mvT hZ (hw _ (List.mem_of_getElem? (i := 6) rfl))) (g := (mkF m 1 #[.val (.int p1)] [(.int p1)])) rfl (hb hby own_d20_1) _ ?_
    exact k
  by_cases hc3_2 : p1 < (55296 : Int32)
  · have k3 : ∀ t, Steps p.tables e below (s₁.setTop (mkF m 17 #[.val (.int p1)] [(.int (0 : Int32))])) t → Steps p.tables e below (s₁.setTop (entryFrame m #[(.int p1)] 1)) t := by
      intro t k
      refine k1 t ?_
      show Steps p.tables e below (s₁.setTop (mkF m 3 #[.val (.int p1)] [(.int (55296 : Int32)), (.int p1)])) _
      refine XS.icmpYes X0.here hx rfl (pc0 := 3) (pc' := 16) rfl (hb hby own_d20_3) rfl (tlt hc3_2).1 (by decide) (by decide) ?_
      show Steps p.tables e below (s₁.setTop (mkF m 16 #[.val (.int p1)] [])) _
      refine XS.iconst X0.here hx rfl (hb hby own_d20_16) ?_
      exact k
    obtain ⟨fs, hr, hrun, hended, hW, hsame⟩ := X0.leave (v := (some (.int (0 : Int32)))) (fun h => by rw [Bd.returns] at h; cases h)
    refine ⟨_, _, k3 _ ?_, hrun, hended, _, _, rfl, ?_, ⟨_, rfl⟩, hW, hsame.mono (by decide) (by decide)⟩
    · exact retN X0 hx (t := .boolean) Bd.returns (by simp) (hb hby own_d20_17) hr
    · have hv : (own_vhi p1) = (0 : Int32) := (if_pos hc3_2)
      exact ⟨congrArg (fun z => some (Value.int z)) hv.symm, N0, e0⟩
  · have k4 : ∀ t, Steps p.tables e below (s₁.setTop (mkF m 9 #[.val (.int p1)] [(.int (56319 : Int32)), (.int p1)])) t → Steps p.tables e below (s₁.setTop (entryFrame m #[(.int p1)] 1)) t := by
      intro t k
      refine k1 t ?_
      show Steps p.tables e below (s₁.setTop (mkF m 3 #[.val (.int p1)] [(.int (55296 : Int32)), (.int p1)])) _
      refine XS.icmpNo X0.here hx rfl (hb hby own_d20_3) rfl (flt hc3_2).1 ?_
      show Steps p.tables e below (s₁.setTop (mkF m 6 #[.val (.int p1)] [])) _
      refine XS.iloadN X0.here hx rfl (hb hby own_d20_6) rfl ?_
      show Steps p.tables e below (s₁.setTop (mkF m 7 #[.val (.int p1)] [(.int p1)])) _
      refine X0.ldcInt hx hown (mvT hZ (hw _ (List.mem_of_getElem? (i := 95) rfl))) (g := (mkF m 7 #[.val (.int p1)] [(.int p1)])) rfl (hb hby own_d20_7) _ ?_
      exact k
    by_cases hc9_5 : (56319 : Int32) < p1
    · have k6 : ∀ t, Steps p.tables e below (s₁.setTop (mkF m 17 #[.val (.int p1)] [(.int (0 : Int32))])) t → Steps p.tables e below (s₁.setTop (entryFrame m #[(.int p1)] 1)) t := by
        intro t k
        refine k4 t ?_
        show Steps p.tables e below (s₁.setTop (mkF m 9 #[.val (.int p1)] [(.int (56319 : Int32)), (.int p1)])) _
        refine XS.icmpYes X0.here hx rfl (pc0 := 9) (pc' := 16) rfl (hb hby own_d20_9) rfl (tlt hc9_5).2.2.1 (by decide) (by decide) ?_
        show Steps p.tables e below (s₁.setTop (mkF m 16 #[.val (.int p1)] [])) _
        refine XS.iconst X0.here hx rfl (hb hby own_d20_16) ?_
        exact k
      obtain ⟨fs, hr, hrun, hended, hW, hsame⟩ := X0.leave (v := (some (.int (0 : Int32)))) (fun h => by rw [Bd.returns] at h; cases h)
      refine ⟨_, _, k6 _ ?_, hrun, hended, _, _, rfl, ?_, ⟨_, rfl⟩, hW, hsame.mono (by decide) (by decide)⟩
      · exact retN X0 hx (t := .boolean) Bd.returns (by simp) (hb hby own_d20_17) hr
      · have hv : (own_vhi p1) = (0 : Int32) := ((if_neg hc3_2).trans (if_pos hc9_5))
        exact ⟨congrArg (fun z => some (Value.int z)) hv.symm, N0, e0⟩
    · have k7 : ∀ t, Steps p.tables e below (s₁.setTop (mkF m 17 #[.val (.int p1)] [(.int (1 : Int32))])) t → Steps p.tables e below (s₁.setTop (entryFrame m #[(.int p1)] 1)) t := by
        intro t k
        refine k4 t ?_
        show Steps p.tables e below (s₁.setTop (mkF m 9 #[.val (.int p1)] [(.int (56319 : Int32)), (.int p1)])) _
        refine XS.icmpNo X0.here hx rfl (hb hby own_d20_9) rfl (flt hc9_5).2.2.1 ?_
        show Steps p.tables e below (s₁.setTop (mkF m 12 #[.val (.int p1)] [])) _
        refine XS.iconst X0.here hx rfl (hb hby own_d20_12) ?_
        show Steps p.tables e below (s₁.setTop (mkF m 13 #[.val (.int p1)] [(.int (1 : Int32))])) _
        refine XS.goto X0.here hx rfl (pc0 := 13) (pc' := 17) rfl (hb hby own_d20_13) (by decide) (by decide) ?_
        exact k
      obtain ⟨fs, hr, hrun, hended, hW, hsame⟩ := X0.leave (v := (some (.int (1 : Int32)))) (fun h => by rw [Bd.returns] at h; cases h)
      refine ⟨_, _, k7 _ ?_, hrun, hended, _, _, rfl, ?_, ⟨_, rfl⟩, hW, hsame.mono (by decide) (by decide)⟩
      · exact retN X0 hx (t := .boolean) Bd.returns (by simp) (hb hby own_d20_17) hr
      · have hv : (own_vhi p1) = (1 : Int32) := ((if_neg hc3_2).trans (if_neg hc9_5))
        exact ⟨congrArg (fun z => some (Value.int z)) hv.symm, N0, e0⟩
def own_vlw (p1 : Int32) : Int32 :=
  if p1 < (56320 : Int32) then (0 : Int32) else
  if (57343 : Int32) < p1 then (0 : Int32) else
  (1 : Int32)
theorem own_d24_0 : decode method_5_code 0 = .ok (.iload_n 0, 1) := by decide +kernel
theorem own_d24_1 : decode method_5_code 1 = .ok (.ldc 32, 2) := by decide +kernel
theorem own_d24_3 : decode method_5_code 3 = .ok (.if_icmp .lt 13, 3) := by decide +kernel
theorem own_d24_6 : decode method_5_code 6 = .ok (.iload_n 0, 1) := by decide +kernel
theorem own_d24_7 : decode method_5_code 7 = .ok (.ldc 35, 2) := by decide +kernel
theorem own_d24_9 : decode method_5_code 9 = .ok (.if_icmp .gt 7, 3) := by decide +kernel
theorem own_d24_12 : decode method_5_code 12 = .ok (.iconst 1, 1) := by decide +kernel
theorem own_d24_13 : decode method_5_code 13 = .ok (.goto 4, 3) := by decide +kernel
theorem own_d24_16 : decode method_5_code 16 = .ok (.iconst 0, 1) := by decide +kernel
theorem own_d24_17 : decode method_5_code 17 = .ok (.ireturn, 1) := by decide +kernel
theorem own_eflw (m : MethodId) (x0 : Int32) : entryFrame m #[(.int x0)] 1 = mkF m 0 #[.val (.int x0)] [] := by first | (simp [entryFrame, mkF, argsToLocals, Value.category]; done) | rfl
def own_Qlw (Z : State) (p1 : Int32) (h0 : Heap) (n0 : Nat) (v : Option Value) (h : Heap) (L : List Loc) : Prop := v = some (.int (own_vlw p1)) ∧ Fr n0 L ∧ h = h0
set_option maxRecDepth 65536 in
set_option maxHeartbeats 40000000 in
theorem own_rmlw (l : Launch) (Z : State) (a0 : Array Value) (hw : ∀ d ∈ tables_1, d.before a0 Z = true) (ws : List Jvm.Cond) (p1 : Int32) (h0 : Heap) (n0 : Nat) (Z0 : n0 ≤ h0.size) :
    MetFree l (⟨"com/example/daftar/daftar/model/CharactersIsOneToPinLaw", "lo", "(C)Z"⟩ : MethodName) (head1 (Jvm.Cond.code (⟨"com/example/daftar/daftar/model/CharactersIsOneToPinLaw", "lo", "(C)Z"⟩ : MethodName) method_5_code 1 (some .boolean) :: ws) ({ frames := 0, cells := 0, slots := 0, locals := 0 } : Room)) (fun aa U => aa = #[(.int p1)] ∧ Z.Warmed39 U.vm ∧ U.heap = h0) (fun _ _ _ _ _ => True) (fun _ U o U' => ∃ v L, o = .returned v ∧ own_Qlw Z p1 h0 n0 v U'.heap L ∧ FrameEnd U o U' L ({ frames := 0, cells := 0, slots := 0, locals := 0 } : Room).cells ({ frames := 0, cells := 0, slots := 0, locals := 0 } : Room).slots) := by
  refine MetFree.of_bodySF (plainFor_of_name own_pn6) hisR ?_
  intro p e s m args below meth c s₁ Bd hml0 hP hK
  obtain ⟨rfl, hZ, hh⟩ := hP
  have hx := Bd.exec
  have hby := Bd.bytes
  have hml : c.maxLocals = 1 := hml0
  have hown : s.vm.findClass "com/example/daftar/daftar/model/CharactersIsOneToPinLaw" = some m.cls := findClass_of_methodNamed Bd.named
  have hnm := (name_of_methodNamed Bd.named Bd.method).1
  have X0 : Stand p l e ({ frames := 0, cells := 0, slots := 0, locals := 0 } : Room) s m #[(.int p1)] below meth c s₁ [] 0 0 := Stand.of_body Bd
  have e0 : s₁.heap = h0 := by rw [← hh, Bd.state]; rfl
  have N0 := Fr.nil n0
  have pre0 : ∀ t, Steps p.tables e below (s₁.setTop (mkF m 0 #[.val (.int p1)] [])) t → Steps p.tables e below (s₁.setTop (entryFrame m #[(.int p1)] 1)) t := fun t k => castTop (own_eflw m p1) k
  have k1 : ∀ t, Steps p.tables e below (s₁.setTop (mkF m 3 #[.val (.int p1)] [(.int (56320 : Int32)), (.int p1)])) t → Steps p.tables e below (s₁.setTop (entryFrame m #[(.int p1)] 1)) t := by
    intro t k
    refine pre0 t ?_
    show Steps p.tables e below (s₁.setTop (mkF m 0 #[.val (.int p1)] [])) _
    refine XS.iloadN X0.here hx rfl (hb hby own_d24_0) rfl ?_
    show Steps p.tables e below (s₁.setTop (mkF m 1 #[.val (.int p1)] [(.int p1)])) _
    refine X0.ldcInt hx hown (mvT hZ (hw _ (List.mem_of_getElem? (i := 5) rfl))) (g := (mkF m 1 #[.val (.int p1)] [(.int p1)])) rfl (hb hby own_d24_1) _ ?_
    exact k
  by_cases hc3_2 : p1 < (56320 : Int32)
  · have k3 : ∀ t, Steps p.tables e below (s₁.setTop (mkF m 17 #[.val (.int p1)] [(.int (0 : Int32))])) t → Steps p.tables e below (s₁.setTop (entryFrame m #[(.int p1)] 1)) t := by
      intro t k
      refine k1 t ?_
      show Steps p.tables e below (s₁.setTop (mkF m 3 #[.val (.int p1)] [(.int (56320 : Int32)), (.int p1)])) _
      refine XS.icmpYes X0.here hx rfl (pc0 := 3) (pc' := 16) rfl (hb hby own_d24_3) rfl (tlt hc3_2).1 (by decide) (by decide) ?_
      show Steps p.tables e below (s₁.setTop (mkF m 16 #[.val (.int p1)] [])) _
      refine XS.iconst X0.here hx rfl (hb hby own_d24_16) ?_
      exact k
    obtain ⟨fs, hr, hrun, hended, hW, hsame⟩ := X0.leave (v := (some (.int (0 : Int32)))) (fun h => by rw [Bd.returns] at h; cases h)
    refine ⟨_, _, k3 _ ?_, hrun, hended, _, _, rfl, ?_, ⟨_, rfl⟩, hW, hsame.mono (by decide) (by decide)⟩
    · exact retN X0 hx (t := .boolean) Bd.returns (by simp) (hb hby own_d24_17) hr
    · have hv : (own_vlw p1) = (0 : Int32) := (if_pos hc3_2)
      exact ⟨congrArg (fun z => some (Value.int z)) hv.symm, N0, e0⟩
  · have k4 : ∀ t, Steps p.tables e below (s₁.setTop (mkF m 9 #[.val (.int p1)] [(.int (57343 : Int32)), (.int p1)])) t → Steps p.tables e below (s₁.setTop (entryFrame m #[(.int p1)] 1)) t := by
      intro t k
      refine k1 t ?_
      show Steps p.tables e below (s₁.setTop (mkF m 3 #[.val (.int p1)] [(.int (56320 : Int32)), (.int p1)])) _
      refine XS.icmpNo X0.here hx rfl (hb hby own_d24_3) rfl (flt hc3_2).1 ?_
      show Steps p.tables e below (s₁.setTop (mkF m 6 #[.val (.int p1)] [])) _
      refine XS.iloadN X0.here hx rfl (hb hby own_d24_6) rfl ?_
      show Steps p.tables e below (s₁.setTop (mkF m 7 #[.val (.int p1)] [(.int p1)])) _
      refine X0.ldcInt hx hown (mvT hZ (hw _ (List.mem_of_getElem? (i := 114) rfl))) (g := (mkF m 7 #[.val (.int p1)] [(.int p1)])) rfl (hb hby own_d24_7) _ ?_
      exact k
    by_cases hc9_5 : (57343 : Int32) < p1
    · have k6 : ∀ t, Steps p.tables e below (s₁.setTop (mkF m 17 #[.val (.int p1)] [(.int (0 : Int32))])) t → Steps p.tables e below (s₁.setTop (entryFrame m #[(.int p1)] 1)) t := by
        intro t k
        refine k4 t ?_
        show Steps p.tables e below (s₁.setTop (mkF m 9 #[.val (.int p1)] [(.int (57343 : Int32)), (.int p1)])) _
        refine XS.icmpYes X0.here hx rfl (pc0 := 9) (pc' := 16) rfl (hb hby own_d24_9) rfl (tlt hc9_5).2.2.1 (by decide) (by decide) ?_
        show Steps p.tables e below (s₁.setTop (mkF m 16 #[.val (.int p1)] [])) _
        refine XS.iconst X0.here hx rfl (hb hby own_d24_16) ?_
        exact k
      obtain ⟨fs, hr, hrun, hended, hW, hsame⟩ := X0.leave (v := (some (.int (0 : Int32)))) (fun h => by rw [Bd.returns] at h; cases h)
      refine ⟨_, _, k6 _ ?_, hrun, hended, _, _, rfl, ?_, ⟨_, rfl⟩, hW, hsame.mono (by decide) (by decide)⟩
      · exact retN X0 hx (t := .boolean) Bd.returns (by simp) (hb hby own_d24_17) hr
      · have hv : (own_vlw p1) = (0 : Int32) := ((if_neg hc3_2).trans (if_pos hc9_5))
        exact ⟨congrArg (fun z => some (Value.int z)) hv.symm, N0, e0⟩
    · have k7 : ∀ t, Steps p.tables e below (s₁.setTop (mkF m 17 #[.val (.int p1)] [(.int (1 : Int32))])) t → Steps p.tables e below (s₁.setTop (entryFrame m #[(.int p1)] 1)) t := by
        intro t k
        refine k4 t ?_
        show Steps p.tables e below (s₁.setTop (mkF m 9 #[.val (.int p1)] [(.int (57343 : Int32)), (.int p1)])) _
        refine XS.icmpNo X0.here hx rfl (hb hby own_d24_9) rfl (flt hc9_5).2.2.1 ?_
        show Steps p.tables e below (s₁.setTop (mkF m 12 #[.val (.int p1)] [])) _
        refine XS.iconst X0.here hx rfl (hb hby own_d24_12) ?_
        show Steps p.tables e below (s₁.setTop (mkF m 13 #[.val (.int p1)] [(.int (1 : Int32))])) _
        refine XS.goto X0.here hx rfl (pc0 := 13) (pc' := 17) rfl (hb hby own_d24_13) (by decide) (by decide) ?_
        exact k
      obtain ⟨fs, hr, hrun, hended, hW, hsame⟩ := X0.leave (v := (some (.int (1 : Int32)))) (fun h => by rw [Bd.returns] at h; cases h)
      refine ⟨_, _, k7 _ ?_, hrun, hended, _, _, rfl, ?_, ⟨_, rfl⟩, hW, hsame.mono (by decide) (by decide)⟩
      · exact retN X0 hx (t := .boolean) Bd.returns (by simp) (hb hby own_d24_17) hr
      · have hv : (own_vlw p1) = (1 : Int32) := ((if_neg hc3_2).trans (if_neg hc9_5))
        exact ⟨congrArg (fun z => some (Value.int z)) hv.symm, N0, e0⟩
theorem own_drb (x : Int32) : own_ch (own_vdr x) := by
  unfold own_vdr
  split
  · exact own_narb _
  · split
    · exact own_narb _
    · split <;> exact own_narb _
theorem own_drn (x : Int32) : nar .char (own_vdr x) = own_vdr x := by
  unfold own_vdr
  split
  · exact own_narn _
  · split
    · exact own_narn _
    · split <;> exact own_narn _

def own_n (p1 : Int32) : Int32 := ((p1 &&& (127 : Int32)) % (5 : Int32))
def own_most (p1 : Int32) (p6 : Int32) : Int32 := if (((p1.toUInt32 >>> ((8 : Int32) &&& 31).toUInt32).toInt32) &&& (1 : Int32)) = (0 : Int32) then (p6 % (7 : Int32)) else p6
def own_ex1 (p1 : Int32) (p6 : Int32) : Int32 := if (own_most p1 p6) < (1 : Int32) then (0 : Int32) else (1 : Int32)
def own_qa2 (p2 : Int32) (p3 : Int32) : Int32 := if (own_vhi (own_vdr p2)) = (0 : Int32) then (0 : Int32) else if (own_vlw (own_vdr p3)) = (0 : Int32) then (0 : Int32) else (1 : Int32)
def own_ex2 (p1 : Int32) (p2 : Int32) (p3 : Int32) (p6 : Int32) : Int32 := if ((2 : Int32) - (own_qa2 p2 p3)) < (1 : Int32) then (0 : Int32) else if (own_most p1 p6) < ((2 : Int32) - (own_qa2 p2 p3)) then (0 : Int32) else (1 : Int32)
def own_qa3 (p2 : Int32) (p3 : Int32) : Int32 := if (own_vhi (own_vdr p2)) = (0 : Int32) then (0 : Int32) else if (own_vlw (own_vdr p3)) = (0 : Int32) then (0 : Int32) else (1 : Int32)
def own_qb3 (p2 : Int32) (p3 : Int32) (p4 : Int32) : Int32 := if (own_vhi (own_vdr p3)) = (0 : Int32) then (own_qa3 p2 p3) else if (own_vlw (own_vdr p4)) = (0 : Int32) then (own_qa3 p2 p3) else ((own_qa3 p2 p3) + (1 : Int32))
def own_ex3 (p1 : Int32) (p2 : Int32) (p3 : Int32) (p4 : Int32) (p6 : Int32) : Int32 := if ((3 : Int32) - (own_qb3 p2 p3 p4)) < (1 : Int32) then (0 : Int32) else if (own_most p1 p6) < ((3 : Int32) - (own_qb3 p2 p3 p4)) then (0 : Int32) else (1 : Int32)
def own_qa4 (p2 : Int32) (p3 : Int32) : Int32 := if (own_vhi (own_vdr p2)) = (0 : Int32) then (0 : Int32) else if (own_vlw (own_vdr p3)) = (0 : Int32) then (0 : Int32) else (1 : Int32)
def own_qb4 (p2 : Int32) (p3 : Int32) (p4 : Int32) : Int32 := if (own_vhi (own_vdr p3)) = (0 : Int32) then (own_qa4 p2 p3) else if (own_vlw (own_vdr p4)) = (0 : Int32) then (own_qa4 p2 p3) else ((own_qa4 p2 p3) + (1 : Int32))
def own_qc4 (p2 : Int32) (p3 : Int32) (p4 : Int32) (p5 : Int32) : Int32 := if (own_vhi (own_vdr p4)) = (0 : Int32) then (own_qb4 p2 p3 p4) else if (own_vlw (own_vdr p5)) = (0 : Int32) then (own_qb4 p2 p3 p4) else ((own_qb4 p2 p3 p4) + (1 : Int32))
def own_ex4 (p1 : Int32) (p2 : Int32) (p3 : Int32) (p4 : Int32) (p5 : Int32) (p6 : Int32) : Int32 := if ((4 : Int32) - (own_qc4 p2 p3 p4 p5)) < (1 : Int32) then (0 : Int32) else if (own_most p1 p6) < ((4 : Int32) - (own_qc4 p2 p3 p4 p5)) then (0 : Int32) else (1 : Int32)
theorem own_nc (p1 : Int32) : own_n p1 = (0 : Int32) ∨ own_n p1 = (1 : Int32) ∨ own_n p1 = (2 : Int32) ∨ own_n p1 = (3 : Int32) ∨ own_n p1 = (4 : Int32) := by
  have h1 := c_mask p1 127 7 (by decide) (by decide)
  have h2 := (c_irem (p1 &&& 127) 5 5 (by decide)).1 (by omega)
  have h3 : 0 ≤ (own_n p1).toInt ∧ (own_n p1).toInt < 5 := by unfold own_n; omega
  simp only [← Int32.toInt_inj]
  generalize (own_n p1).toInt = z at h3
  show z = 0 ∨ z = 1 ∨ z = 2 ∨ z = 3 ∨ z = 4
  omega
theorem own_hh (x : Int32) : own_vhi x = own_vih x := by
  unfold own_vhi own_vih
  by_cases h : x < (55296 : Int32)
  · rw [if_pos h, if_pos h]
  · rw [if_neg h, if_neg h]
    by_cases h2 : x < (56320 : Int32)
    · rw [if_pos h2, if_neg]
      rw [Int32.lt_iff_toInt_lt] at h2 ⊢
      have e1 : (56319 : Int32).toInt = 56319 := rfl; have e2 : (56320 : Int32).toInt = 56320 := rfl; omega
    · rw [if_neg h2, if_pos]
      rw [Int32.lt_iff_toInt_lt] at h2 ⊢
      have e1 : (56319 : Int32).toInt = 56319 := rfl; have e2 : (56320 : Int32).toInt = 56320 := rfl; omega
theorem own_ll (x : Int32) : own_vlw x = own_vil x := by
  unfold own_vlw own_vil
  by_cases h : x < (56320 : Int32)
  · rw [if_pos h, if_pos h]
  · rw [if_neg h, if_neg h]
    by_cases h2 : x < (57344 : Int32)
    · rw [if_pos h2, if_neg]
      rw [Int32.lt_iff_toInt_lt] at h2 ⊢
      have e1 : (57343 : Int32).toInt = 57343 := rfl; have e2 : (57344 : Int32).toInt = 57344 := rfl; omega
    · rw [if_neg h2, if_pos]
      rw [Int32.lt_iff_toInt_lt] at h2 ⊢
      have e1 : (57343 : Int32).toInt = 57343 := rfl; have e2 : (57344 : Int32).toInt = 57344 := rfl; omega
theorem own_dis (x : Int32) : own_vih x = 0 ∨ own_vil x = 0 := by
  unfold own_vih own_vil
  by_cases h : x < (56320 : Int32)
  · exact Or.inr (if_pos h)
  · refine Or.inl ?_
    by_cases h1 : x < (55296 : Int32)
    · exact if_pos h1
    · rw [if_neg h1, if_neg h]
theorem own_finG {r cnt most : Int32} {k : Nat} (hc : cnt.toInt = (k : Int)) (hr : (r = (1 : Int32) ∧ (1 ≤ k ∧ (k : Int) ≤ most.toInt)) ∨ (r = (0 : Int32) ∧ ¬ (1 ≤ k ∧ (k : Int) ≤ most.toInt))) : r = if cnt < (1 : Int32) then (0 : Int32) else if most < cnt then (0 : Int32) else (1 : Int32) := by
  have e : (1 : Int32).toInt = 1 := rfl
  rcases hr with ⟨rfl, h1, h2⟩ | ⟨rfl, h⟩
  · rw [if_neg (by rw [Int32.lt_iff_toInt_lt]; omega), if_neg (by rw [Int32.lt_iff_toInt_lt]; omega)]
  · by_cases q : cnt < (1 : Int32)
    · rw [if_pos q]
    · rw [if_neg q]
      rw [Int32.lt_iff_toInt_lt] at q
      rw [if_pos (by rw [Int32.lt_iff_toInt_lt]; omega)]
abbrev own_hrT (r : Int32) (cf : Nat → Int32) (n : Nat) (most : Int32) : Prop := (r = (1 : Int32) ∧ (1 ≤ own_cpn cf n 0 ∧ ((own_cpn cf n 0 : Nat) : Int) ≤ most.toInt)) ∨ (r = (0 : Int32) ∧ ¬ (1 ≤ own_cpn cf n 0 ∧ ((own_cpn cf n 0 : Nat) : Int) ≤ most.toInt))
theorem own_fin0 (p1 p2 p3 p4 p5 p6 : Int32) {r : Int32} {cf : Nat → Int32} {most : Int32} (h : own_hrT r cf 0 most) : r = (0 : Int32) := by
  rcases h with ⟨-, h1, -⟩ | ⟨h, -⟩
  · exact absurd (show 1 ≤ 0 from h1) (by decide)
  · exact h
theorem own_fin1 (p1 p2 p3 p4 p5 p6 : Int32) {r : Int32} (h : own_hrT r (own_of [own_vdr p2]) 1 (own_most p1 p6)) : r = own_ex1 p1 p6 := by
  exact (own_finG (cnt := 1) (k := 1) rfl h).trans (by unfold own_ex1; rw [if_neg (by decide)])
theorem own_cn2 (a b : Int32) : ((2 : Int32) - (if own_vih a = 0 then (0 : Int32) else if own_vil b = 0 then (0 : Int32) else (1 : Int32))).toInt = ((own_cpn (own_of [a, b]) 2 0 : Nat) : Int) := by
  rw [show own_cpn (own_of [a, b]) 2 0 = if own_vih a = 0 then 2 else if own_vil b = 0 then 2 else 1 from rfl]
  split
  · rfl
  · split <;> rfl
theorem own_fin2 (p1 p2 p3 p4 p5 p6 : Int32) {r : Int32} (h : own_hrT r (own_of [own_vdr p2, own_vdr p3]) 2 (own_most p1 p6)) : r = own_ex2 p1 p2 p3 p6 := by
  refine own_finG (cnt := (2 : Int32) - own_qa2 p2 p3) ?_ h
  unfold own_qa2; simp only [own_hh, own_ll]; exact own_cn2 _ _
theorem own_cn3 (a b c : Int32) (q : Int32) (hq : q = if own_vih a = 0 then (0 : Int32) else if own_vil b = 0 then (0 : Int32) else (1 : Int32)) : ((3 : Int32) - (if own_vih b = 0 then q else if own_vil c = 0 then q else (q + (1 : Int32)))).toInt = ((own_cpn (own_of [a, b, c]) 3 0 : Nat) : Int) := by
  rw [show own_cpn (own_of [a, b, c]) 3 0 = if own_vih a = 0 then 1 + (if own_vih b = 0 then 2 else if own_vil c = 0 then 2 else 1) else if own_vil b = 0 then 1 + (if own_vih b = 0 then 2 else if own_vil c = 0 then 2 else 1) else 2 from rfl]
  rcases own_dis b with h | h <;> by_cases h0 : own_vih a = 0 <;> by_cases h1 : own_vih b = 0 <;> by_cases h2 : own_vil b = 0 <;> by_cases h3 : own_vil c = 0 <;> simp only [h0, h1, h2, h3, if_true, if_false] at hq ⊢ <;> first | (subst hq; rfl) | (exact absurd h h1) | (exact absurd h h2)
theorem own_fin3 (p1 p2 p3 p4 p5 p6 : Int32) {r : Int32} (h : own_hrT r (own_of [own_vdr p2, own_vdr p3, own_vdr p4]) 3 (own_most p1 p6)) : r = own_ex3 p1 p2 p3 p4 p6 := by
  refine own_finG (cnt := (3 : Int32) - own_qb3 p2 p3 p4) ?_ h
  unfold own_qb3; simp only [own_hh, own_ll]; exact own_cn3 _ _ _ _ (by unfold own_qa3; simp only [own_hh, own_ll])
theorem own_cn4 (a b c d : Int32) (q q2 : Int32) (hq : q = if own_vih a = 0 then (0 : Int32) else if own_vil b = 0 then (0 : Int32) else (1 : Int32)) (hq2 : q2 = if own_vih b = 0 then q else if own_vil c = 0 then q else (q + (1 : Int32))) : ((4 : Int32) - (if own_vih c = 0 then q2 else if own_vil d = 0 then q2 else (q2 + (1 : Int32)))).toInt = ((own_cpn (own_of [a, b, c, d]) 4 0 : Nat) : Int) := by
  have e2 : own_cpn (own_of [a, b, c, d]) 2 2 = if own_vih c = 0 then 2 else if own_vil d = 0 then 2 else 1 := rfl
  have e3 : own_cpn (own_of [a, b, c, d]) 3 1 = if own_vih b = 0 then 1 + own_cpn (own_of [a, b, c, d]) 2 2 else if own_vil c = 0 then 1 + own_cpn (own_of [a, b, c, d]) 2 2 else 2 := rfl
  have e4 : own_cpn (own_of [a, b, c, d]) 4 0 = if own_vih a = 0 then 1 + own_cpn (own_of [a, b, c, d]) 3 1 else if own_vil b = 0 then 1 + own_cpn (own_of [a, b, c, d]) 3 1 else 1 + own_cpn (own_of [a, b, c, d]) 2 2 := rfl
  rw [e4, e3, e2]
  rcases own_dis b with h | h <;> rcases own_dis c with g | g <;> by_cases h0 : own_vih a = 0 <;> by_cases h1 : own_vih b = 0 <;> by_cases h2 : own_vil b = 0 <;> by_cases h3 : own_vil c = 0 <;> by_cases h4 : own_vih c = 0 <;> by_cases h5 : own_vil d = 0 <;> simp only [h0, h1, h2, h3, h4, h5, if_true, if_false] at hq hq2 ⊢ <;> first | (subst hq hq2; rfl) | (exact absurd h h1) | (exact absurd h h2) | (exact absurd g h4) | (exact absurd g h3)
theorem own_fin4 (p1 p2 p3 p4 p5 p6 : Int32) {r : Int32} (h : own_hrT r (own_of [own_vdr p2, own_vdr p3, own_vdr p4, own_vdr p5]) 4 (own_most p1 p6)) : r = own_ex4 p1 p2 p3 p4 p5 p6 := by
  refine own_finG (cnt := (4 : Int32) - own_qc4 p2 p3 p4 p5) ?_ h
  unfold own_qc4; simp only [own_hh, own_ll]
  exact own_cn4 _ _ _ _ (own_qa4 p2 p3) _ (by unfold own_qa4; simp only [own_hh, own_ll]) (by unfold own_qb4; simp only [own_hh, own_ll])

theorem own_pd17 : parseMethodDescriptor "(I)C" = some ⟨[.int], some .char⟩ := by decide +kernel
theorem own_pd18 : parseMethodDescriptor "([C)V" = some ⟨[(.array .char)], none⟩ := by decide +kernel
theorem own_pd19 : parseMethodDescriptor "(Ljava/lang/String;I)Z" = some ⟨[(.object "java/lang/String"), .int], some .boolean⟩ := by decide +kernel
theorem own_ef0 (m : MethodId) (x0 : Int32) (x1 : Int32) (x2 : Int32) (x3 : Int32) (x4 : Int32) (x5 : Int32) : entryFrame m #[(.int x0), (.int x1), (.int x2), (.int x3), (.int x4), (.int x5)] maxLocals = mkF m 0 #[.val (.int x0), .val (.int x1), .val (.int x2), .val (.int x3), .val (.int x4), .val (.int x5), .unset, .unset, .unset, .unset, .unset, .unset, .unset, .unset, .unset, .unset, .unset] [] := by first | (simp [entryFrame, mkF, argsToLocals, Value.category, maxLocals]; done) | rfl
def own_Q0 (Z : State) (p1 : Int32) (p2 : Int32) (p3 : Int32) (p4 : Int32) (p5 : Int32) (p6 : Int32) (cs : Int32) (h0 : Heap) (n0 : Nat) (v : Option Value) (h : Heap) (L : List Loc) : Prop := v = some (.int (1 : Int32)) ∧ Fr n0 L
set_option maxRecDepth 65536 in
set_option maxHeartbeats 40000000 in
theorem own_rm0 (l : Launch) (Z : State) (a0 : Array Value) (hw : ∀ d ∈ tables_1, d.before a0 Z = true) (ws : List Jvm.Cond) (p1 : Int32) (p2 : Int32) (p3 : Int32) (p4 : Int32) (p5 : Int32) (p6 : Int32) (cs : Int32) (h0 : Heap) (n0 : Nat) (Z0 : n0 ≤ h0.size) (Xo : Old Z n0 h0) (SC : Sta Z Z.heap "java/lang/String" "COMPACT_STRINGS" "Z" (.int cs)) (SA : Sta Z Z.heap "java/lang/StringUTF16" "$assertionsDisabled" "Z" (.int (1 : Int32))) (SH : Sta Z Z.heap "java/lang/StringUTF16" "HI_BYTE_SHIFT" "I" (.int (0 : Int32))) (SL : Sta Z Z.heap "java/lang/StringUTF16" "LO_BYTE_SHIFT" "I" (.int (8 : Int32))) (hcs : ¬ (cs = (0 : Int32))) :
    MetFree l x (head1 (Jvm.Cond.code x code maxLocals ret :: ws) room_1) (fun aa U => aa = #[(.int p1), (.int p2), (.int p3), (.int p4), (.int p5), (.int p6)] ∧ Z.Warmed39 U.vm ∧ U.heap = h0 ∧ CHv Z own_EL U.vm h0) (fun _ _ _ _ _ => True) (fun _ U o U' => ∃ v L, o = .returned v ∧ own_Q0 Z p1 p2 p3 p4 p5 p6 cs h0 n0 v U'.heap L ∧ ReturnedEndW U o U' L room_1.cells room_1.slots) := by
  refine MetFree.of_bodySF (plainFor_of_name own_pn6) hisR ?_
  intro p e s m args below meth c s₁ Bd hml0 hP hK
  obtain ⟨rfl, hZ, hh, hH0⟩ := hP
  have hx := Bd.exec
  have hby := Bd.bytes
  have hml : c.maxLocals = 17 := hml0
  have hown : s.vm.findClass "com/example/daftar/daftar/model/CharactersIsOneToPinLaw" = some m.cls := findClass_of_methodNamed Bd.named
  have hnm := (name_of_methodNamed Bd.named Bd.method).1
  have X0 : Stand p l e room_1 s m #[(.int p1), (.int p2), (.int p3), (.int p4), (.int p5), (.int p6)] below meth c s₁ [] 0 0 := Stand.of_body Bd
  have e0 : s₁.heap = h0 := by rw [← hh, Bd.state]; rfl
  have N0 := Fr.nil n0
  have pre0 : ∀ t, Steps p.tables e below (s₁.setTop (mkF m 0 #[.val (.int p1), .val (.int p2), .val (.int p3), .val (.int p4), .val (.int p5), .val (.int p6), .unset, .unset, .unset, .unset, .unset, .unset, .unset, .unset, .unset, .unset, .unset] [])) t → Steps p.tables e below (s₁.setTop (entryFrame m #[(.int p1), (.int p2), (.int p3), (.int p4), (.int p5), (.int p6)] maxLocals)) t := fun t k => castTop (own_ef0 m p1 p2 p3 p4 p5 p6) k
  have k1 : ∀ t, Steps p.tables e below (s₁.setTop (mkF m 8 #[.val (.int p1), .val (.int p2), .val (.int p3), .val (.int p4), .val (.int p5), .val (.int p6), .val (.int (own_n p1)), .unset, .unset, .unset, .unset, .unset, .unset, .unset, .unset, .unset, .unset] [])) t → Steps p.tables e below (s₁.setTop (entryFrame m #[(.int p1), (.int p2), (.int p3), (.int p4), (.int p5), (.int p6)] maxLocals)) t := by
    intro t k
    refine pre0 t ?_
    show Steps p.tables e below (s₁.setTop (mkF m 0 #[.val (.int p1), .val (.int p2), .val (.int p3), .val (.int p4), .val (.int p5), .val (.int p6), .unset, .unset, .unset, .unset, .unset, .unset, .unset, .unset, .unset, .unset, .unset] [])) _
    refine XS.iloadN X0.here hx rfl (hb hby at_0) rfl ?_
    show Steps p.tables e below (s₁.setTop (mkF m 1 #[.val (.int p1), .val (.int p2), .val (.int p3), .val (.int p4), .val (.int p5), .val (.int p6), .unset, .unset, .unset, .unset, .unset, .unset, .unset, .unset, .unset, .unset, .unset] [(.int p1)])) _
    refine XS.bipush X0.here hx rfl (hb hby at_1) ?_
    show Steps p.tables e below (s₁.setTop (mkF m 3 #[.val (.int p1), .val (.int p2), .val (.int p3), .val (.int p4), .val (.int p5), .val (.int p6), .unset, .unset, .unset, .unset, .unset, .unset, .unset, .unset, .unset, .unset, .unset] [(.int (127 : Int32)), (.int p1)])) _
    refine XS.iand X0.here hx rfl (hb hby at_3) rfl ?_
    show Steps p.tables e below (s₁.setTop (mkF m 4 #[.val (.int p1), .val (.int p2), .val (.int p3), .val (.int p4), .val (.int p5), .val (.int p6), .unset, .unset, .unset, .unset, .unset, .unset, .unset, .unset, .unset, .unset, .unset] [(.int (p1 &&& (127 : Int32)))])) _
    refine XS.iconst X0.here hx rfl (hb hby at_4) ?_
    show Steps p.tables e below (s₁.setTop (mkF m 5 #[.val (.int p1), .val (.int p2), .val (.int p3), .val (.int p4), .val (.int p5), .val (.int p6), .unset, .unset, .unset, .unset, .unset, .unset, .unset, .unset, .unset, .unset, .unset] [(.int (5 : Int32)), (.int (p1 &&& (127 : Int32)))])) _
    refine iremM X0 hx rfl (hb hby at_5) rfl (by decide) ?_
    show Steps p.tables e below (s₁.setTop (mkF m 6 #[.val (.int p1), .val (.int p2), .val (.int p3), .val (.int p4), .val (.int p5), .val (.int p6), .unset, .unset, .unset, .unset, .unset, .unset, .unset, .unset, .unset, .unset, .unset] [(.int ((p1 &&& (127 : Int32)) % (5 : Int32)))])) _
    refine XS.istore X0.here hx rfl (hb hby at_6) rfl (l' := #[.val (.int p1), .val (.int p2), .val (.int p3), .val (.int p4), .val (.int p5), .val (.int p6), .val (.int ((p1 &&& (127 : Int32)) % (5 : Int32))), .unset, .unset, .unset, .unset, .unset, .unset, .unset, .unset, .unset, .unset]) rfl ?_
    exact k
  have k2 : ∀ t, Steps p.tables e below (s₁.setTop (mkF m 29 #[.val (.int p1), .val (.int p2), .val (.int p3), .val (.int p4), .val (.int p5), .val (.int p6), .val (.int (own_n p1)), .val (.int (own_most p1 p6)), .unset, .unset, .unset, .unset, .unset, .unset, .unset, .unset, .unset] [])) t → Steps p.tables e below (s₁.setTop (entryFrame m #[(.int p1), (.int p2), (.int p3), (.int p4), (.int p5), (.int p6)] maxLocals)) t := by
    intro t k
    refine k1 t ?_
    show Steps p.tables e below (s₁.setTop (mkF m 8 #[.val (.int p1), .val (.int p2), .val (.int p3), .val (.int p4), .val (.int p5), .val (.int p6), .val (.int (own_n p1)), .unset, .unset, .unset, .unset, .unset, .unset, .unset, .unset, .unset, .unset] [])) _
    refine XS.iloadN X0.here hx rfl (hb hby at_8) rfl ?_
    show Steps p.tables e below (s₁.setTop (mkF m 9 #[.val (.int p1), .val (.int p2), .val (.int p3), .val (.int p4), .val (.int p5), .val (.int p6), .val (.int (own_n p1)), .unset, .unset, .unset, .unset, .unset, .unset, .unset, .unset, .unset, .unset] [(.int p1)])) _
    refine XS.bipush X0.here hx rfl (hb hby at_9) ?_
    show Steps p.tables e below (s₁.setTop (mkF m 11 #[.val (.int p1), .val (.int p2), .val (.int p3), .val (.int p4), .val (.int p5), .val (.int p6), .val (.int (own_n p1)), .unset, .unset, .unset, .unset, .unset, .unset, .unset, .unset, .unset, .unset] [(.int (8 : Int32)), (.int p1)])) _
    refine XS.iushr X0.here hx rfl (hb hby at_11) rfl ?_
    show Steps p.tables e below (s₁.setTop (mkF m 12 #[.val (.int p1), .val (.int p2), .val (.int p3), .val (.int p4), .val (.int p5), .val (.int p6), .val (.int (own_n p1)), .unset, .unset, .unset, .unset, .unset, .unset, .unset, .unset, .unset, .unset] [(.int ((p1.toUInt32 >>> ((8 : Int32) &&& 31).toUInt32).toInt32))])) _
    refine XS.iconst X0.here hx rfl (hb hby at_12) ?_
    show Steps p.tables e below (s₁.setTop (mkF m 13 #[.val (.int p1), .val (.int p2), .val (.int p3), .val (.int p4), .val (.int p5), .val (.int p6), .val (.int (own_n p1)), .unset, .unset, .unset, .unset, .unset, .unset, .unset, .unset, .unset, .unset] [(.int (1 : Int32)), (.int ((p1.toUInt32 >>> ((8 : Int32) &&& 31).toUInt32).toInt32))])) _
    refine XS.iand X0.here hx rfl (hb hby at_13) rfl ?_
    by_cases hc14_3 : (((p1.toUInt32 >>> ((8 : Int32) &&& 31).toUInt32).toInt32) &&& (1 : Int32)) = (0 : Int32)
    · show Steps p.tables e below (s₁.setTop (mkF m 14 #[.val (.int p1), .val (.int p2), .val (.int p3), .val (.int p4), .val (.int p5), .val (.int p6), .val (.int (own_n p1)), .unset, .unset, .unset, .unset, .unset, .unset, .unset, .unset, .unset, .unset] [(.int (((p1.toUInt32 >>> ((8 : Int32) &&& 31).toUInt32).toInt32) &&& (1 : Int32)))])) _
      refine XS.ifYes X0.here hx rfl (pc0 := 14) (pc' := 22) rfl (hb hby at_14) rfl ((if0 _ _).trans (teq hc14_3).1) (by decide) (by decide) ?_
      show Steps p.tables e below (s₁.setTop (mkF m 22 #[.val (.int p1), .val (.int p2), .val (.int p3), .val (.int p4), .val (.int p5), .val (.int p6), .val (.int (own_n p1)), .unset, .unset, .unset, .unset, .unset, .unset, .unset, .unset, .unset, .unset] [])) _
      refine XS.iload X0.here hx rfl (hb hby at_22) rfl ?_
      show Steps p.tables e below (s₁.setTop (mkF m 24 #[.val (.int p1), .val (.int p2), .val (.int p3), .val (.int p4), .val (.int p5), .val (.int p6), .val (.int (own_n p1)), .unset, .unset, .unset, .unset, .unset, .unset, .unset, .unset, .unset, .unset] [(.int p6)])) _
      refine XS.bipush X0.here hx rfl (hb hby at_24) ?_
      show Steps p.tables e below (s₁.setTop (mkF m 26 #[.val (.int p1), .val (.int p2), .val (.int p3), .val (.int p4), .val (.int p5), .val (.int p6), .val (.int (own_n p1)), .unset, .unset, .unset, .unset, .unset, .unset, .unset, .unset, .unset, .unset] [(.int (7 : Int32)), (.int p6)])) _
      refine iremM X0 hx rfl (hb hby at_26) rfl (by decide) ?_
      show Steps p.tables e below (s₁.setTop (mkF m 27 #[.val (.int p1), .val (.int p2), .val (.int p3), .val (.int p4), .val (.int p5), .val (.int p6), .val (.int (own_n p1)), .unset, .unset, .unset, .unset, .unset, .unset, .unset, .unset, .unset, .unset] [(.int (p6 % (7 : Int32)))])) _
      refine XS.istore X0.here hx rfl (hb hby at_27) rfl (l' := #[.val (.int p1), .val (.int p2), .val (.int p3), .val (.int p4), .val (.int p5), .val (.int p6), .val (.int (own_n p1)), .val (.int (p6 % (7 : Int32))), .unset, .unset, .unset, .unset, .unset, .unset, .unset, .unset, .unset]) rfl ?_
      have q0 : (own_most p1 p6) = (p6 % (7 : Int32)) := (if_pos hc14_3)
      rw [q0] at k
      exact k
    · show Steps p.tables e below (s₁.setTop (mkF m 14 #[.val (.int p1), .val (.int p2), .val (.int p3), .val (.int p4), .val (.int p5), .val (.int p6), .val (.int (own_n p1)), .unset, .unset, .unset, .unset, .unset, .unset, .unset, .unset, .unset, .unset] [(.int (((p1.toUInt32 >>> ((8 : Int32) &&& 31).toUInt32).toInt32) &&& (1 : Int32)))])) _
      refine XS.ifNo X0.here hx rfl (hb hby at_14) rfl ((if0 _ _).trans (feq hc14_3).1) ?_
      show Steps p.tables e below (s₁.setTop (mkF m 17 #[.val (.int p1), .val (.int p2), .val (.int p3), .val (.int p4), .val (.int p5), .val (.int p6), .val (.int (own_n p1)), .unset, .unset, .unset, .unset, .unset, .unset, .unset, .unset, .unset, .unset] [])) _
      refine XS.iload X0.here hx rfl (hb hby at_17) rfl ?_
      show Steps p.tables e below (s₁.setTop (mkF m 19 #[.val (.int p1), .val (.int p2), .val (.int p3), .val (.int p4), .val (.int p5), .val (.int p6), .val (.int (own_n p1)), .unset, .unset, .unset, .unset, .unset, .unset, .unset, .unset, .unset, .unset] [(.int p6)])) _
      refine XS.goto X0.here hx rfl (pc0 := 19) (pc' := 27) rfl (hb hby at_19) (by decide) (by decide) ?_
      show Steps p.tables e below (s₁.setTop (mkF m 27 #[.val (.int p1), .val (.int p2), .val (.int p3), .val (.int p4), .val (.int p5), .val (.int p6), .val (.int (own_n p1)), .unset, .unset, .unset, .unset, .unset, .unset, .unset, .unset, .unset, .unset] [(.int p6)])) _
      refine XS.istore X0.here hx rfl (hb hby at_27) rfl (l' := #[.val (.int p1), .val (.int p2), .val (.int p3), .val (.int p4), .val (.int p5), .val (.int p6), .val (.int (own_n p1)), .val (.int p6), .unset, .unset, .unset, .unset, .unset, .unset, .unset, .unset, .unset]) rfl ?_
      have q0 : (own_most p1 p6) = p6 := (if_neg hc14_3)
      rw [q0] at k
      exact k
  have k4 : ∀ t, Steps p.tables e below (s₁.setTop (mkF m 30 #[.val (.int p1), .val (.int p2), .val (.int p3), .val (.int p4), .val (.int p5), .val (.int p6), .val (.int (own_n p1)), .val (.int (own_most p1 p6)), .unset, .unset, .unset, .unset, .unset, .unset, .unset, .unset, .unset] [(.int p2)])) t → Steps p.tables e below (s₁.setTop (entryFrame m #[(.int p1), (.int p2), (.int p3), (.int p4), (.int p5), (.int p6)] maxLocals)) t := by
    intro t k
    refine k2 t ?_
    show Steps p.tables e below (s₁.setTop (mkF m 29 #[.val (.int p1), .val (.int p2), .val (.int p3), .val (.int p4), .val (.int p5), .val (.int p6), .val (.int (own_n p1)), .val (.int (own_most p1 p6)), .unset, .unset, .unset, .unset, .unset, .unset, .unset, .unset, .unset] [])) _
    refine XS.iloadN X0.here hx rfl (hb hby at_29) rfl ?_
    exact k
  obtain ⟨_, _, ⟨T5, L5, k5c, n5⟩, -, X5, ⟨Lc5, hQ5, l5, y5, z5⟩, st5⟩ := Jvm.LawKit.callS X0 hx (y := (⟨"com/example/daftar/daftar/model/CharactersIsOneToPinLaw", "draw", "(I)C"⟩ : MethodName)) hown (mvT hZ (hw _ (List.mem_of_getElem? (i := 0) rfl))) (mvT hZ (hw _ (List.mem_of_getElem? (i := 1) rfl))) (mvT hZ (hw _ (List.mem_of_getElem? (i := 2) rfl))) (mvT hZ (hw _ (List.mem_of_getElem? (i := 3) rfl))) (by decide) (backOf (W := 0) (own_rmdr l Z a0 hw [] p2 h0 n0 Z0) hZ (hw _ (List.mem_of_getElem? (i := 3) rfl)) (hw _ (List.mem_of_getElem? (i := 2) rfl)) (by decide) (by decide)) (g := (mkF m 30 #[.val (.int p1), .val (.int p2), .val (.int p3), .val (.int p4), .val (.int p5), .val (.int p6), .val (.int (own_n p1)), .val (.int (own_most p1 p6)), .unset, .unset, .unset, .unset, .unset, .unset, .unset, .unset, .unset] [(.int p2)])) rfl (by rw [hml]; rfl) (argsL := [(.int p2)]) (rest := []) (lenOf own_pd17 rfl) rfl (by show 2 * 0 + _ ≤ _; exact Nat.le_of_eq rfl) (hb hby at_30) (fun _ _ => ⟨rfl, e0, (by decide : 0 + 0 ≤ _), (by decide : 0 + 0 ≤ _)⟩)
  dsimp only [Pt.U, Pt.locs, Pt.cells, Pt.slots] at X5 l5 y5 z5 st5 hQ5
  subst l5 y5 z5
  obtain ⟨rfl, N5q, e5⟩ := hQ5
  have N5 := Fr.app N0 N5q
  have k6 : ∀ t, Steps p.tables e below (T5.setTop (mkF m 33 #[.val (.int p1), .val (.int p2), .val (.int p3), .val (.int p4), .val (.int p5), .val (.int p6), .val (.int (own_n p1)), .val (.int (own_most p1 p6)), .unset, .unset, .unset, .unset, .unset, .unset, .unset, .unset, .unset] [(.int (own_vdr p2))])) t → Steps p.tables e below (s₁.setTop (entryFrame m #[(.int p1), (.int p2), (.int p3), (.int p4), (.int p5), (.int p6)] maxLocals)) t := fun t k => k4 t (st5 t k)
  have k7 : ∀ t, Steps p.tables e below (T5.setTop (mkF m 36 #[.val (.int p1), .val (.int p2), .val (.int p3), .val (.int p4), .val (.int p5), .val (.int p6), .val (.int (own_n p1)), .val (.int (own_most p1 p6)), .val (.int (own_vdr p2)), .unset, .unset, .unset, .unset, .unset, .unset, .unset, .unset] [(.int p3)])) t → Steps p.tables e below (s₁.setTop (entryFrame m #[(.int p1), (.int p2), (.int p3), (.int p4), (.int p5), (.int p6)] maxLocals)) t := by
    intro t k
    refine k6 t ?_
    show Steps p.tables e below (T5.setTop (mkF m 33 #[.val (.int p1), .val (.int p2), .val (.int p3), .val (.int p4), .val (.int p5), .val (.int p6), .val (.int (own_n p1)), .val (.int (own_most p1 p6)), .unset, .unset, .unset, .unset, .unset, .unset, .unset, .unset, .unset] [(.int (own_vdr p2))])) _
    refine XS.istore X5.here hx rfl (hb hby at_33) rfl (l' := #[.val (.int p1), .val (.int p2), .val (.int p3), .val (.int p4), .val (.int p5), .val (.int p6), .val (.int (own_n p1)), .val (.int (own_most p1 p6)), .val (.int (own_vdr p2)), .unset, .unset, .unset, .unset, .unset, .unset, .unset, .unset]) rfl ?_
    show Steps p.tables e below (T5.setTop (mkF m 35 #[.val (.int p1), .val (.int p2), .val (.int p3), .val (.int p4), .val (.int p5), .val (.int p6), .val (.int (own_n p1)), .val (.int (own_most p1 p6)), .val (.int (own_vdr p2)), .unset, .unset, .unset, .unset, .unset, .unset, .unset, .unset] [])) _
    refine XS.iloadN X5.here hx rfl (hb hby at_35) rfl ?_
    exact k
  obtain ⟨_, _, ⟨T8, L8, k8c, n8⟩, -, X8, ⟨Lc8, hQ8, l8, y8, z8⟩, st8⟩ := Jvm.LawKit.callS X5 hx (y := (⟨"com/example/daftar/daftar/model/CharactersIsOneToPinLaw", "draw", "(I)C"⟩ : MethodName)) hown (mvT hZ (hw _ (List.mem_of_getElem? (i := 0) rfl))) (mvT hZ (hw _ (List.mem_of_getElem? (i := 1) rfl))) (mvT hZ (hw _ (List.mem_of_getElem? (i := 2) rfl))) (mvT hZ (hw _ (List.mem_of_getElem? (i := 3) rfl))) (by decide) (backOf (W := 0) (own_rmdr l Z a0 hw [] p3 h0 n0 Z0) hZ (hw _ (List.mem_of_getElem? (i := 3) rfl)) (hw _ (List.mem_of_getElem? (i := 2) rfl)) (by decide) (by decide)) (g := (mkF m 36 #[.val (.int p1), .val (.int p2), .val (.int p3), .val (.int p4), .val (.int p5), .val (.int p6), .val (.int (own_n p1)), .val (.int (own_most p1 p6)), .val (.int (own_vdr p2)), .unset, .unset, .unset, .unset, .unset, .unset, .unset, .unset] [(.int p3)])) rfl (by rw [hml]; rfl) (argsL := [(.int p3)]) (rest := []) (lenOf own_pd17 rfl) rfl (by show 2 * 0 + _ ≤ _; exact Nat.le_of_eq rfl) (hb hby at_36) (fun _ _ => ⟨rfl, e5, (by decide : 0 + 0 ≤ _), (by decide : 0 + 0 ≤ _)⟩)
  dsimp only [Pt.U, Pt.locs, Pt.cells, Pt.slots] at X8 l8 y8 z8 st8 hQ8
  subst l8 y8 z8
  obtain ⟨rfl, N8q, e8⟩ := hQ8
  have N8 := Fr.app N5 N8q
  have k9 : ∀ t, Steps p.tables e below (T8.setTop (mkF m 39 #[.val (.int p1), .val (.int p2), .val (.int p3), .val (.int p4), .val (.int p5), .val (.int p6), .val (.int (own_n p1)), .val (.int (own_most p1 p6)), .val (.int (own_vdr p2)), .unset, .unset, .unset, .unset, .unset, .unset, .unset, .unset] [(.int (own_vdr p3))])) t → Steps p.tables e below (s₁.setTop (entryFrame m #[(.int p1), (.int p2), (.int p3), (.int p4), (.int p5), (.int p6)] maxLocals)) t := fun t k => k7 t (st8 t k)
  have k10 : ∀ t, Steps p.tables e below (T8.setTop (mkF m 42 #[.val (.int p1), .val (.int p2), .val (.int p3), .val (.int p4), .val (.int p5), .val (.int p6), .val (.int (own_n p1)), .val (.int (own_most p1 p6)), .val (.int (own_vdr p2)), .val (.int (own_vdr p3)), .unset, .unset, .unset, .unset, .unset, .unset, .unset] [(.int p4)])) t → Steps p.tables e below (s₁.setTop (entryFrame m #[(.int p1), (.int p2), (.int p3), (.int p4), (.int p5), (.int p6)] maxLocals)) t := by
    intro t k
    refine k9 t ?_
    show Steps p.tables e below (T8.setTop (mkF m 39 #[.val (.int p1), .val (.int p2), .val (.int p3), .val (.int p4), .val (.int p5), .val (.int p6), .val (.int (own_n p1)), .val (.int (own_most p1 p6)), .val (.int (own_vdr p2)), .unset, .unset, .unset, .unset, .unset, .unset, .unset, .unset] [(.int (own_vdr p3))])) _
    refine XS.istore X8.here hx rfl (hb hby at_39) rfl (l' := #[.val (.int p1), .val (.int p2), .val (.int p3), .val (.int p4), .val (.int p5), .val (.int p6), .val (.int (own_n p1)), .val (.int (own_most p1 p6)), .val (.int (own_vdr p2)), .val (.int (own_vdr p3)), .unset, .unset, .unset, .unset, .unset, .unset, .unset]) rfl ?_
    show Steps p.tables e below (T8.setTop (mkF m 41 #[.val (.int p1), .val (.int p2), .val (.int p3), .val (.int p4), .val (.int p5), .val (.int p6), .val (.int (own_n p1)), .val (.int (own_most p1 p6)), .val (.int (own_vdr p2)), .val (.int (own_vdr p3)), .unset, .unset, .unset, .unset, .unset, .unset, .unset] [])) _
    refine XS.iloadN X8.here hx rfl (hb hby at_41) rfl ?_
    exact k
  obtain ⟨_, _, ⟨T11, L11, k11c, n11⟩, -, X11, ⟨Lc11, hQ11, l11, y11, z11⟩, st11⟩ := Jvm.LawKit.callS X8 hx (y := (⟨"com/example/daftar/daftar/model/CharactersIsOneToPinLaw", "draw", "(I)C"⟩ : MethodName)) hown (mvT hZ (hw _ (List.mem_of_getElem? (i := 0) rfl))) (mvT hZ (hw _ (List.mem_of_getElem? (i := 1) rfl))) (mvT hZ (hw _ (List.mem_of_getElem? (i := 2) rfl))) (mvT hZ (hw _ (List.mem_of_getElem? (i := 3) rfl))) (by decide) (backOf (W := 0) (own_rmdr l Z a0 hw [] p4 h0 n0 Z0) hZ (hw _ (List.mem_of_getElem? (i := 3) rfl)) (hw _ (List.mem_of_getElem? (i := 2) rfl)) (by decide) (by decide)) (g := (mkF m 42 #[.val (.int p1), .val (.int p2), .val (.int p3), .val (.int p4), .val (.int p5), .val (.int p6), .val (.int (own_n p1)), .val (.int (own_most p1 p6)), .val (.int (own_vdr p2)), .val (.int (own_vdr p3)), .unset, .unset, .unset, .unset, .unset, .unset, .unset] [(.int p4)])) rfl (by rw [hml]; rfl) (argsL := [(.int p4)]) (rest := []) (lenOf own_pd17 rfl) rfl (by show 2 * 0 + _ ≤ _; exact Nat.le_of_eq rfl) (hb hby at_42) (fun _ _ => ⟨rfl, e8, (by decide : 0 + 0 ≤ _), (by decide : 0 + 0 ≤ _)⟩)
  dsimp only [Pt.U, Pt.locs, Pt.cells, Pt.slots] at X11 l11 y11 z11 st11 hQ11
  subst l11 y11 z11
  obtain ⟨rfl, N11q, e11⟩ := hQ11
  have N11 := Fr.app N8 N11q
  have k12 : ∀ t, Steps p.tables e below (T11.setTop (mkF m 45 #[.val (.int p1), .val (.int p2), .val (.int p3), .val (.int p4), .val (.int p5), .val (.int p6), .val (.int (own_n p1)), .val (.int (own_most p1 p6)), .val (.int (own_vdr p2)), .val (.int (own_vdr p3)), .unset, .unset, .unset, .unset, .unset, .unset, .unset] [(.int (own_vdr p4))])) t → Steps p.tables e below (s₁.setTop (entryFrame m #[(.int p1), (.int p2), (.int p3), (.int p4), (.int p5), (.int p6)] maxLocals)) t := fun t k => k10 t (st11 t k)
  have k13 : ∀ t, Steps p.tables e below (T11.setTop (mkF m 49 #[.val (.int p1), .val (.int p2), .val (.int p3), .val (.int p4), .val (.int p5), .val (.int p6), .val (.int (own_n p1)), .val (.int (own_most p1 p6)), .val (.int (own_vdr p2)), .val (.int (own_vdr p3)), .val (.int (own_vdr p4)), .unset, .unset, .unset, .unset, .unset, .unset] [(.int p5)])) t → Steps p.tables e below (s₁.setTop (entryFrame m #[(.int p1), (.int p2), (.int p3), (.int p4), (.int p5), (.int p6)] maxLocals)) t := by
    intro t k
    refine k12 t ?_
    show Steps p.tables e below (T11.setTop (mkF m 45 #[.val (.int p1), .val (.int p2), .val (.int p3), .val (.int p4), .val (.int p5), .val (.int p6), .val (.int (own_n p1)), .val (.int (own_most p1 p6)), .val (.int (own_vdr p2)), .val (.int (own_vdr p3)), .unset, .unset, .unset, .unset, .unset, .unset, .unset] [(.int (own_vdr p4))])) _
    refine XS.istore X11.here hx rfl (hb hby at_45) rfl (l' := #[.val (.int p1), .val (.int p2), .val (.int p3), .val (.int p4), .val (.int p5), .val (.int p6), .val (.int (own_n p1)), .val (.int (own_most p1 p6)), .val (.int (own_vdr p2)), .val (.int (own_vdr p3)), .val (.int (own_vdr p4)), .unset, .unset, .unset, .unset, .unset, .unset]) rfl ?_
    show Steps p.tables e below (T11.setTop (mkF m 47 #[.val (.int p1), .val (.int p2), .val (.int p3), .val (.int p4), .val (.int p5), .val (.int p6), .val (.int (own_n p1)), .val (.int (own_most p1 p6)), .val (.int (own_vdr p2)), .val (.int (own_vdr p3)), .val (.int (own_vdr p4)), .unset, .unset, .unset, .unset, .unset, .unset] [])) _
    refine XS.iload X11.here hx rfl (hb hby at_47) rfl ?_
    exact k
  obtain ⟨_, _, ⟨T14, L14, k14c, n14⟩, -, X14, ⟨Lc14, hQ14, l14, y14, z14⟩, st14⟩ := Jvm.LawKit.callS X11 hx (y := (⟨"com/example/daftar/daftar/model/CharactersIsOneToPinLaw", "draw", "(I)C"⟩ : MethodName)) hown (mvT hZ (hw _ (List.mem_of_getElem? (i := 0) rfl))) (mvT hZ (hw _ (List.mem_of_getElem? (i := 1) rfl))) (mvT hZ (hw _ (List.mem_of_getElem? (i := 2) rfl))) (mvT hZ (hw _ (List.mem_of_getElem? (i := 3) rfl))) (by decide) (backOf (W := 0) (own_rmdr l Z a0 hw [] p5 h0 n0 Z0) hZ (hw _ (List.mem_of_getElem? (i := 3) rfl)) (hw _ (List.mem_of_getElem? (i := 2) rfl)) (by decide) (by decide)) (g := (mkF m 49 #[.val (.int p1), .val (.int p2), .val (.int p3), .val (.int p4), .val (.int p5), .val (.int p6), .val (.int (own_n p1)), .val (.int (own_most p1 p6)), .val (.int (own_vdr p2)), .val (.int (own_vdr p3)), .val (.int (own_vdr p4)), .unset, .unset, .unset, .unset, .unset, .unset] [(.int p5)])) rfl (by rw [hml]; rfl) (argsL := [(.int p5)]) (rest := []) (lenOf own_pd17 rfl) rfl (by show 2 * 0 + _ ≤ _; exact Nat.le_of_eq rfl) (hb hby at_49) (fun _ _ => ⟨rfl, e11, (by decide : 0 + 0 ≤ _), (by decide : 0 + 0 ≤ _)⟩)
  dsimp only [Pt.U, Pt.locs, Pt.cells, Pt.slots] at X14 l14 y14 z14 st14 hQ14
  subst l14 y14 z14
  obtain ⟨rfl, N14q, e14⟩ := hQ14
  have N14 := Fr.app N11 N14q
  have k15 : ∀ t, Steps p.tables e below (T14.setTop (mkF m 52 #[.val (.int p1), .val (.int p2), .val (.int p3), .val (.int p4), .val (.int p5), .val (.int p6), .val (.int (own_n p1)), .val (.int (own_most p1 p6)), .val (.int (own_vdr p2)), .val (.int (own_vdr p3)), .val (.int (own_vdr p4)), .unset, .unset, .unset, .unset, .unset, .unset] [(.int (own_vdr p5))])) t → Steps p.tables e below (s₁.setTop (entryFrame m #[(.int p1), (.int p2), (.int p3), (.int p4), (.int p5), (.int p6)] maxLocals)) t := fun t k => k13 t (st14 t k)
  have k16 : ∀ t, Steps p.tables e below (T14.setTop (mkF m 54 #[.val (.int p1), .val (.int p2), .val (.int p3), .val (.int p4), .val (.int p5), .val (.int p6), .val (.int (own_n p1)), .val (.int (own_most p1 p6)), .val (.int (own_vdr p2)), .val (.int (own_vdr p3)), .val (.int (own_vdr p4)), .val (.int (own_vdr p5)), .unset, .unset, .unset, .unset, .unset] [])) t → Steps p.tables e below (s₁.setTop (entryFrame m #[(.int p1), (.int p2), (.int p3), (.int p4), (.int p5), (.int p6)] maxLocals)) t := by
    intro t k
    refine k15 t ?_
    show Steps p.tables e below (T14.setTop (mkF m 52 #[.val (.int p1), .val (.int p2), .val (.int p3), .val (.int p4), .val (.int p5), .val (.int p6), .val (.int (own_n p1)), .val (.int (own_most p1 p6)), .val (.int (own_vdr p2)), .val (.int (own_vdr p3)), .val (.int (own_vdr p4)), .unset, .unset, .unset, .unset, .unset, .unset] [(.int (own_vdr p5))])) _
    refine XS.istore X14.here hx rfl (hb hby at_52) rfl (l' := #[.val (.int p1), .val (.int p2), .val (.int p3), .val (.int p4), .val (.int p5), .val (.int p6), .val (.int (own_n p1)), .val (.int (own_most p1 p6)), .val (.int (own_vdr p2)), .val (.int (own_vdr p3)), .val (.int (own_vdr p4)), .val (.int (own_vdr p5)), .unset, .unset, .unset, .unset, .unset]) rfl ?_
    exact k
  rcases own_nc p1 with he | he | he | he | he
  · have k17 : ∀ t, Steps p.tables e below (T14.setTop (mkF m 54 #[.val (.int p1), .val (.int p2), .val (.int p3), .val (.int p4), .val (.int p5), .val (.int p6), .val (.int (0 : Int32)), .val (.int (own_most p1 p6)), .val (.int (own_vdr p2)), .val (.int (own_vdr p3)), .val (.int (own_vdr p4)), .val (.int (own_vdr p5)), .unset, .unset, .unset, .unset, .unset] [])) t → Steps p.tables e below (s₁.setTop (entryFrame m #[(.int p1), (.int p2), (.int p3), (.int p4), (.int p5), (.int p6)] maxLocals)) t := by have z := k16; rw [he] at z; exact z
    have k18 : ∀ t, Steps p.tables e below (T14.setTop (mkF m 60 #[.val (.int p1), .val (.int p2), .val (.int p3), .val (.int p4), .val (.int p5), .val (.int p6), .val (.int (0 : Int32)), .val (.int (own_most p1 p6)), .val (.int (own_vdr p2)), .val (.int (own_vdr p3)), .val (.int (own_vdr p4)), .val (.int (own_vdr p5)), .unset, .unset, .unset, .unset, .unset] [(.int (0 : Int32))])) t → Steps p.tables e below (s₁.setTop (entryFrame m #[(.int p1), (.int p2), (.int p3), (.int p4), (.int p5), (.int p6)] maxLocals)) t := by
      intro t k
      refine k17 t ?_
      show Steps p.tables e below (T14.setTop (mkF m 54 #[.val (.int p1), .val (.int p2), .val (.int p3), .val (.int p4), .val (.int p5), .val (.int p6), .val (.int (0 : Int32)), .val (.int (own_most p1 p6)), .val (.int (own_vdr p2)), .val (.int (own_vdr p3)), .val (.int (own_vdr p4)), .val (.int (own_vdr p5)), .unset, .unset, .unset, .unset, .unset] [])) _
      refine XS.iload X14.here hx rfl (hb hby at_54) rfl ?_
      show Steps p.tables e below (T14.setTop (mkF m 56 #[.val (.int p1), .val (.int p2), .val (.int p3), .val (.int p4), .val (.int p5), .val (.int p6), .val (.int (0 : Int32)), .val (.int (own_most p1 p6)), .val (.int (own_vdr p2)), .val (.int (own_vdr p3)), .val (.int (own_vdr p4)), .val (.int (own_vdr p5)), .unset, .unset, .unset, .unset, .unset] [(.int (0 : Int32))])) _
      refine XS.ifNo X14.here hx rfl (hb hby at_56) rfl ((if0 _ _).trans (teq (rfl : (0 : Int32) = (0 : Int32))).2) ?_
      show Steps p.tables e below (T14.setTop (mkF m 59 #[.val (.int p1), .val (.int p2), .val (.int p3), .val (.int p4), .val (.int p5), .val (.int p6), .val (.int (0 : Int32)), .val (.int (own_most p1 p6)), .val (.int (own_vdr p2)), .val (.int (own_vdr p3)), .val (.int (own_vdr p4)), .val (.int (own_vdr p5)), .unset, .unset, .unset, .unset, .unset] [])) _
      refine XS.iconst X14.here hx rfl (hb hby at_59) ?_
      exact k
    obtain ⟨T19, h19, c19, X19, e19, E19, A19, st19⟩ := newP X14 hx hZ (hw _ (List.mem_of_getElem? (i := 7) rfl)) e14 (g := (mkF m 60 #[.val (.int p1), .val (.int p2), .val (.int p3), .val (.int p4), .val (.int p5), .val (.int p6), .val (.int (0 : Int32)), .val (.int (own_most p1 p6)), .val (.int (own_vdr p2)), .val (.int (own_vdr p3)), .val (.int (own_vdr p4)), .val (.int (own_vdr p5)), .unset, .unset, .unset, .unset, .unset] [(.int (0 : Int32))])) rfl (hb hby at_60) rfl (by decide) (cap := 0) (by decide) (by decide) (by decide) (by decide)
    obtain ⟨b19, g19⟩ : ∃ z, z = h0.size := ⟨_, rfl⟩
    rw [← g19] at A19 st19
    have ge19 : n0 ≤ b19 := Nat.le_trans Z0 (Nat.le_of_eq g19.symm)
    have bo19 : h0.size ≤ b19 := Nat.le_trans (Keep.refl h0 []).1 (Nat.le_of_eq g19.symm)
    have Z19 : n0 ≤ h19.size := Nat.le_trans Z0 E19.1
    have K19 : Keep h0 h19 [] := (Keep.refl h0 []).ext E19
    have Xo19 := Xo.ext E19
    have V19 : Arv Z h19 b19 c19 .char (0 : Int32) [] (.int (0 : Int32)) := (Arv.new A19 (by decide)).pad (pad_rep [] (.int (0 : Int32)) 0)
    have k20 : ∀ t, Steps p.tables e below (T19.setTop (mkF m 62 #[.val (.int p1), .val (.int p2), .val (.int p3), .val (.int p4), .val (.int p5), .val (.int p6), .val (.int (0 : Int32)), .val (.int (own_most p1 p6)), .val (.int (own_vdr p2)), .val (.int (own_vdr p3)), .val (.int (own_vdr p4)), .val (.int (own_vdr p5)), .unset, .unset, .unset, .unset, .unset] [(.ref b19)])) t → Steps p.tables e below (s₁.setTop (entryFrame m #[(.int p1), (.int p2), (.int p3), (.int p4), (.int p5), (.int p6)] maxLocals)) t := fun t k => k18 t (st19 t k)
    have k21 : ∀ t, Steps p.tables e below (T19.setTop (mkF m 164 #[.val (.int p1), .val (.int p2), .val (.int p3), .val (.int p4), .val (.int p5), .val (.int p6), .val (.int (0 : Int32)), .val (.int (own_most p1 p6)), .val (.int (own_vdr p2)), .val (.int (own_vdr p3)), .val (.int (own_vdr p4)), .val (.int (own_vdr p5)), .val (.ref b19), .unset, .unset, .unset, .unset] [])) t → Steps p.tables e below (s₁.setTop (entryFrame m #[(.int p1), (.int p2), (.int p3), (.int p4), (.int p5), (.int p6)] maxLocals)) t := by
      intro t k
      refine k20 t ?_
      show Steps p.tables e below (T19.setTop (mkF m 62 #[.val (.int p1), .val (.int p2), .val (.int p3), .val (.int p4), .val (.int p5), .val (.int p6), .val (.int (0 : Int32)), .val (.int (own_most p1 p6)), .val (.int (own_vdr p2)), .val (.int (own_vdr p3)), .val (.int (own_vdr p4)), .val (.int (own_vdr p5)), .unset, .unset, .unset, .unset, .unset] [(.ref b19)])) _
      refine XS.astore X19.here hx rfl (hb hby at_62) rfl rfl (l' := #[.val (.int p1), .val (.int p2), .val (.int p3), .val (.int p4), .val (.int p5), .val (.int p6), .val (.int (0 : Int32)), .val (.int (own_most p1 p6)), .val (.int (own_vdr p2)), .val (.int (own_vdr p3)), .val (.int (own_vdr p4)), .val (.int (own_vdr p5)), .val (.ref b19), .unset, .unset, .unset, .unset]) rfl ?_
      show Steps p.tables e below (T19.setTop (mkF m 64 #[.val (.int p1), .val (.int p2), .val (.int p3), .val (.int p4), .val (.int p5), .val (.int p6), .val (.int (0 : Int32)), .val (.int (own_most p1 p6)), .val (.int (own_vdr p2)), .val (.int (own_vdr p3)), .val (.int (own_vdr p4)), .val (.int (own_vdr p5)), .val (.ref b19), .unset, .unset, .unset, .unset] [])) _
      refine XS.goto X19.here hx rfl (pc0 := 64) (pc' := 164) rfl (hb hby at_64) (by decide) (by decide) ?_
      exact k
    have GA0 : own_G Z h19 b19 .char 0 (own_of []) := own_G.ofV (vs := []) (n := 0) V19 rfl
    have hch : ∀ i, i < 0 → own_ch ((own_of []) (0 + i)) := own_chL (vs := []) (fun v hv => by simp only [List.mem_cons, List.not_mem_nil, or_false] at hv)
    obtain ⟨T22, h22, X22, e22, E22, A22, D22, -, st22⟩ := newO X19 hx hZ hown (hw _ (List.mem_of_getElem? (i := 8) rfl)) (hw _ (List.mem_of_getElem? (i := 9) rfl)) (hw _ (List.mem_of_getElem? (i := 10) rfl)) e19 (g := (mkF m 164 #[.val (.int p1), .val (.int p2), .val (.int p3), .val (.int p4), .val (.int p5), .val (.int p6), .val (.int (0 : Int32)), .val (.int (own_most p1 p6)), .val (.int (own_vdr p2)), .val (.int (own_vdr p3)), .val (.int (own_vdr p4)), .val (.int (own_vdr p5)), .val (.ref b19), .unset, .unset, .unset, .unset] [])) rfl (hb hby at_164) (by decide) (by decide)
    obtain ⟨b22, g22⟩ : ∃ z, z = h19.size := ⟨_, rfl⟩
    rw [← g22] at A22 D22 st22
    have ge22 : n0 ≤ b22 := Nat.le_trans Z19 (Nat.le_of_eq g22.symm)
    have bo22 : h0.size ≤ b22 := Nat.le_trans K19.1 (Nat.le_of_eq g22.symm)
    have ne23 : b19 ≠ b22 := Nat.ne_of_lt (Nat.lt_of_lt_of_le GA0.lt (Nat.le_of_eq g22.symm))
    have Z22 : n0 ≤ h22.size := Nat.le_trans Z19 E22.1
    have K22 : Keep h0 h22 [] := K19.ext E22
    have Xo22 := Xo19.ext E22
    have f24 := GA0.ext E22
    have f25 : Fld Z h22 b22 "java/lang/String" "value" "[B" .null := D22 (Or.inr (hw _ (List.mem_of_getElem? (i := 23) rfl))) (ty := (.array .byte)) (by decide)
    have f26 : Fld Z h22 b22 "java/lang/String" "coder" "B" (.int (0 : Int32)) := D22 (Or.inr (hw _ (List.mem_of_getElem? (i := 24) rfl))) (ty := .byte) (by decide)
    have k27 : ∀ t, Steps p.tables e below (T22.setTop (mkF m 167 #[.val (.int p1), .val (.int p2), .val (.int p3), .val (.int p4), .val (.int p5), .val (.int p6), .val (.int (0 : Int32)), .val (.int (own_most p1 p6)), .val (.int (own_vdr p2)), .val (.int (own_vdr p3)), .val (.int (own_vdr p4)), .val (.int (own_vdr p5)), .val (.ref b19), .unset, .unset, .unset, .unset] [(.ref b22)])) t → Steps p.tables e below (s₁.setTop (entryFrame m #[(.int p1), (.int p2), (.int p3), (.int p4), (.int p5), (.int p6)] maxLocals)) t := fun t k => k21 t (st22 t k)
    have k28 : ∀ t, Steps p.tables e below (T22.setTop (mkF m 170 #[.val (.int p1), .val (.int p2), .val (.int p3), .val (.int p4), .val (.int p5), .val (.int p6), .val (.int (0 : Int32)), .val (.int (own_most p1 p6)), .val (.int (own_vdr p2)), .val (.int (own_vdr p3)), .val (.int (own_vdr p4)), .val (.int (own_vdr p5)), .val (.ref b19), .unset, .unset, .unset, .unset] [(.ref b19), (.ref b22), (.ref b22)])) t → Steps p.tables e below (s₁.setTop (entryFrame m #[(.int p1), (.int p2), (.int p3), (.int p4), (.int p5), (.int p6)] maxLocals)) t := by
      intro t k
      refine k27 t ?_
      show Steps p.tables e below (T22.setTop (mkF m 167 #[.val (.int p1), .val (.int p2), .val (.int p3), .val (.int p4), .val (.int p5), .val (.int p6), .val (.int (0 : Int32)), .val (.int (own_most p1 p6)), .val (.int (own_vdr p2)), .val (.int (own_vdr p3)), .val (.int (own_vdr p4)), .val (.int (own_vdr p5)), .val (.ref b19), .unset, .unset, .unset, .unset] [(.ref b22)])) _
      refine XS.dup X22.here hx rfl (hb hby at_167) rfl rfl ?_
      show Steps p.tables e below (T22.setTop (mkF m 168 #[.val (.int p1), .val (.int p2), .val (.int p3), .val (.int p4), .val (.int p5), .val (.int p6), .val (.int (0 : Int32)), .val (.int (own_most p1 p6)), .val (.int (own_vdr p2)), .val (.int (own_vdr p3)), .val (.int (own_vdr p4)), .val (.int (own_vdr p5)), .val (.ref b19), .unset, .unset, .unset, .unset] [(.ref b22), (.ref b22)])) _
      refine XS.aload X22.here hx rfl (hb hby at_168) rfl rfl ?_
      exact k
    obtain ⟨_, T29, L29, X29, Si29, hZ, hown, hQ29, st29⟩ := own_callIW (W := 1) X22 hx hw hZ hown (hH0.keep K22 (fun x hx => nomatch hx)) (hw _ (List.mem_of_getElem? (i := 11) rfl)) (hw _ (List.mem_of_getElem? (i := 12) rfl)) (hw _ (List.mem_of_getElem? (i := 10) rfl)) (hw _ (List.mem_of_getElem? (i := 13) rfl)) rfl (by decide) (own_rms1w l Z a0 hw [] b22 b19 (.int (0 : Int32)) (own_of []) h22 n0 Z22 A22 f25 f26 f24 ge22 ne23) (by decide) (by decide) e22 (g := (mkF m 170 #[.val (.int p1), .val (.int p2), .val (.int p3), .val (.int p4), .val (.int p5), .val (.int p6), .val (.int (0 : Int32)), .val (.int (own_most p1 p6)), .val (.int (own_vdr p2)), .val (.int (own_vdr p3)), .val (.int (own_vdr p4)), .val (.int (own_vdr p5)), .val (.ref b19), .unset, .unset, .unset, .unset] [(.ref b19), (.ref b22), (.ref b22)])) rfl (by rw [hml]; rfl) own_pd18 (a := b22) (argsL := [(.ref b19)]) (rest := [(.ref b22)]) rfl rfl rfl (by show 2 * 0 + _ ≤ _; exact Nat.le_of_eq rfl) (hb hby at_170) (by decide) (by decide)
    obtain ⟨rfl, N29q, Kq29, fq29_0⟩ := hQ29
    have N29 := Fr.app N14 N29q
    have f30 := f24.keep Kq29 (List.not_mem_cons_of_ne_of_not_mem ne23 List.not_mem_nil)
    have f31 := A22.keep Kq29
    have Z29 : n0 ≤ T29.heap.size := Nat.le_trans Z22 Kq29.1
    have K29 : Keep h0 T29.heap [] := K22.trans Kq29 (fun x hx => by rcases List.mem_cons.mp hx with rfl | hx; exact Or.inr bo22; exact nomatch hx)
    have Xo29 := Xo22.keep Kq29 (allS ge22 all0)
    have k32 : ∀ t, Steps p.tables e below (T29.setTop (mkF m 173 #[.val (.int p1), .val (.int p2), .val (.int p3), .val (.int p4), .val (.int p5), .val (.int p6), .val (.int (0 : Int32)), .val (.int (own_most p1 p6)), .val (.int (own_vdr p2)), .val (.int (own_vdr p3)), .val (.int (own_vdr p4)), .val (.int (own_vdr p5)), .val (.ref b19), .unset, .unset, .unset, .unset] [(.ref b22)])) t → Steps p.tables e below (s₁.setTop (entryFrame m #[(.int p1), (.int p2), (.int p3), (.int p4), (.int p5), (.int p6)] maxLocals)) t := fun t k => k28 t (st29 t k)
    have k33 : ∀ t, Steps p.tables e below (T29.setTop (mkF m 269 #[.val (.int p1), .val (.int p2), .val (.int p3), .val (.int p4), .val (.int p5), .val (.int p6), .val (.int (0 : Int32)), .val (.int (own_most p1 p6)), .val (.int (own_vdr p2)), .val (.int (own_vdr p3)), .val (.int (own_vdr p4)), .val (.int (own_vdr p5)), .val (.ref b19), .val (.ref b22), .val (.int (0 : Int32)), .val (.int (0 : Int32)), .unset] [])) t → Steps p.tables e below (s₁.setTop (entryFrame m #[(.int p1), (.int p2), (.int p3), (.int p4), (.int p5), (.int p6)] maxLocals)) t := by
      intro t k
      refine k32 t ?_
      show Steps p.tables e below (T29.setTop (mkF m 173 #[.val (.int p1), .val (.int p2), .val (.int p3), .val (.int p4), .val (.int p5), .val (.int p6), .val (.int (0 : Int32)), .val (.int (own_most p1 p6)), .val (.int (own_vdr p2)), .val (.int (own_vdr p3)), .val (.int (own_vdr p4)), .val (.int (own_vdr p5)), .val (.ref b19), .unset, .unset, .unset, .unset] [(.ref b22)])) _
      refine XS.astore X29.here hx rfl (hb hby at_173) rfl rfl (l' := #[.val (.int p1), .val (.int p2), .val (.int p3), .val (.int p4), .val (.int p5), .val (.int p6), .val (.int (0 : Int32)), .val (.int (own_most p1 p6)), .val (.int (own_vdr p2)), .val (.int (own_vdr p3)), .val (.int (own_vdr p4)), .val (.int (own_vdr p5)), .val (.ref b19), .val (.ref b22), .unset, .unset, .unset]) rfl ?_
      show Steps p.tables e below (T29.setTop (mkF m 175 #[.val (.int p1), .val (.int p2), .val (.int p3), .val (.int p4), .val (.int p5), .val (.int p6), .val (.int (0 : Int32)), .val (.int (own_most p1 p6)), .val (.int (own_vdr p2)), .val (.int (own_vdr p3)), .val (.int (own_vdr p4)), .val (.int (own_vdr p5)), .val (.ref b19), .val (.ref b22), .unset, .unset, .unset] [])) _
      refine XS.iconst X29.here hx rfl (hb hby at_175) ?_
      show Steps p.tables e below (T29.setTop (mkF m 176 #[.val (.int p1), .val (.int p2), .val (.int p3), .val (.int p4), .val (.int p5), .val (.int p6), .val (.int (0 : Int32)), .val (.int (own_most p1 p6)), .val (.int (own_vdr p2)), .val (.int (own_vdr p3)), .val (.int (own_vdr p4)), .val (.int (own_vdr p5)), .val (.ref b19), .val (.ref b22), .unset, .unset, .unset] [(.int (0 : Int32))])) _
      refine XS.istore X29.here hx rfl (hb hby at_176) rfl (l' := #[.val (.int p1), .val (.int p2), .val (.int p3), .val (.int p4), .val (.int p5), .val (.int p6), .val (.int (0 : Int32)), .val (.int (own_most p1 p6)), .val (.int (own_vdr p2)), .val (.int (own_vdr p3)), .val (.int (own_vdr p4)), .val (.int (own_vdr p5)), .val (.ref b19), .val (.ref b22), .val (.int (0 : Int32)), .unset, .unset]) rfl ?_
      show Steps p.tables e below (T29.setTop (mkF m 178 #[.val (.int p1), .val (.int p2), .val (.int p3), .val (.int p4), .val (.int p5), .val (.int p6), .val (.int (0 : Int32)), .val (.int (own_most p1 p6)), .val (.int (own_vdr p2)), .val (.int (own_vdr p3)), .val (.int (own_vdr p4)), .val (.int (own_vdr p5)), .val (.ref b19), .val (.ref b22), .val (.int (0 : Int32)), .unset, .unset] [])) _
      refine XS.iload X29.here hx rfl (hb hby at_178) rfl ?_
      show Steps p.tables e below (T29.setTop (mkF m 180 #[.val (.int p1), .val (.int p2), .val (.int p3), .val (.int p4), .val (.int p5), .val (.int p6), .val (.int (0 : Int32)), .val (.int (own_most p1 p6)), .val (.int (own_vdr p2)), .val (.int (own_vdr p3)), .val (.int (own_vdr p4)), .val (.int (own_vdr p5)), .val (.ref b19), .val (.ref b22), .val (.int (0 : Int32)), .unset, .unset] [(.int (0 : Int32))])) _
      refine XS.iconst X29.here hx rfl (hb hby at_180) ?_
      show Steps p.tables e below (T29.setTop (mkF m 181 #[.val (.int p1), .val (.int p2), .val (.int p3), .val (.int p4), .val (.int p5), .val (.int p6), .val (.int (0 : Int32)), .val (.int (own_most p1 p6)), .val (.int (own_vdr p2)), .val (.int (own_vdr p3)), .val (.int (own_vdr p4)), .val (.int (own_vdr p5)), .val (.ref b19), .val (.ref b22), .val (.int (0 : Int32)), .unset, .unset] [(.int (2 : Int32)), (.int (0 : Int32))])) _
      refine XS.icmpYes X29.here hx rfl (pc0 := 181) (pc' := 206) rfl (hb hby at_181) rfl (tlt (by decide : (0 : Int32) < (2 : Int32))).1 (by decide) (by decide) ?_
      show Steps p.tables e below (T29.setTop (mkF m 206 #[.val (.int p1), .val (.int p2), .val (.int p3), .val (.int p4), .val (.int p5), .val (.int p6), .val (.int (0 : Int32)), .val (.int (own_most p1 p6)), .val (.int (own_vdr p2)), .val (.int (own_vdr p3)), .val (.int (own_vdr p4)), .val (.int (own_vdr p5)), .val (.ref b19), .val (.ref b22), .val (.int (0 : Int32)), .unset, .unset] [])) _
      refine XS.iload X29.here hx rfl (hb hby at_206) rfl ?_
      show Steps p.tables e below (T29.setTop (mkF m 208 #[.val (.int p1), .val (.int p2), .val (.int p3), .val (.int p4), .val (.int p5), .val (.int p6), .val (.int (0 : Int32)), .val (.int (own_most p1 p6)), .val (.int (own_vdr p2)), .val (.int (own_vdr p3)), .val (.int (own_vdr p4)), .val (.int (own_vdr p5)), .val (.ref b19), .val (.ref b22), .val (.int (0 : Int32)), .unset, .unset] [(.int (0 : Int32))])) _
      refine XS.iconst X29.here hx rfl (hb hby at_208) ?_
      show Steps p.tables e below (T29.setTop (mkF m 209 #[.val (.int p1), .val (.int p2), .val (.int p3), .val (.int p4), .val (.int p5), .val (.int p6), .val (.int (0 : Int32)), .val (.int (own_most p1 p6)), .val (.int (own_vdr p2)), .val (.int (own_vdr p3)), .val (.int (own_vdr p4)), .val (.int (own_vdr p5)), .val (.ref b19), .val (.ref b22), .val (.int (0 : Int32)), .unset, .unset] [(.int (3 : Int32)), (.int (0 : Int32))])) _
      refine XS.icmpYes X29.here hx rfl (pc0 := 209) (pc' := 234) rfl (hb hby at_209) rfl (tlt (by decide : (0 : Int32) < (3 : Int32))).1 (by decide) (by decide) ?_
      show Steps p.tables e below (T29.setTop (mkF m 234 #[.val (.int p1), .val (.int p2), .val (.int p3), .val (.int p4), .val (.int p5), .val (.int p6), .val (.int (0 : Int32)), .val (.int (own_most p1 p6)), .val (.int (own_vdr p2)), .val (.int (own_vdr p3)), .val (.int (own_vdr p4)), .val (.int (own_vdr p5)), .val (.ref b19), .val (.ref b22), .val (.int (0 : Int32)), .unset, .unset] [])) _
      refine XS.iload X29.here hx rfl (hb hby at_234) rfl ?_
      show Steps p.tables e below (T29.setTop (mkF m 236 #[.val (.int p1), .val (.int p2), .val (.int p3), .val (.int p4), .val (.int p5), .val (.int p6), .val (.int (0 : Int32)), .val (.int (own_most p1 p6)), .val (.int (own_vdr p2)), .val (.int (own_vdr p3)), .val (.int (own_vdr p4)), .val (.int (own_vdr p5)), .val (.ref b19), .val (.ref b22), .val (.int (0 : Int32)), .unset, .unset] [(.int (0 : Int32))])) _
      refine XS.iconst X29.here hx rfl (hb hby at_236) ?_
      show Steps p.tables e below (T29.setTop (mkF m 237 #[.val (.int p1), .val (.int p2), .val (.int p3), .val (.int p4), .val (.int p5), .val (.int p6), .val (.int (0 : Int32)), .val (.int (own_most p1 p6)), .val (.int (own_vdr p2)), .val (.int (own_vdr p3)), .val (.int (own_vdr p4)), .val (.int (own_vdr p5)), .val (.ref b19), .val (.ref b22), .val (.int (0 : Int32)), .unset, .unset] [(.int (4 : Int32)), (.int (0 : Int32))])) _
      refine XS.icmpYes X29.here hx rfl (pc0 := 237) (pc' := 262) rfl (hb hby at_237) rfl (tlt (by decide : (0 : Int32) < (4 : Int32))).1 (by decide) (by decide) ?_
      show Steps p.tables e below (T29.setTop (mkF m 262 #[.val (.int p1), .val (.int p2), .val (.int p3), .val (.int p4), .val (.int p5), .val (.int p6), .val (.int (0 : Int32)), .val (.int (own_most p1 p6)), .val (.int (own_vdr p2)), .val (.int (own_vdr p3)), .val (.int (own_vdr p4)), .val (.int (own_vdr p5)), .val (.ref b19), .val (.ref b22), .val (.int (0 : Int32)), .unset, .unset] [])) _
      refine XS.iload X29.here hx rfl (hb hby at_262) rfl ?_
      show Steps p.tables e below (T29.setTop (mkF m 264 #[.val (.int p1), .val (.int p2), .val (.int p3), .val (.int p4), .val (.int p5), .val (.int p6), .val (.int (0 : Int32)), .val (.int (own_most p1 p6)), .val (.int (own_vdr p2)), .val (.int (own_vdr p3)), .val (.int (own_vdr p4)), .val (.int (own_vdr p5)), .val (.ref b19), .val (.ref b22), .val (.int (0 : Int32)), .unset, .unset] [(.int (0 : Int32))])) _
      refine XS.iload X29.here hx rfl (hb hby at_264) rfl ?_
      show Steps p.tables e below (T29.setTop (mkF m 266 #[.val (.int p1), .val (.int p2), .val (.int p3), .val (.int p4), .val (.int p5), .val (.int p6), .val (.int (0 : Int32)), .val (.int (own_most p1 p6)), .val (.int (own_vdr p2)), .val (.int (own_vdr p3)), .val (.int (own_vdr p4)), .val (.int (own_vdr p5)), .val (.ref b19), .val (.ref b22), .val (.int (0 : Int32)), .unset, .unset] [(.int (0 : Int32)), (.int (0 : Int32))])) _
      refine XS.isub X29.here hx rfl (hb hby at_266) rfl ?_
      show Steps p.tables e below (T29.setTop (mkF m 267 #[.val (.int p1), .val (.int p2), .val (.int p3), .val (.int p4), .val (.int p5), .val (.int p6), .val (.int (0 : Int32)), .val (.int (own_most p1 p6)), .val (.int (own_vdr p2)), .val (.int (own_vdr p3)), .val (.int (own_vdr p4)), .val (.int (own_vdr p5)), .val (.ref b19), .val (.ref b22), .val (.int (0 : Int32)), .unset, .unset] [(.int (0 : Int32))])) _
      refine XS.istore X29.here hx rfl (hb hby at_267) rfl (l' := #[.val (.int p1), .val (.int p2), .val (.int p3), .val (.int p4), .val (.int p5), .val (.int p6), .val (.int (0 : Int32)), .val (.int (own_most p1 p6)), .val (.int (own_vdr p2)), .val (.int (own_vdr p3)), .val (.int (own_vdr p4)), .val (.int (own_vdr p5)), .val (.ref b19), .val (.ref b22), .val (.int (0 : Int32)), .val (.int (0 : Int32)), .unset]) rfl ?_
      exact k
    have k34 : ∀ t, Steps p.tables e below (T29.setTop (mkF m 289 #[.val (.int p1), .val (.int p2), .val (.int p3), .val (.int p4), .val (.int p5), .val (.int p6), .val (.int (0 : Int32)), .val (.int (own_most p1 p6)), .val (.int (own_vdr p2)), .val (.int (own_vdr p3)), .val (.int (own_vdr p4)), .val (.int (own_vdr p5)), .val (.ref b19), .val (.ref b22), .val (.int (0 : Int32)), .val (.int (0 : Int32)), .val (.int (0 : Int32))] [])) t → Steps p.tables e below (s₁.setTop (entryFrame m #[(.int p1), (.int p2), (.int p3), (.int p4), (.int p5), (.int p6)] maxLocals)) t := by
      intro t k
      refine k33 t ?_
      show Steps p.tables e below (T29.setTop (mkF m 269 #[.val (.int p1), .val (.int p2), .val (.int p3), .val (.int p4), .val (.int p5), .val (.int p6), .val (.int (0 : Int32)), .val (.int (own_most p1 p6)), .val (.int (own_vdr p2)), .val (.int (own_vdr p3)), .val (.int (own_vdr p4)), .val (.int (own_vdr p5)), .val (.ref b19), .val (.ref b22), .val (.int (0 : Int32)), .val (.int (0 : Int32)), .unset] [])) _
      refine XS.iload X29.here hx rfl (hb hby at_269) rfl ?_
      show Steps p.tables e below (T29.setTop (mkF m 271 #[.val (.int p1), .val (.int p2), .val (.int p3), .val (.int p4), .val (.int p5), .val (.int p6), .val (.int (0 : Int32)), .val (.int (own_most p1 p6)), .val (.int (own_vdr p2)), .val (.int (own_vdr p3)), .val (.int (own_vdr p4)), .val (.int (own_vdr p5)), .val (.ref b19), .val (.ref b22), .val (.int (0 : Int32)), .val (.int (0 : Int32)), .unset] [(.int (0 : Int32))])) _
      refine XS.iconst X29.here hx rfl (hb hby at_271) ?_
      show Steps p.tables e below (T29.setTop (mkF m 272 #[.val (.int p1), .val (.int p2), .val (.int p3), .val (.int p4), .val (.int p5), .val (.int p6), .val (.int (0 : Int32)), .val (.int (own_most p1 p6)), .val (.int (own_vdr p2)), .val (.int (own_vdr p3)), .val (.int (own_vdr p4)), .val (.int (own_vdr p5)), .val (.ref b19), .val (.ref b22), .val (.int (0 : Int32)), .val (.int (0 : Int32)), .unset] [(.int (1 : Int32)), (.int (0 : Int32))])) _
      refine XS.icmpYes X29.here hx rfl (pc0 := 272) (pc' := 286) rfl (hb hby at_272) rfl (tlt (by decide : (0 : Int32) < (1 : Int32))).1 (by decide) (by decide) ?_
      show Steps p.tables e below (T29.setTop (mkF m 286 #[.val (.int p1), .val (.int p2), .val (.int p3), .val (.int p4), .val (.int p5), .val (.int p6), .val (.int (0 : Int32)), .val (.int (own_most p1 p6)), .val (.int (own_vdr p2)), .val (.int (own_vdr p3)), .val (.int (own_vdr p4)), .val (.int (own_vdr p5)), .val (.ref b19), .val (.ref b22), .val (.int (0 : Int32)), .val (.int (0 : Int32)), .unset] [])) _
      refine XS.iconst X29.here hx rfl (hb hby at_286) ?_
      show Steps p.tables e below (T29.setTop (mkF m 287 #[.val (.int p1), .val (.int p2), .val (.int p3), .val (.int p4), .val (.int p5), .val (.int p6), .val (.int (0 : Int32)), .val (.int (own_most p1 p6)), .val (.int (own_vdr p2)), .val (.int (own_vdr p3)), .val (.int (own_vdr p4)), .val (.int (own_vdr p5)), .val (.ref b19), .val (.ref b22), .val (.int (0 : Int32)), .val (.int (0 : Int32)), .unset] [(.int (0 : Int32))])) _
      refine XS.istore X29.here hx rfl (hb hby at_287) rfl (l' := #[.val (.int p1), .val (.int p2), .val (.int p3), .val (.int p4), .val (.int p5), .val (.int p6), .val (.int (0 : Int32)), .val (.int (own_most p1 p6)), .val (.int (own_vdr p2)), .val (.int (own_vdr p3)), .val (.int (own_vdr p4)), .val (.int (own_vdr p5)), .val (.ref b19), .val (.ref b22), .val (.int (0 : Int32)), .val (.int (0 : Int32)), .val (.int (0 : Int32))]) rfl ?_
      exact k
    have k35 : ∀ t, Steps p.tables e below (T29.setTop (mkF m 293 #[.val (.int p1), .val (.int p2), .val (.int p3), .val (.int p4), .val (.int p5), .val (.int p6), .val (.int (0 : Int32)), .val (.int (own_most p1 p6)), .val (.int (own_vdr p2)), .val (.int (own_vdr p3)), .val (.int (own_vdr p4)), .val (.int (own_vdr p5)), .val (.ref b19), .val (.ref b22), .val (.int (0 : Int32)), .val (.int (0 : Int32)), .val (.int (0 : Int32))] [(.int (own_most p1 p6)), (.ref b22)])) t → Steps p.tables e below (s₁.setTop (entryFrame m #[(.int p1), (.int p2), (.int p3), (.int p4), (.int p5), (.int p6)] maxLocals)) t := by
      intro t k
      refine k34 t ?_
      show Steps p.tables e below (T29.setTop (mkF m 289 #[.val (.int p1), .val (.int p2), .val (.int p3), .val (.int p4), .val (.int p5), .val (.int p6), .val (.int (0 : Int32)), .val (.int (own_most p1 p6)), .val (.int (own_vdr p2)), .val (.int (own_vdr p3)), .val (.int (own_vdr p4)), .val (.int (own_vdr p5)), .val (.ref b19), .val (.ref b22), .val (.int (0 : Int32)), .val (.int (0 : Int32)), .val (.int (0 : Int32))] [])) _
      refine XS.aload X29.here hx rfl (hb hby at_289) rfl rfl ?_
      show Steps p.tables e below (T29.setTop (mkF m 291 #[.val (.int p1), .val (.int p2), .val (.int p3), .val (.int p4), .val (.int p5), .val (.int p6), .val (.int (0 : Int32)), .val (.int (own_most p1 p6)), .val (.int (own_vdr p2)), .val (.int (own_vdr p3)), .val (.int (own_vdr p4)), .val (.int (own_vdr p5)), .val (.ref b19), .val (.ref b22), .val (.int (0 : Int32)), .val (.int (0 : Int32)), .val (.int (0 : Int32))] [(.ref b22)])) _
      refine XS.iload X29.here hx rfl (hb hby at_291) rfl ?_
      exact k
    obtain ⟨_, _, ⟨T36, L36, k36c, n36⟩, -, X36, ⟨Lc36, hQ36, l36, y36, z36⟩, st36⟩ := Jvm.LawKit.callS X29 hx (y := (⟨"com/example/daftar/daftar/model/Characters", "isOneTo", "(Ljava/lang/String;I)Z"⟩ : MethodName)) hown (mvT hZ (hw _ (List.mem_of_getElem? (i := 29) rfl))) (mvT hZ (hw _ (List.mem_of_getElem? (i := 30) rfl))) (mvT hZ (hw _ (List.mem_of_getElem? (i := 31) rfl))) (mvT hZ (hw _ (List.mem_of_getElem? (i := 32) rfl))) (by decide) (backOf (W := 0) (own_rmio l Z a0 hw [] b22 (own_most p1 p6) 0 0 (own_of []) cs T29.heap n0 Z29 f31 fq29_0 Xo29 SC SA SH SL hcs) hZ (hw _ (List.mem_of_getElem? (i := 32) rfl)) (hw _ (List.mem_of_getElem? (i := 31) rfl)) (by decide) (by decide)) (g := (mkF m 293 #[.val (.int p1), .val (.int p2), .val (.int p3), .val (.int p4), .val (.int p5), .val (.int p6), .val (.int (0 : Int32)), .val (.int (own_most p1 p6)), .val (.int (own_vdr p2)), .val (.int (own_vdr p3)), .val (.int (own_vdr p4)), .val (.int (own_vdr p5)), .val (.ref b19), .val (.ref b22), .val (.int (0 : Int32)), .val (.int (0 : Int32)), .val (.int (0 : Int32))] [(.int (own_most p1 p6)), (.ref b22)])) rfl (by rw [hml]; rfl) (argsL := [(.ref b22), (.int (own_most p1 p6))]) (rest := []) (lenOf own_pd19 rfl) rfl (by show 2 * 0 + _ ≤ _; exact Nat.le_of_eq rfl) (hb hby at_293) (fun _ _ => ⟨rfl, rfl, (by decide : 4 + 0 ≤ _), (by decide : 8 + 0 ≤ _)⟩)
    dsimp only [Pt.U, Pt.locs, Pt.cells, Pt.slots] at X36 l36 y36 z36 st36 hQ36
    subst l36 y36 z36
    obtain ⟨r_36, rfl, N36q, e36, hq36_hr⟩ := hQ36
    have N36 := Fr.app N29 N36q
    have k37 : ∀ t, Steps p.tables e below (T36.setTop (mkF m 296 #[.val (.int p1), .val (.int p2), .val (.int p3), .val (.int p4), .val (.int p5), .val (.int p6), .val (.int (0 : Int32)), .val (.int (own_most p1 p6)), .val (.int (own_vdr p2)), .val (.int (own_vdr p3)), .val (.int (own_vdr p4)), .val (.int (own_vdr p5)), .val (.ref b19), .val (.ref b22), .val (.int (0 : Int32)), .val (.int (0 : Int32)), .val (.int (0 : Int32))] [(.int r_36)])) t → Steps p.tables e below (s₁.setTop (entryFrame m #[(.int p1), (.int p2), (.int p3), (.int p4), (.int p5), (.int p6)] maxLocals)) t := fun t k => k35 t (st36 t k)
    have k38 : ∀ t, Steps p.tables e below (T36.setTop (mkF m 306 #[.val (.int p1), .val (.int p2), .val (.int p3), .val (.int p4), .val (.int p5), .val (.int p6), .val (.int (0 : Int32)), .val (.int (own_most p1 p6)), .val (.int (own_vdr p2)), .val (.int (own_vdr p3)), .val (.int (own_vdr p4)), .val (.int (own_vdr p5)), .val (.ref b19), .val (.ref b22), .val (.int (0 : Int32)), .val (.int (0 : Int32)), .val (.int (0 : Int32))] [(.int (1 : Int32))])) t → Steps p.tables e below (s₁.setTop (entryFrame m #[(.int p1), (.int p2), (.int p3), (.int p4), (.int p5), (.int p6)] maxLocals)) t := by
      intro t k
      refine k37 t ?_
      show Steps p.tables e below (T36.setTop (mkF m 296 #[.val (.int p1), .val (.int p2), .val (.int p3), .val (.int p4), .val (.int p5), .val (.int p6), .val (.int (0 : Int32)), .val (.int (own_most p1 p6)), .val (.int (own_vdr p2)), .val (.int (own_vdr p3)), .val (.int (own_vdr p4)), .val (.int (own_vdr p5)), .val (.ref b19), .val (.ref b22), .val (.int (0 : Int32)), .val (.int (0 : Int32)), .val (.int (0 : Int32))] [(.int r_36)])) _
      refine XS.iload X36.here hx rfl (hb hby at_296) rfl ?_
      show Steps p.tables e below (T36.setTop (mkF m 298 #[.val (.int p1), .val (.int p2), .val (.int p3), .val (.int p4), .val (.int p5), .val (.int p6), .val (.int (0 : Int32)), .val (.int (own_most p1 p6)), .val (.int (own_vdr p2)), .val (.int (own_vdr p3)), .val (.int (own_vdr p4)), .val (.int (own_vdr p5)), .val (.ref b19), .val (.ref b22), .val (.int (0 : Int32)), .val (.int (0 : Int32)), .val (.int (0 : Int32))] [(.int (0 : Int32)), (.int r_36)])) _
      refine XS.icmpNo X36.here hx rfl (hb hby at_298) rfl (teq (own_fin0 p1 p2 p3 p4 p5 p6 hq36_hr)).2 ?_
      show Steps p.tables e below (T36.setTop (mkF m 301 #[.val (.int p1), .val (.int p2), .val (.int p3), .val (.int p4), .val (.int p5), .val (.int p6), .val (.int (0 : Int32)), .val (.int (own_most p1 p6)), .val (.int (own_vdr p2)), .val (.int (own_vdr p3)), .val (.int (own_vdr p4)), .val (.int (own_vdr p5)), .val (.ref b19), .val (.ref b22), .val (.int (0 : Int32)), .val (.int (0 : Int32)), .val (.int (0 : Int32))] [])) _
      refine XS.iconst X36.here hx rfl (hb hby at_301) ?_
      show Steps p.tables e below (T36.setTop (mkF m 302 #[.val (.int p1), .val (.int p2), .val (.int p3), .val (.int p4), .val (.int p5), .val (.int p6), .val (.int (0 : Int32)), .val (.int (own_most p1 p6)), .val (.int (own_vdr p2)), .val (.int (own_vdr p3)), .val (.int (own_vdr p4)), .val (.int (own_vdr p5)), .val (.ref b19), .val (.ref b22), .val (.int (0 : Int32)), .val (.int (0 : Int32)), .val (.int (0 : Int32))] [(.int (1 : Int32))])) _
      refine XS.goto X36.here hx rfl (pc0 := 302) (pc' := 306) rfl (hb hby at_302) (by decide) (by decide) ?_
      exact k
    obtain ⟨fs, hr, hrun, hended, hE⟩ := Stand.leaveW (s := s) X36 Si29 (by rw [e36]; exact Nat.le_refl _) (v := (some (.int (1 : Int32)))) (fun h => by rw [Bd.returns] at h; cases h)
    refine ⟨_, _, k38 _ ?_, hrun, hended, _, _, rfl, ?_, ⟨_, rfl⟩, hE.2.1, hE.2.2.1, hE.2.2.2.mono (by decide) (by decide)⟩
    · exact retN X36 hx (t := .boolean) Bd.returns (by simp) (hb hby at_306) hr
    · exact ⟨rfl, N36⟩
  · have k39 : ∀ t, Steps p.tables e below (T14.setTop (mkF m 54 #[.val (.int p1), .val (.int p2), .val (.int p3), .val (.int p4), .val (.int p5), .val (.int p6), .val (.int (1 : Int32)), .val (.int (own_most p1 p6)), .val (.int (own_vdr p2)), .val (.int (own_vdr p3)), .val (.int (own_vdr p4)), .val (.int (own_vdr p5)), .unset, .unset, .unset, .unset, .unset] [])) t → Steps p.tables e below (s₁.setTop (entryFrame m #[(.int p1), (.int p2), (.int p3), (.int p4), (.int p5), (.int p6)] maxLocals)) t := by have z := k16; rw [he] at z; exact z
    have k40 : ∀ t, Steps p.tables e below (T14.setTop (mkF m 74 #[.val (.int p1), .val (.int p2), .val (.int p3), .val (.int p4), .val (.int p5), .val (.int p6), .val (.int (1 : Int32)), .val (.int (own_most p1 p6)), .val (.int (own_vdr p2)), .val (.int (own_vdr p3)), .val (.int (own_vdr p4)), .val (.int (own_vdr p5)), .unset, .unset, .unset, .unset, .unset] [(.int (1 : Int32))])) t → Steps p.tables e below (s₁.setTop (entryFrame m #[(.int p1), (.int p2), (.int p3), (.int p4), (.int p5), (.int p6)] maxLocals)) t := by
      intro t k
      refine k39 t ?_
      show Steps p.tables e below (T14.setTop (mkF m 54 #[.val (.int p1), .val (.int p2), .val (.int p3), .val (.int p4), .val (.int p5), .val (.int p6), .val (.int (1 : Int32)), .val (.int (own_most p1 p6)), .val (.int (own_vdr p2)), .val (.int (own_vdr p3)), .val (.int (own_vdr p4)), .val (.int (own_vdr p5)), .unset, .unset, .unset, .unset, .unset] [])) _
      refine XS.iload X14.here hx rfl (hb hby at_54) rfl ?_
      show Steps p.tables e below (T14.setTop (mkF m 56 #[.val (.int p1), .val (.int p2), .val (.int p3), .val (.int p4), .val (.int p5), .val (.int p6), .val (.int (1 : Int32)), .val (.int (own_most p1 p6)), .val (.int (own_vdr p2)), .val (.int (own_vdr p3)), .val (.int (own_vdr p4)), .val (.int (own_vdr p5)), .unset, .unset, .unset, .unset, .unset] [(.int (1 : Int32))])) _
      refine XS.ifYes X14.here hx rfl (pc0 := 56) (pc' := 67) rfl (hb hby at_56) rfl ((if0 _ _).trans (feq (by decide : ¬ ((1 : Int32) = (0 : Int32)))).2) (by decide) (by decide) ?_
      show Steps p.tables e below (T14.setTop (mkF m 67 #[.val (.int p1), .val (.int p2), .val (.int p3), .val (.int p4), .val (.int p5), .val (.int p6), .val (.int (1 : Int32)), .val (.int (own_most p1 p6)), .val (.int (own_vdr p2)), .val (.int (own_vdr p3)), .val (.int (own_vdr p4)), .val (.int (own_vdr p5)), .unset, .unset, .unset, .unset, .unset] [])) _
      refine XS.iload X14.here hx rfl (hb hby at_67) rfl ?_
      show Steps p.tables e below (T14.setTop (mkF m 69 #[.val (.int p1), .val (.int p2), .val (.int p3), .val (.int p4), .val (.int p5), .val (.int p6), .val (.int (1 : Int32)), .val (.int (own_most p1 p6)), .val (.int (own_vdr p2)), .val (.int (own_vdr p3)), .val (.int (own_vdr p4)), .val (.int (own_vdr p5)), .unset, .unset, .unset, .unset, .unset] [(.int (1 : Int32))])) _
      refine XS.iconst X14.here hx rfl (hb hby at_69) ?_
      show Steps p.tables e below (T14.setTop (mkF m 70 #[.val (.int p1), .val (.int p2), .val (.int p3), .val (.int p4), .val (.int p5), .val (.int p6), .val (.int (1 : Int32)), .val (.int (own_most p1 p6)), .val (.int (own_vdr p2)), .val (.int (own_vdr p3)), .val (.int (own_vdr p4)), .val (.int (own_vdr p5)), .unset, .unset, .unset, .unset, .unset] [(.int (1 : Int32)), (.int (1 : Int32))])) _
      refine XS.icmpNo X14.here hx rfl (hb hby at_70) rfl (teq (rfl : (1 : Int32) = (1 : Int32))).2 ?_
      show Steps p.tables e below (T14.setTop (mkF m 73 #[.val (.int p1), .val (.int p2), .val (.int p3), .val (.int p4), .val (.int p5), .val (.int p6), .val (.int (1 : Int32)), .val (.int (own_most p1 p6)), .val (.int (own_vdr p2)), .val (.int (own_vdr p3)), .val (.int (own_vdr p4)), .val (.int (own_vdr p5)), .unset, .unset, .unset, .unset, .unset] [])) _
      refine XS.iconst X14.here hx rfl (hb hby at_73) ?_
      exact k
    obtain ⟨T41, h41, c41, X41, e41, E41, A41, st41⟩ := newP X14 hx hZ (hw _ (List.mem_of_getElem? (i := 7) rfl)) e14 (g := (mkF m 74 #[.val (.int p1), .val (.int p2), .val (.int p3), .val (.int p4), .val (.int p5), .val (.int p6), .val (.int (1 : Int32)), .val (.int (own_most p1 p6)), .val (.int (own_vdr p2)), .val (.int (own_vdr p3)), .val (.int (own_vdr p4)), .val (.int (own_vdr p5)), .unset, .unset, .unset, .unset, .unset] [(.int (1 : Int32))])) rfl (hb hby at_74) rfl (by decide) (cap := 1) (by decide) (by decide) (by decide) (by decide)
    obtain ⟨b41, g41⟩ : ∃ z, z = h0.size := ⟨_, rfl⟩
    rw [← g41] at A41 st41
    have ge41 : n0 ≤ b41 := Nat.le_trans Z0 (Nat.le_of_eq g41.symm)
    have bo41 : h0.size ≤ b41 := Nat.le_trans (Keep.refl h0 []).1 (Nat.le_of_eq g41.symm)
    have Z41 : n0 ≤ h41.size := Nat.le_trans Z0 E41.1
    have K41 : Keep h0 h41 [] := (Keep.refl h0 []).ext E41
    have Xo41 := Xo.ext E41
    have V41 : Arv Z h41 b41 c41 .char (1 : Int32) [(.int (0 : Int32))] (.int (0 : Int32)) := (Arv.new A41 (by decide)).pad (pad_rep [] (.int (0 : Int32)) 1)
    have k42 : ∀ t, Steps p.tables e below (T41.setTop (mkF m 76 #[.val (.int p1), .val (.int p2), .val (.int p3), .val (.int p4), .val (.int p5), .val (.int p6), .val (.int (1 : Int32)), .val (.int (own_most p1 p6)), .val (.int (own_vdr p2)), .val (.int (own_vdr p3)), .val (.int (own_vdr p4)), .val (.int (own_vdr p5)), .unset, .unset, .unset, .unset, .unset] [(.ref b41)])) t → Steps p.tables e below (s₁.setTop (entryFrame m #[(.int p1), (.int p2), (.int p3), (.int p4), (.int p5), (.int p6)] maxLocals)) t := fun t k => k40 t (st41 t k)
    have k43 : ∀ t, Steps p.tables e below (T41.setTop (mkF m 80 #[.val (.int p1), .val (.int p2), .val (.int p3), .val (.int p4), .val (.int p5), .val (.int p6), .val (.int (1 : Int32)), .val (.int (own_most p1 p6)), .val (.int (own_vdr p2)), .val (.int (own_vdr p3)), .val (.int (own_vdr p4)), .val (.int (own_vdr p5)), .unset, .unset, .unset, .unset, .unset] [(.int (own_vdr p2)), (.int (0 : Int32)), (.ref b41), (.ref b41)])) t → Steps p.tables e below (s₁.setTop (entryFrame m #[(.int p1), (.int p2), (.int p3), (.int p4), (.int p5), (.int p6)] maxLocals)) t := by
      intro t k
      refine k42 t ?_
      show Steps p.tables e below (T41.setTop (mkF m 76 #[.val (.int p1), .val (.int p2), .val (.int p3), .val (.int p4), .val (.int p5), .val (.int p6), .val (.int (1 : Int32)), .val (.int (own_most p1 p6)), .val (.int (own_vdr p2)), .val (.int (own_vdr p3)), .val (.int (own_vdr p4)), .val (.int (own_vdr p5)), .unset, .unset, .unset, .unset, .unset] [(.ref b41)])) _
      refine XS.dup X41.here hx rfl (hb hby at_76) rfl rfl ?_
      show Steps p.tables e below (T41.setTop (mkF m 77 #[.val (.int p1), .val (.int p2), .val (.int p3), .val (.int p4), .val (.int p5), .val (.int p6), .val (.int (1 : Int32)), .val (.int (own_most p1 p6)), .val (.int (own_vdr p2)), .val (.int (own_vdr p3)), .val (.int (own_vdr p4)), .val (.int (own_vdr p5)), .unset, .unset, .unset, .unset, .unset] [(.ref b41), (.ref b41)])) _
      refine XS.iconst X41.here hx rfl (hb hby at_77) ?_
      show Steps p.tables e below (T41.setTop (mkF m 78 #[.val (.int p1), .val (.int p2), .val (.int p3), .val (.int p4), .val (.int p5), .val (.int p6), .val (.int (1 : Int32)), .val (.int (own_most p1 p6)), .val (.int (own_vdr p2)), .val (.int (own_vdr p3)), .val (.int (own_vdr p4)), .val (.int (own_vdr p5)), .unset, .unset, .unset, .unset, .unset] [(.int (0 : Int32)), (.ref b41), (.ref b41)])) _
      refine XS.iload X41.here hx rfl (hb hby at_78) rfl ?_
      exact k
    obtain ⟨cl44, Ar44, qa44, Sa44, Na44, Ha44, Ga44⟩ := id V41
    have hin45 : ¬ ((0 : Int32) < 0 ∨ cl44.slots.size ≤ ((0 : Int32)).toNatClampNeg) := inb_of Sa44 ⟨by decide, by decide⟩
    obtain ⟨T46, h46, X46, e46, W46, st46⟩ := stC X41 hx hZ e41 Ar44 (j := (0 : Int32)) hin45 (g := (mkF m 80 #[.val (.int p1), .val (.int p2), .val (.int p3), .val (.int p4), .val (.int p5), .val (.int p6), .val (.int (1 : Int32)), .val (.int (own_most p1 p6)), .val (.int (own_vdr p2)), .val (.int (own_vdr p3)), .val (.int (own_vdr p4)), .val (.int (own_vdr p5)), .unset, .unset, .unset, .unset, .unset] [(.int (own_vdr p2)), (.int (0 : Int32)), (.ref b41), (.ref b41)])) rfl rfl (hb hby at_80)
    have V46 : Arv Z h46 b41 c41 .char (1 : Int32) [(.int (nar .char (own_vdr p2)))] (.int (0 : Int32)) := Arv.set Ar44 qa44 Sa44 Na44 Ha44 Ga44 (fits_nar_char _) W46 0 rfl (Nat.le_of_ble_eq_true rfl)
    have N46 := Fr.snoc X46 N14 ge41
    have K46 : Keep h0 h46 [] := K41.wr W46 (Or.inr bo41)
    have Z46 : n0 ≤ h46.size := Nat.le_trans Z41 (Keep.of_wr W46).1
    have Xo46 := Xo41.wr W46 ge41
    have k47 : ∀ t, Steps p.tables e below (T46.setTop (mkF m 81 #[.val (.int p1), .val (.int p2), .val (.int p3), .val (.int p4), .val (.int p5), .val (.int p6), .val (.int (1 : Int32)), .val (.int (own_most p1 p6)), .val (.int (own_vdr p2)), .val (.int (own_vdr p3)), .val (.int (own_vdr p4)), .val (.int (own_vdr p5)), .unset, .unset, .unset, .unset, .unset] [(.ref b41)])) t → Steps p.tables e below (s₁.setTop (entryFrame m #[(.int p1), (.int p2), (.int p3), (.int p4), (.int p5), (.int p6)] maxLocals)) t := fun t k => k43 t (st46 t k)
    have k48 : ∀ t, Steps p.tables e below (T46.setTop (mkF m 164 #[.val (.int p1), .val (.int p2), .val (.int p3), .val (.int p4), .val (.int p5), .val (.int p6), .val (.int (1 : Int32)), .val (.int (own_most p1 p6)), .val (.int (own_vdr p2)), .val (.int (own_vdr p3)), .val (.int (own_vdr p4)), .val (.int (own_vdr p5)), .val (.ref b41), .unset, .unset, .unset, .unset] [])) t → Steps p.tables e below (s₁.setTop (entryFrame m #[(.int p1), (.int p2), (.int p3), (.int p4), (.int p5), (.int p6)] maxLocals)) t := by
      intro t k
      refine k47 t ?_
      show Steps p.tables e below (T46.setTop (mkF m 81 #[.val (.int p1), .val (.int p2), .val (.int p3), .val (.int p4), .val (.int p5), .val (.int p6), .val (.int (1 : Int32)), .val (.int (own_most p1 p6)), .val (.int (own_vdr p2)), .val (.int (own_vdr p3)), .val (.int (own_vdr p4)), .val (.int (own_vdr p5)), .unset, .unset, .unset, .unset, .unset] [(.ref b41)])) _
      refine XS.astore X46.here hx rfl (hb hby at_81) rfl rfl (l' := #[.val (.int p1), .val (.int p2), .val (.int p3), .val (.int p4), .val (.int p5), .val (.int p6), .val (.int (1 : Int32)), .val (.int (own_most p1 p6)), .val (.int (own_vdr p2)), .val (.int (own_vdr p3)), .val (.int (own_vdr p4)), .val (.int (own_vdr p5)), .val (.ref b41), .unset, .unset, .unset, .unset]) rfl ?_
      show Steps p.tables e below (T46.setTop (mkF m 83 #[.val (.int p1), .val (.int p2), .val (.int p3), .val (.int p4), .val (.int p5), .val (.int p6), .val (.int (1 : Int32)), .val (.int (own_most p1 p6)), .val (.int (own_vdr p2)), .val (.int (own_vdr p3)), .val (.int (own_vdr p4)), .val (.int (own_vdr p5)), .val (.ref b41), .unset, .unset, .unset, .unset] [])) _
      refine XS.goto X46.here hx rfl (pc0 := 83) (pc' := 164) rfl (hb hby at_83) (by decide) (by decide) ?_
      exact k
    rw [own_drn p2] at V46
    have GA1 : own_G Z h46 b41 .char 1 (own_of [(own_vdr p2)]) := own_G.ofV (vs := [(own_vdr p2)]) (n := 1) V46 rfl
    have hch : ∀ i, i < 1 → own_ch ((own_of [(own_vdr p2)]) (0 + i)) := own_chL (vs := [(own_vdr p2)]) (fun v hv => by simp only [List.mem_cons, List.not_mem_nil, or_false] at hv; rcases hv with rfl <;> exact own_drb _)
    obtain ⟨T49, h49, X49, e49, E49, A49, D49, -, st49⟩ := newO X46 hx hZ hown (hw _ (List.mem_of_getElem? (i := 8) rfl)) (hw _ (List.mem_of_getElem? (i := 9) rfl)) (hw _ (List.mem_of_getElem? (i := 10) rfl)) e46 (g := (mkF m 164 #[.val (.int p1), .val (.int p2), .val (.int p3), .val (.int p4), .val (.int p5), .val (.int p6), .val (.int (1 : Int32)), .val (.int (own_most p1 p6)), .val (.int (own_vdr p2)), .val (.int (own_vdr p3)), .val (.int (own_vdr p4)), .val (.int (own_vdr p5)), .val (.ref b41), .unset, .unset, .unset, .unset] [])) rfl (hb hby at_164) (by decide) (by decide)
    obtain ⟨b49, g49⟩ : ∃ z, z = h46.size := ⟨_, rfl⟩
    rw [← g49] at A49 D49 st49
    have ge49 : n0 ≤ b49 := Nat.le_trans Z46 (Nat.le_of_eq g49.symm)
    have bo49 : h0.size ≤ b49 := Nat.le_trans K46.1 (Nat.le_of_eq g49.symm)
    have ne50 : b41 ≠ b49 := Nat.ne_of_lt (Nat.lt_of_lt_of_le GA1.lt (Nat.le_of_eq g49.symm))
    have Z49 : n0 ≤ h49.size := Nat.le_trans Z46 E49.1
    have K49 : Keep h0 h49 [] := K46.ext E49
    have Xo49 := Xo46.ext E49
    have f51 := GA1.ext E49
    have f52 : Fld Z h49 b49 "java/lang/String" "value" "[B" .null := D49 (Or.inr (hw _ (List.mem_of_getElem? (i := 23) rfl))) (ty := (.array .byte)) (by decide)
    have f53 : Fld Z h49 b49 "java/lang/String" "coder" "B" (.int (0 : Int32)) := D49 (Or.inr (hw _ (List.mem_of_getElem? (i := 24) rfl))) (ty := .byte) (by decide)
    have k54 : ∀ t, Steps p.tables e below (T49.setTop (mkF m 167 #[.val (.int p1), .val (.int p2), .val (.int p3), .val (.int p4), .val (.int p5), .val (.int p6), .val (.int (1 : Int32)), .val (.int (own_most p1 p6)), .val (.int (own_vdr p2)), .val (.int (own_vdr p3)), .val (.int (own_vdr p4)), .val (.int (own_vdr p5)), .val (.ref b41), .unset, .unset, .unset, .unset] [(.ref b49)])) t → Steps p.tables e below (s₁.setTop (entryFrame m #[(.int p1), (.int p2), (.int p3), (.int p4), (.int p5), (.int p6)] maxLocals)) t := fun t k => k48 t (st49 t k)
    have k55 : ∀ t, Steps p.tables e below (T49.setTop (mkF m 170 #[.val (.int p1), .val (.int p2), .val (.int p3), .val (.int p4), .val (.int p5), .val (.int p6), .val (.int (1 : Int32)), .val (.int (own_most p1 p6)), .val (.int (own_vdr p2)), .val (.int (own_vdr p3)), .val (.int (own_vdr p4)), .val (.int (own_vdr p5)), .val (.ref b41), .unset, .unset, .unset, .unset] [(.ref b41), (.ref b49), (.ref b49)])) t → Steps p.tables e below (s₁.setTop (entryFrame m #[(.int p1), (.int p2), (.int p3), (.int p4), (.int p5), (.int p6)] maxLocals)) t := by
      intro t k
      refine k54 t ?_
      show Steps p.tables e below (T49.setTop (mkF m 167 #[.val (.int p1), .val (.int p2), .val (.int p3), .val (.int p4), .val (.int p5), .val (.int p6), .val (.int (1 : Int32)), .val (.int (own_most p1 p6)), .val (.int (own_vdr p2)), .val (.int (own_vdr p3)), .val (.int (own_vdr p4)), .val (.int (own_vdr p5)), .val (.ref b41), .unset, .unset, .unset, .unset] [(.ref b49)])) _
      refine XS.dup X49.here hx rfl (hb hby at_167) rfl rfl ?_
      show Steps p.tables e below (T49.setTop (mkF m 168 #[.val (.int p1), .val (.int p2), .val (.int p3), .val (.int p4), .val (.int p5), .val (.int p6), .val (.int (1 : Int32)), .val (.int (own_most p1 p6)), .val (.int (own_vdr p2)), .val (.int (own_vdr p3)), .val (.int (own_vdr p4)), .val (.int (own_vdr p5)), .val (.ref b41), .unset, .unset, .unset, .unset] [(.ref b49), (.ref b49)])) _
      refine XS.aload X49.here hx rfl (hb hby at_168) rfl rfl ?_
      exact k
    obtain ⟨_, _, ⟨T56, L56, k56c, n56⟩, -, X56, ⟨Lc56, hQ56, l56, y56, z56⟩, st56⟩ := X49.specialBack hx (y := (⟨"java/lang/String", "<init>", "([C)V"⟩ : MethodName)) rfl hown (mvT hZ (hw _ (List.mem_of_getElem? (i := 11) rfl))) (mvT hZ (hw _ (List.mem_of_getElem? (i := 12) rfl))) (mvT hZ (hw _ (List.mem_of_getElem? (i := 13) rfl))) (by decide) (backOf (W := 1) (own_rms1 l Z a0 hw [] b49 b41 .null (.int (0 : Int32)) 1 (own_of [ (own_vdr p2) ]) cs h49 n0 Z49 A49 f52 f53 f51 ge49 ne50 Xo49 SC SA SH SL hcs (by omega) (by omega) hch) hZ (hw _ (List.mem_of_getElem? (i := 13) rfl)) (hw _ (List.mem_of_getElem? (i := 10) rfl)) (by decide) (by decide)) (g := (mkF m 170 #[.val (.int p1), .val (.int p2), .val (.int p3), .val (.int p4), .val (.int p5), .val (.int p6), .val (.int (1 : Int32)), .val (.int (own_most p1 p6)), .val (.int (own_vdr p2)), .val (.int (own_vdr p3)), .val (.int (own_vdr p4)), .val (.int (own_vdr p5)), .val (.ref b41), .unset, .unset, .unset, .unset] [(.ref b41), (.ref b49), (.ref b49)])) rfl (by rw [hml]; rfl) (Steps.refl _) (a := b49) (argsL := [(.ref b41)]) (rest := [(.ref b49)]) (lenOf own_pd18 rfl) rfl (by show 2 * 0 + _ ≤ _; exact Nat.le_of_eq rfl) (hb hby at_170) (fun _ _ => ⟨rfl, e49, (by decide : 2 + 2 ≤ _), (by decide : 5 + 12 ≤ _)⟩)
    dsimp only [Pt.U, Pt.locs, Pt.cells, Pt.slots] at X56 l56 y56 z56 st56 hQ56
    subst l56 y56 z56
    obtain ⟨rfl, N56q, Kq56, fq56_0⟩ := hQ56
    have N56 := Fr.app N46 N56q
    have f57 := f51.keep Kq56 (List.not_mem_cons_of_ne_of_not_mem ne50 List.not_mem_nil)
    have f58 := A49.keep Kq56
    have Z56 : n0 ≤ T56.heap.size := Nat.le_trans Z49 Kq56.1
    have K56 : Keep h0 T56.heap [] := K49.trans Kq56 (fun x hx => by rcases List.mem_cons.mp hx with rfl | hx; exact Or.inr bo49; exact nomatch hx)
    have Xo56 := Xo49.keep Kq56 (allS ge49 all0)
    have k59 : ∀ t, Steps p.tables e below (T56.setTop (mkF m 173 #[.val (.int p1), .val (.int p2), .val (.int p3), .val (.int p4), .val (.int p5), .val (.int p6), .val (.int (1 : Int32)), .val (.int (own_most p1 p6)), .val (.int (own_vdr p2)), .val (.int (own_vdr p3)), .val (.int (own_vdr p4)), .val (.int (own_vdr p5)), .val (.ref b41), .unset, .unset, .unset, .unset] [(.ref b49)])) t → Steps p.tables e below (s₁.setTop (entryFrame m #[(.int p1), (.int p2), (.int p3), (.int p4), (.int p5), (.int p6)] maxLocals)) t := fun t k => k55 t (st56.trans k)
    have k60 : ∀ t, Steps p.tables e below (T56.setTop (mkF m 269 #[.val (.int p1), .val (.int p2), .val (.int p3), .val (.int p4), .val (.int p5), .val (.int p6), .val (.int (1 : Int32)), .val (.int (own_most p1 p6)), .val (.int (own_vdr p2)), .val (.int (own_vdr p3)), .val (.int (own_vdr p4)), .val (.int (own_vdr p5)), .val (.ref b41), .val (.ref b49), .val (.int (0 : Int32)), .val (.int (1 : Int32)), .unset] [])) t → Steps p.tables e below (s₁.setTop (entryFrame m #[(.int p1), (.int p2), (.int p3), (.int p4), (.int p5), (.int p6)] maxLocals)) t := by
      intro t k
      refine k59 t ?_
      show Steps p.tables e below (T56.setTop (mkF m 173 #[.val (.int p1), .val (.int p2), .val (.int p3), .val (.int p4), .val (.int p5), .val (.int p6), .val (.int (1 : Int32)), .val (.int (own_most p1 p6)), .val (.int (own_vdr p2)), .val (.int (own_vdr p3)), .val (.int (own_vdr p4)), .val (.int (own_vdr p5)), .val (.ref b41), .unset, .unset, .unset, .unset] [(.ref b49)])) _
      refine XS.astore X56.here hx rfl (hb hby at_173) rfl rfl (l' := #[.val (.int p1), .val (.int p2), .val (.int p3), .val (.int p4), .val (.int p5), .val (.int p6), .val (.int (1 : Int32)), .val (.int (own_most p1 p6)), .val (.int (own_vdr p2)), .val (.int (own_vdr p3)), .val (.int (own_vdr p4)), .val (.int (own_vdr p5)), .val (.ref b41), .val (.ref b49), .unset, .unset, .unset]) rfl ?_
      show Steps p.tables e below (T56.setTop (mkF m 175 #[.val (.int p1), .val (.int p2), .val (.int p3), .val (.int p4), .val (.int p5), .val (.int p6), .val (.int (1 : Int32)), .val (.int (own_most p1 p6)), .val (.int (own_vdr p2)), .val (.int (own_vdr p3)), .val (.int (own_vdr p4)), .val (.int (own_vdr p5)), .val (.ref b41), .val (.ref b49), .unset, .unset, .unset] [])) _
      refine XS.iconst X56.here hx rfl (hb hby at_175) ?_
      show Steps p.tables e below (T56.setTop (mkF m 176 #[.val (.int p1), .val (.int p2), .val (.int p3), .val (.int p4), .val (.int p5), .val (.int p6), .val (.int (1 : Int32)), .val (.int (own_most p1 p6)), .val (.int (own_vdr p2)), .val (.int (own_vdr p3)), .val (.int (own_vdr p4)), .val (.int (own_vdr p5)), .val (.ref b41), .val (.ref b49), .unset, .unset, .unset] [(.int (0 : Int32))])) _
      refine XS.istore X56.here hx rfl (hb hby at_176) rfl (l' := #[.val (.int p1), .val (.int p2), .val (.int p3), .val (.int p4), .val (.int p5), .val (.int p6), .val (.int (1 : Int32)), .val (.int (own_most p1 p6)), .val (.int (own_vdr p2)), .val (.int (own_vdr p3)), .val (.int (own_vdr p4)), .val (.int (own_vdr p5)), .val (.ref b41), .val (.ref b49), .val (.int (0 : Int32)), .unset, .unset]) rfl ?_
      show Steps p.tables e below (T56.setTop (mkF m 178 #[.val (.int p1), .val (.int p2), .val (.int p3), .val (.int p4), .val (.int p5), .val (.int p6), .val (.int (1 : Int32)), .val (.int (own_most p1 p6)), .val (.int (own_vdr p2)), .val (.int (own_vdr p3)), .val (.int (own_vdr p4)), .val (.int (own_vdr p5)), .val (.ref b41), .val (.ref b49), .val (.int (0 : Int32)), .unset, .unset] [])) _
      refine XS.iload X56.here hx rfl (hb hby at_178) rfl ?_
      show Steps p.tables e below (T56.setTop (mkF m 180 #[.val (.int p1), .val (.int p2), .val (.int p3), .val (.int p4), .val (.int p5), .val (.int p6), .val (.int (1 : Int32)), .val (.int (own_most p1 p6)), .val (.int (own_vdr p2)), .val (.int (own_vdr p3)), .val (.int (own_vdr p4)), .val (.int (own_vdr p5)), .val (.ref b41), .val (.ref b49), .val (.int (0 : Int32)), .unset, .unset] [(.int (1 : Int32))])) _
      refine XS.iconst X56.here hx rfl (hb hby at_180) ?_
      show Steps p.tables e below (T56.setTop (mkF m 181 #[.val (.int p1), .val (.int p2), .val (.int p3), .val (.int p4), .val (.int p5), .val (.int p6), .val (.int (1 : Int32)), .val (.int (own_most p1 p6)), .val (.int (own_vdr p2)), .val (.int (own_vdr p3)), .val (.int (own_vdr p4)), .val (.int (own_vdr p5)), .val (.ref b41), .val (.ref b49), .val (.int (0 : Int32)), .unset, .unset] [(.int (2 : Int32)), (.int (1 : Int32))])) _
      refine XS.icmpYes X56.here hx rfl (pc0 := 181) (pc' := 206) rfl (hb hby at_181) rfl (tlt (by decide : (1 : Int32) < (2 : Int32))).1 (by decide) (by decide) ?_
      show Steps p.tables e below (T56.setTop (mkF m 206 #[.val (.int p1), .val (.int p2), .val (.int p3), .val (.int p4), .val (.int p5), .val (.int p6), .val (.int (1 : Int32)), .val (.int (own_most p1 p6)), .val (.int (own_vdr p2)), .val (.int (own_vdr p3)), .val (.int (own_vdr p4)), .val (.int (own_vdr p5)), .val (.ref b41), .val (.ref b49), .val (.int (0 : Int32)), .unset, .unset] [])) _
      refine XS.iload X56.here hx rfl (hb hby at_206) rfl ?_
      show Steps p.tables e below (T56.setTop (mkF m 208 #[.val (.int p1), .val (.int p2), .val (.int p3), .val (.int p4), .val (.int p5), .val (.int p6), .val (.int (1 : Int32)), .val (.int (own_most p1 p6)), .val (.int (own_vdr p2)), .val (.int (own_vdr p3)), .val (.int (own_vdr p4)), .val (.int (own_vdr p5)), .val (.ref b41), .val (.ref b49), .val (.int (0 : Int32)), .unset, .unset] [(.int (1 : Int32))])) _
      refine XS.iconst X56.here hx rfl (hb hby at_208) ?_
      show Steps p.tables e below (T56.setTop (mkF m 209 #[.val (.int p1), .val (.int p2), .val (.int p3), .val (.int p4), .val (.int p5), .val (.int p6), .val (.int (1 : Int32)), .val (.int (own_most p1 p6)), .val (.int (own_vdr p2)), .val (.int (own_vdr p3)), .val (.int (own_vdr p4)), .val (.int (own_vdr p5)), .val (.ref b41), .val (.ref b49), .val (.int (0 : Int32)), .unset, .unset] [(.int (3 : Int32)), (.int (1 : Int32))])) _
      refine XS.icmpYes X56.here hx rfl (pc0 := 209) (pc' := 234) rfl (hb hby at_209) rfl (tlt (by decide : (1 : Int32) < (3 : Int32))).1 (by decide) (by decide) ?_
      show Steps p.tables e below (T56.setTop (mkF m 234 #[.val (.int p1), .val (.int p2), .val (.int p3), .val (.int p4), .val (.int p5), .val (.int p6), .val (.int (1 : Int32)), .val (.int (own_most p1 p6)), .val (.int (own_vdr p2)), .val (.int (own_vdr p3)), .val (.int (own_vdr p4)), .val (.int (own_vdr p5)), .val (.ref b41), .val (.ref b49), .val (.int (0 : Int32)), .unset, .unset] [])) _
      refine XS.iload X56.here hx rfl (hb hby at_234) rfl ?_
      show Steps p.tables e below (T56.setTop (mkF m 236 #[.val (.int p1), .val (.int p2), .val (.int p3), .val (.int p4), .val (.int p5), .val (.int p6), .val (.int (1 : Int32)), .val (.int (own_most p1 p6)), .val (.int (own_vdr p2)), .val (.int (own_vdr p3)), .val (.int (own_vdr p4)), .val (.int (own_vdr p5)), .val (.ref b41), .val (.ref b49), .val (.int (0 : Int32)), .unset, .unset] [(.int (1 : Int32))])) _
      refine XS.iconst X56.here hx rfl (hb hby at_236) ?_
      show Steps p.tables e below (T56.setTop (mkF m 237 #[.val (.int p1), .val (.int p2), .val (.int p3), .val (.int p4), .val (.int p5), .val (.int p6), .val (.int (1 : Int32)), .val (.int (own_most p1 p6)), .val (.int (own_vdr p2)), .val (.int (own_vdr p3)), .val (.int (own_vdr p4)), .val (.int (own_vdr p5)), .val (.ref b41), .val (.ref b49), .val (.int (0 : Int32)), .unset, .unset] [(.int (4 : Int32)), (.int (1 : Int32))])) _
      refine XS.icmpYes X56.here hx rfl (pc0 := 237) (pc' := 262) rfl (hb hby at_237) rfl (tlt (by decide : (1 : Int32) < (4 : Int32))).1 (by decide) (by decide) ?_
      show Steps p.tables e below (T56.setTop (mkF m 262 #[.val (.int p1), .val (.int p2), .val (.int p3), .val (.int p4), .val (.int p5), .val (.int p6), .val (.int (1 : Int32)), .val (.int (own_most p1 p6)), .val (.int (own_vdr p2)), .val (.int (own_vdr p3)), .val (.int (own_vdr p4)), .val (.int (own_vdr p5)), .val (.ref b41), .val (.ref b49), .val (.int (0 : Int32)), .unset, .unset] [])) _
      refine XS.iload X56.here hx rfl (hb hby at_262) rfl ?_
      show Steps p.tables e below (T56.setTop (mkF m 264 #[.val (.int p1), .val (.int p2), .val (.int p3), .val (.int p4), .val (.int p5), .val (.int p6), .val (.int (1 : Int32)), .val (.int (own_most p1 p6)), .val (.int (own_vdr p2)), .val (.int (own_vdr p3)), .val (.int (own_vdr p4)), .val (.int (own_vdr p5)), .val (.ref b41), .val (.ref b49), .val (.int (0 : Int32)), .unset, .unset] [(.int (1 : Int32))])) _
      refine XS.iload X56.here hx rfl (hb hby at_264) rfl ?_
      show Steps p.tables e below (T56.setTop (mkF m 266 #[.val (.int p1), .val (.int p2), .val (.int p3), .val (.int p4), .val (.int p5), .val (.int p6), .val (.int (1 : Int32)), .val (.int (own_most p1 p6)), .val (.int (own_vdr p2)), .val (.int (own_vdr p3)), .val (.int (own_vdr p4)), .val (.int (own_vdr p5)), .val (.ref b41), .val (.ref b49), .val (.int (0 : Int32)), .unset, .unset] [(.int (0 : Int32)), (.int (1 : Int32))])) _
      refine XS.isub X56.here hx rfl (hb hby at_266) rfl ?_
      show Steps p.tables e below (T56.setTop (mkF m 267 #[.val (.int p1), .val (.int p2), .val (.int p3), .val (.int p4), .val (.int p5), .val (.int p6), .val (.int (1 : Int32)), .val (.int (own_most p1 p6)), .val (.int (own_vdr p2)), .val (.int (own_vdr p3)), .val (.int (own_vdr p4)), .val (.int (own_vdr p5)), .val (.ref b41), .val (.ref b49), .val (.int (0 : Int32)), .unset, .unset] [(.int (1 : Int32))])) _
      refine XS.istore X56.here hx rfl (hb hby at_267) rfl (l' := #[.val (.int p1), .val (.int p2), .val (.int p3), .val (.int p4), .val (.int p5), .val (.int p6), .val (.int (1 : Int32)), .val (.int (own_most p1 p6)), .val (.int (own_vdr p2)), .val (.int (own_vdr p3)), .val (.int (own_vdr p4)), .val (.int (own_vdr p5)), .val (.ref b41), .val (.ref b49), .val (.int (0 : Int32)), .val (.int (1 : Int32)), .unset]) rfl ?_
      exact k
    have k61 : ∀ t, Steps p.tables e below (T56.setTop (mkF m 289 #[.val (.int p1), .val (.int p2), .val (.int p3), .val (.int p4), .val (.int p5), .val (.int p6), .val (.int (1 : Int32)), .val (.int (own_most p1 p6)), .val (.int (own_vdr p2)), .val (.int (own_vdr p3)), .val (.int (own_vdr p4)), .val (.int (own_vdr p5)), .val (.ref b41), .val (.ref b49), .val (.int (0 : Int32)), .val (.int (1 : Int32)), .val (.int (own_ex1 p1 p6))] [])) t → Steps p.tables e below (s₁.setTop (entryFrame m #[(.int p1), (.int p2), (.int p3), (.int p4), (.int p5), (.int p6)] maxLocals)) t := by
      intro t k
      refine k60 t ?_
      show Steps p.tables e below (T56.setTop (mkF m 269 #[.val (.int p1), .val (.int p2), .val (.int p3), .val (.int p4), .val (.int p5), .val (.int p6), .val (.int (1 : Int32)), .val (.int (own_most p1 p6)), .val (.int (own_vdr p2)), .val (.int (own_vdr p3)), .val (.int (own_vdr p4)), .val (.int (own_vdr p5)), .val (.ref b41), .val (.ref b49), .val (.int (0 : Int32)), .val (.int (1 : Int32)), .unset] [])) _
      refine XS.iload X56.here hx rfl (hb hby at_269) rfl ?_
      show Steps p.tables e below (T56.setTop (mkF m 271 #[.val (.int p1), .val (.int p2), .val (.int p3), .val (.int p4), .val (.int p5), .val (.int p6), .val (.int (1 : Int32)), .val (.int (own_most p1 p6)), .val (.int (own_vdr p2)), .val (.int (own_vdr p3)), .val (.int (own_vdr p4)), .val (.int (own_vdr p5)), .val (.ref b41), .val (.ref b49), .val (.int (0 : Int32)), .val (.int (1 : Int32)), .unset] [(.int (1 : Int32))])) _
      refine XS.iconst X56.here hx rfl (hb hby at_271) ?_
      show Steps p.tables e below (T56.setTop (mkF m 272 #[.val (.int p1), .val (.int p2), .val (.int p3), .val (.int p4), .val (.int p5), .val (.int p6), .val (.int (1 : Int32)), .val (.int (own_most p1 p6)), .val (.int (own_vdr p2)), .val (.int (own_vdr p3)), .val (.int (own_vdr p4)), .val (.int (own_vdr p5)), .val (.ref b41), .val (.ref b49), .val (.int (0 : Int32)), .val (.int (1 : Int32)), .unset] [(.int (1 : Int32)), (.int (1 : Int32))])) _
      refine XS.icmpNo X56.here hx rfl (hb hby at_272) rfl (flt (Int32.lt_irrefl : ¬ ((1 : Int32) < (1 : Int32)))).1 ?_
      show Steps p.tables e below (T56.setTop (mkF m 275 #[.val (.int p1), .val (.int p2), .val (.int p3), .val (.int p4), .val (.int p5), .val (.int p6), .val (.int (1 : Int32)), .val (.int (own_most p1 p6)), .val (.int (own_vdr p2)), .val (.int (own_vdr p3)), .val (.int (own_vdr p4)), .val (.int (own_vdr p5)), .val (.ref b41), .val (.ref b49), .val (.int (0 : Int32)), .val (.int (1 : Int32)), .unset] [])) _
      refine XS.iload X56.here hx rfl (hb hby at_275) rfl ?_
      show Steps p.tables e below (T56.setTop (mkF m 277 #[.val (.int p1), .val (.int p2), .val (.int p3), .val (.int p4), .val (.int p5), .val (.int p6), .val (.int (1 : Int32)), .val (.int (own_most p1 p6)), .val (.int (own_vdr p2)), .val (.int (own_vdr p3)), .val (.int (own_vdr p4)), .val (.int (own_vdr p5)), .val (.ref b41), .val (.ref b49), .val (.int (0 : Int32)), .val (.int (1 : Int32)), .unset] [(.int (1 : Int32))])) _
      refine XS.iload X56.here hx rfl (hb hby at_277) rfl ?_
      by_cases hc279_62 : (own_most p1 p6) < (1 : Int32)
      · show Steps p.tables e below (T56.setTop (mkF m 279 #[.val (.int p1), .val (.int p2), .val (.int p3), .val (.int p4), .val (.int p5), .val (.int p6), .val (.int (1 : Int32)), .val (.int (own_most p1 p6)), .val (.int (own_vdr p2)), .val (.int (own_vdr p3)), .val (.int (own_vdr p4)), .val (.int (own_vdr p5)), .val (.ref b41), .val (.ref b49), .val (.int (0 : Int32)), .val (.int (1 : Int32)), .unset] [(.int (own_most p1 p6)), (.int (1 : Int32))])) _
        refine XS.icmpYes X56.here hx rfl (pc0 := 279) (pc' := 286) rfl (hb hby at_279) rfl (tlt hc279_62).2.2.1 (by decide) (by decide) ?_
        show Steps p.tables e below (T56.setTop (mkF m 286 #[.val (.int p1), .val (.int p2), .val (.int p3), .val (.int p4), .val (.int p5), .val (.int p6), .val (.int (1 : Int32)), .val (.int (own_most p1 p6)), .val (.int (own_vdr p2)), .val (.int (own_vdr p3)), .val (.int (own_vdr p4)), .val (.int (own_vdr p5)), .val (.ref b41), .val (.ref b49), .val (.int (0 : Int32)), .val (.int (1 : Int32)), .unset] [])) _
        refine XS.iconst X56.here hx rfl (hb hby at_286) ?_
        show Steps p.tables e below (T56.setTop (mkF m 287 #[.val (.int p1), .val (.int p2), .val (.int p3), .val (.int p4), .val (.int p5), .val (.int p6), .val (.int (1 : Int32)), .val (.int (own_most p1 p6)), .val (.int (own_vdr p2)), .val (.int (own_vdr p3)), .val (.int (own_vdr p4)), .val (.int (own_vdr p5)), .val (.ref b41), .val (.ref b49), .val (.int (0 : Int32)), .val (.int (1 : Int32)), .unset] [(.int (0 : Int32))])) _
        refine XS.istore X56.here hx rfl (hb hby at_287) rfl (l' := #[.val (.int p1), .val (.int p2), .val (.int p3), .val (.int p4), .val (.int p5), .val (.int p6), .val (.int (1 : Int32)), .val (.int (own_most p1 p6)), .val (.int (own_vdr p2)), .val (.int (own_vdr p3)), .val (.int (own_vdr p4)), .val (.int (own_vdr p5)), .val (.ref b41), .val (.ref b49), .val (.int (0 : Int32)), .val (.int (1 : Int32)), .val (.int (0 : Int32))]) rfl ?_
        have q0 : (own_ex1 p1 p6) = (0 : Int32) := (if_pos hc279_62)
        rw [q0] at k
        exact k
      · show Steps p.tables e below (T56.setTop (mkF m 279 #[.val (.int p1), .val (.int p2), .val (.int p3), .val (.int p4), .val (.int p5), .val (.int p6), .val (.int (1 : Int32)), .val (.int (own_most p1 p6)), .val (.int (own_vdr p2)), .val (.int (own_vdr p3)), .val (.int (own_vdr p4)), .val (.int (own_vdr p5)), .val (.ref b41), .val (.ref b49), .val (.int (0 : Int32)), .val (.int (1 : Int32)), .unset] [(.int (own_most p1 p6)), (.int (1 : Int32))])) _
        refine XS.icmpNo X56.here hx rfl (hb hby at_279) rfl (flt hc279_62).2.2.1 ?_
        show Steps p.tables e below (T56.setTop (mkF m 282 #[.val (.int p1), .val (.int p2), .val (.int p3), .val (.int p4), .val (.int p5), .val (.int p6), .val (.int (1 : Int32)), .val (.int (own_most p1 p6)), .val (.int (own_vdr p2)), .val (.int (own_vdr p3)), .val (.int (own_vdr p4)), .val (.int (own_vdr p5)), .val (.ref b41), .val (.ref b49), .val (.int (0 : Int32)), .val (.int (1 : Int32)), .unset] [])) _
        refine XS.iconst X56.here hx rfl (hb hby at_282) ?_
        show Steps p.tables e below (T56.setTop (mkF m 283 #[.val (.int p1), .val (.int p2), .val (.int p3), .val (.int p4), .val (.int p5), .val (.int p6), .val (.int (1 : Int32)), .val (.int (own_most p1 p6)), .val (.int (own_vdr p2)), .val (.int (own_vdr p3)), .val (.int (own_vdr p4)), .val (.int (own_vdr p5)), .val (.ref b41), .val (.ref b49), .val (.int (0 : Int32)), .val (.int (1 : Int32)), .unset] [(.int (1 : Int32))])) _
        refine XS.goto X56.here hx rfl (pc0 := 283) (pc' := 287) rfl (hb hby at_283) (by decide) (by decide) ?_
        show Steps p.tables e below (T56.setTop (mkF m 287 #[.val (.int p1), .val (.int p2), .val (.int p3), .val (.int p4), .val (.int p5), .val (.int p6), .val (.int (1 : Int32)), .val (.int (own_most p1 p6)), .val (.int (own_vdr p2)), .val (.int (own_vdr p3)), .val (.int (own_vdr p4)), .val (.int (own_vdr p5)), .val (.ref b41), .val (.ref b49), .val (.int (0 : Int32)), .val (.int (1 : Int32)), .unset] [(.int (1 : Int32))])) _
        refine XS.istore X56.here hx rfl (hb hby at_287) rfl (l' := #[.val (.int p1), .val (.int p2), .val (.int p3), .val (.int p4), .val (.int p5), .val (.int p6), .val (.int (1 : Int32)), .val (.int (own_most p1 p6)), .val (.int (own_vdr p2)), .val (.int (own_vdr p3)), .val (.int (own_vdr p4)), .val (.int (own_vdr p5)), .val (.ref b41), .val (.ref b49), .val (.int (0 : Int32)), .val (.int (1 : Int32)), .val (.int (1 : Int32))]) rfl ?_
        have q0 : (own_ex1 p1 p6) = (1 : Int32) := (if_neg hc279_62)
        rw [q0] at k
        exact k
    have k63 : ∀ t, Steps p.tables e below (T56.setTop (mkF m 293 #[.val (.int p1), .val (.int p2), .val (.int p3), .val (.int p4), .val (.int p5), .val (.int p6), .val (.int (1 : Int32)), .val (.int (own_most p1 p6)), .val (.int (own_vdr p2)), .val (.int (own_vdr p3)), .val (.int (own_vdr p4)), .val (.int (own_vdr p5)), .val (.ref b41), .val (.ref b49), .val (.int (0 : Int32)), .val (.int (1 : Int32)), .val (.int (own_ex1 p1 p6))] [(.int (own_most p1 p6)), (.ref b49)])) t → Steps p.tables e below (s₁.setTop (entryFrame m #[(.int p1), (.int p2), (.int p3), (.int p4), (.int p5), (.int p6)] maxLocals)) t := by
      intro t k
      refine k61 t ?_
      show Steps p.tables e below (T56.setTop (mkF m 289 #[.val (.int p1), .val (.int p2), .val (.int p3), .val (.int p4), .val (.int p5), .val (.int p6), .val (.int (1 : Int32)), .val (.int (own_most p1 p6)), .val (.int (own_vdr p2)), .val (.int (own_vdr p3)), .val (.int (own_vdr p4)), .val (.int (own_vdr p5)), .val (.ref b41), .val (.ref b49), .val (.int (0 : Int32)), .val (.int (1 : Int32)), .val (.int (own_ex1 p1 p6))] [])) _
      refine XS.aload X56.here hx rfl (hb hby at_289) rfl rfl ?_
      show Steps p.tables e below (T56.setTop (mkF m 291 #[.val (.int p1), .val (.int p2), .val (.int p3), .val (.int p4), .val (.int p5), .val (.int p6), .val (.int (1 : Int32)), .val (.int (own_most p1 p6)), .val (.int (own_vdr p2)), .val (.int (own_vdr p3)), .val (.int (own_vdr p4)), .val (.int (own_vdr p5)), .val (.ref b41), .val (.ref b49), .val (.int (0 : Int32)), .val (.int (1 : Int32)), .val (.int (own_ex1 p1 p6))] [(.ref b49)])) _
      refine XS.iload X56.here hx rfl (hb hby at_291) rfl ?_
      exact k
    obtain ⟨_, _, ⟨T64, L64, k64c, n64⟩, -, X64, ⟨Lc64, hQ64, l64, y64, z64⟩, st64⟩ := Jvm.LawKit.callS X56 hx (y := (⟨"com/example/daftar/daftar/model/Characters", "isOneTo", "(Ljava/lang/String;I)Z"⟩ : MethodName)) hown (mvT hZ (hw _ (List.mem_of_getElem? (i := 29) rfl))) (mvT hZ (hw _ (List.mem_of_getElem? (i := 30) rfl))) (mvT hZ (hw _ (List.mem_of_getElem? (i := 31) rfl))) (mvT hZ (hw _ (List.mem_of_getElem? (i := 32) rfl))) (by decide) (backOf (W := 0) (own_rmio l Z a0 hw [] b49 (own_most p1 p6) 1 0 (own_of [ (own_vdr p2) ]) cs T56.heap n0 Z56 f58 fq56_0 Xo56 SC SA SH SL hcs) hZ (hw _ (List.mem_of_getElem? (i := 32) rfl)) (hw _ (List.mem_of_getElem? (i := 31) rfl)) (by decide) (by decide)) (g := (mkF m 293 #[.val (.int p1), .val (.int p2), .val (.int p3), .val (.int p4), .val (.int p5), .val (.int p6), .val (.int (1 : Int32)), .val (.int (own_most p1 p6)), .val (.int (own_vdr p2)), .val (.int (own_vdr p3)), .val (.int (own_vdr p4)), .val (.int (own_vdr p5)), .val (.ref b41), .val (.ref b49), .val (.int (0 : Int32)), .val (.int (1 : Int32)), .val (.int (own_ex1 p1 p6))] [(.int (own_most p1 p6)), (.ref b49)])) rfl (by rw [hml]; rfl) (argsL := [(.ref b49), (.int (own_most p1 p6))]) (rest := []) (lenOf own_pd19 rfl) rfl (by show 2 * 0 + _ ≤ _; exact Nat.le_of_eq rfl) (hb hby at_293) (fun _ _ => ⟨rfl, rfl, (by decide : 4 + 0 ≤ _), (by decide : 17 + 0 ≤ _)⟩)
    dsimp only [Pt.U, Pt.locs, Pt.cells, Pt.slots] at X64 l64 y64 z64 st64 hQ64
    subst l64 y64 z64
    obtain ⟨r_64, rfl, N64q, e64, hq64_hr⟩ := hQ64
    have N64 := Fr.app N56 N64q
    have k65 : ∀ t, Steps p.tables e below (T64.setTop (mkF m 296 #[.val (.int p1), .val (.int p2), .val (.int p3), .val (.int p4), .val (.int p5), .val (.int p6), .val (.int (1 : Int32)), .val (.int (own_most p1 p6)), .val (.int (own_vdr p2)), .val (.int (own_vdr p3)), .val (.int (own_vdr p4)), .val (.int (own_vdr p5)), .val (.ref b41), .val (.ref b49), .val (.int (0 : Int32)), .val (.int (1 : Int32)), .val (.int (own_ex1 p1 p6))] [(.int r_64)])) t → Steps p.tables e below (s₁.setTop (entryFrame m #[(.int p1), (.int p2), (.int p3), (.int p4), (.int p5), (.int p6)] maxLocals)) t := fun t k => k63 t (st64 t k)
    have k66 : ∀ t, Steps p.tables e below (T64.setTop (mkF m 306 #[.val (.int p1), .val (.int p2), .val (.int p3), .val (.int p4), .val (.int p5), .val (.int p6), .val (.int (1 : Int32)), .val (.int (own_most p1 p6)), .val (.int (own_vdr p2)), .val (.int (own_vdr p3)), .val (.int (own_vdr p4)), .val (.int (own_vdr p5)), .val (.ref b41), .val (.ref b49), .val (.int (0 : Int32)), .val (.int (1 : Int32)), .val (.int (own_ex1 p1 p6))] [(.int (1 : Int32))])) t → Steps p.tables e below (s₁.setTop (entryFrame m #[(.int p1), (.int p2), (.int p3), (.int p4), (.int p5), (.int p6)] maxLocals)) t := by
      intro t k
      refine k65 t ?_
      show Steps p.tables e below (T64.setTop (mkF m 296 #[.val (.int p1), .val (.int p2), .val (.int p3), .val (.int p4), .val (.int p5), .val (.int p6), .val (.int (1 : Int32)), .val (.int (own_most p1 p6)), .val (.int (own_vdr p2)), .val (.int (own_vdr p3)), .val (.int (own_vdr p4)), .val (.int (own_vdr p5)), .val (.ref b41), .val (.ref b49), .val (.int (0 : Int32)), .val (.int (1 : Int32)), .val (.int (own_ex1 p1 p6))] [(.int r_64)])) _
      refine XS.iload X64.here hx rfl (hb hby at_296) rfl ?_
      show Steps p.tables e below (T64.setTop (mkF m 298 #[.val (.int p1), .val (.int p2), .val (.int p3), .val (.int p4), .val (.int p5), .val (.int p6), .val (.int (1 : Int32)), .val (.int (own_most p1 p6)), .val (.int (own_vdr p2)), .val (.int (own_vdr p3)), .val (.int (own_vdr p4)), .val (.int (own_vdr p5)), .val (.ref b41), .val (.ref b49), .val (.int (0 : Int32)), .val (.int (1 : Int32)), .val (.int (own_ex1 p1 p6))] [(.int (own_ex1 p1 p6)), (.int r_64)])) _
      refine XS.icmpNo X64.here hx rfl (hb hby at_298) rfl (teq (own_fin1 p1 p2 p3 p4 p5 p6 hq64_hr)).2 ?_
      show Steps p.tables e below (T64.setTop (mkF m 301 #[.val (.int p1), .val (.int p2), .val (.int p3), .val (.int p4), .val (.int p5), .val (.int p6), .val (.int (1 : Int32)), .val (.int (own_most p1 p6)), .val (.int (own_vdr p2)), .val (.int (own_vdr p3)), .val (.int (own_vdr p4)), .val (.int (own_vdr p5)), .val (.ref b41), .val (.ref b49), .val (.int (0 : Int32)), .val (.int (1 : Int32)), .val (.int (own_ex1 p1 p6))] [])) _
      refine XS.iconst X64.here hx rfl (hb hby at_301) ?_
      show Steps p.tables e below (T64.setTop (mkF m 302 #[.val (.int p1), .val (.int p2), .val (.int p3), .val (.int p4), .val (.int p5), .val (.int p6), .val (.int (1 : Int32)), .val (.int (own_most p1 p6)), .val (.int (own_vdr p2)), .val (.int (own_vdr p3)), .val (.int (own_vdr p4)), .val (.int (own_vdr p5)), .val (.ref b41), .val (.ref b49), .val (.int (0 : Int32)), .val (.int (1 : Int32)), .val (.int (own_ex1 p1 p6))] [(.int (1 : Int32))])) _
      refine XS.goto X64.here hx rfl (pc0 := 302) (pc' := 306) rfl (hb hby at_302) (by decide) (by decide) ?_
      exact k
    obtain ⟨fs, hr, hrun, hended, hW, hsame⟩ := X64.leave (v := (some (.int (1 : Int32)))) (fun h => by rw [Bd.returns] at h; cases h)
    refine ⟨_, _, k66 _ ?_, hrun, hended, _, _, rfl, ?_, ⟨_, rfl⟩, hW.wide, hW.no_new_pair _, hsame.mono (by decide) (by decide)⟩
    · exact retN X64 hx (t := .boolean) Bd.returns (by simp) (hb hby at_306) hr
    · exact ⟨rfl, N64⟩
  · have k67 : ∀ t, Steps p.tables e below (T14.setTop (mkF m 54 #[.val (.int p1), .val (.int p2), .val (.int p3), .val (.int p4), .val (.int p5), .val (.int p6), .val (.int (2 : Int32)), .val (.int (own_most p1 p6)), .val (.int (own_vdr p2)), .val (.int (own_vdr p3)), .val (.int (own_vdr p4)), .val (.int (own_vdr p5)), .unset, .unset, .unset, .unset, .unset] [])) t → Steps p.tables e below (s₁.setTop (entryFrame m #[(.int p1), (.int p2), (.int p3), (.int p4), (.int p5), (.int p6)] maxLocals)) t := by have z := k16; rw [he] at z; exact z
    have k68 : ∀ t, Steps p.tables e below (T14.setTop (mkF m 93 #[.val (.int p1), .val (.int p2), .val (.int p3), .val (.int p4), .val (.int p5), .val (.int p6), .val (.int (2 : Int32)), .val (.int (own_most p1 p6)), .val (.int (own_vdr p2)), .val (.int (own_vdr p3)), .val (.int (own_vdr p4)), .val (.int (own_vdr p5)), .unset, .unset, .unset, .unset, .unset] [(.int (2 : Int32))])) t → Steps p.tables e below (s₁.setTop (entryFrame m #[(.int p1), (.int p2), (.int p3), (.int p4), (.int p5), (.int p6)] maxLocals)) t := by
      intro t k
      refine k67 t ?_
      show Steps p.tables e below (T14.setTop (mkF m 54 #[.val (.int p1), .val (.int p2), .val (.int p3), .val (.int p4), .val (.int p5), .val (.int p6), .val (.int (2 : Int32)), .val (.int (own_most p1 p6)), .val (.int (own_vdr p2)), .val (.int (own_vdr p3)), .val (.int (own_vdr p4)), .val (.int (own_vdr p5)), .unset, .unset, .unset, .unset, .unset] [])) _
      refine XS.iload X14.here hx rfl (hb hby at_54) rfl ?_
      show Steps p.tables e below (T14.setTop (mkF m 56 #[.val (.int p1), .val (.int p2), .val (.int p3), .val (.int p4), .val (.int p5), .val (.int p6), .val (.int (2 : Int32)), .val (.int (own_most p1 p6)), .val (.int (own_vdr p2)), .val (.int (own_vdr p3)), .val (.int (own_vdr p4)), .val (.int (own_vdr p5)), .unset, .unset, .unset, .unset, .unset] [(.int (2 : Int32))])) _
      refine XS.ifYes X14.here hx rfl (pc0 := 56) (pc' := 67) rfl (hb hby at_56) rfl ((if0 _ _).trans (feq (by decide : ¬ ((2 : Int32) = (0 : Int32)))).2) (by decide) (by decide) ?_
      show Steps p.tables e below (T14.setTop (mkF m 67 #[.val (.int p1), .val (.int p2), .val (.int p3), .val (.int p4), .val (.int p5), .val (.int p6), .val (.int (2 : Int32)), .val (.int (own_most p1 p6)), .val (.int (own_vdr p2)), .val (.int (own_vdr p3)), .val (.int (own_vdr p4)), .val (.int (own_vdr p5)), .unset, .unset, .unset, .unset, .unset] [])) _
      refine XS.iload X14.here hx rfl (hb hby at_67) rfl ?_
      show Steps p.tables e below (T14.setTop (mkF m 69 #[.val (.int p1), .val (.int p2), .val (.int p3), .val (.int p4), .val (.int p5), .val (.int p6), .val (.int (2 : Int32)), .val (.int (own_most p1 p6)), .val (.int (own_vdr p2)), .val (.int (own_vdr p3)), .val (.int (own_vdr p4)), .val (.int (own_vdr p5)), .unset, .unset, .unset, .unset, .unset] [(.int (2 : Int32))])) _
      refine XS.iconst X14.here hx rfl (hb hby at_69) ?_
      show Steps p.tables e below (T14.setTop (mkF m 70 #[.val (.int p1), .val (.int p2), .val (.int p3), .val (.int p4), .val (.int p5), .val (.int p6), .val (.int (2 : Int32)), .val (.int (own_most p1 p6)), .val (.int (own_vdr p2)), .val (.int (own_vdr p3)), .val (.int (own_vdr p4)), .val (.int (own_vdr p5)), .unset, .unset, .unset, .unset, .unset] [(.int (1 : Int32)), (.int (2 : Int32))])) _
      refine XS.icmpYes X14.here hx rfl (pc0 := 70) (pc' := 86) rfl (hb hby at_70) rfl (feq (by decide : ¬ ((2 : Int32) = (1 : Int32)))).2 (by decide) (by decide) ?_
      show Steps p.tables e below (T14.setTop (mkF m 86 #[.val (.int p1), .val (.int p2), .val (.int p3), .val (.int p4), .val (.int p5), .val (.int p6), .val (.int (2 : Int32)), .val (.int (own_most p1 p6)), .val (.int (own_vdr p2)), .val (.int (own_vdr p3)), .val (.int (own_vdr p4)), .val (.int (own_vdr p5)), .unset, .unset, .unset, .unset, .unset] [])) _
      refine XS.iload X14.here hx rfl (hb hby at_86) rfl ?_
      show Steps p.tables e below (T14.setTop (mkF m 88 #[.val (.int p1), .val (.int p2), .val (.int p3), .val (.int p4), .val (.int p5), .val (.int p6), .val (.int (2 : Int32)), .val (.int (own_most p1 p6)), .val (.int (own_vdr p2)), .val (.int (own_vdr p3)), .val (.int (own_vdr p4)), .val (.int (own_vdr p5)), .unset, .unset, .unset, .unset, .unset] [(.int (2 : Int32))])) _
      refine XS.iconst X14.here hx rfl (hb hby at_88) ?_
      show Steps p.tables e below (T14.setTop (mkF m 89 #[.val (.int p1), .val (.int p2), .val (.int p3), .val (.int p4), .val (.int p5), .val (.int p6), .val (.int (2 : Int32)), .val (.int (own_most p1 p6)), .val (.int (own_vdr p2)), .val (.int (own_vdr p3)), .val (.int (own_vdr p4)), .val (.int (own_vdr p5)), .unset, .unset, .unset, .unset, .unset] [(.int (2 : Int32)), (.int (2 : Int32))])) _
      refine XS.icmpNo X14.here hx rfl (hb hby at_89) rfl (teq (rfl : (2 : Int32) = (2 : Int32))).2 ?_
      show Steps p.tables e below (T14.setTop (mkF m 92 #[.val (.int p1), .val (.int p2), .val (.int p3), .val (.int p4), .val (.int p5), .val (.int p6), .val (.int (2 : Int32)), .val (.int (own_most p1 p6)), .val (.int (own_vdr p2)), .val (.int (own_vdr p3)), .val (.int (own_vdr p4)), .val (.int (own_vdr p5)), .unset, .unset, .unset, .unset, .unset] [])) _
      refine XS.iconst X14.here hx rfl (hb hby at_92) ?_
      exact k
    obtain ⟨T69, h69, c69, X69, e69, E69, A69, st69⟩ := newP X14 hx hZ (hw _ (List.mem_of_getElem? (i := 7) rfl)) e14 (g := (mkF m 93 #[.val (.int p1), .val (.int p2), .val (.int p3), .val (.int p4), .val (.int p5), .val (.int p6), .val (.int (2 : Int32)), .val (.int (own_most p1 p6)), .val (.int (own_vdr p2)), .val (.int (own_vdr p3)), .val (.int (own_vdr p4)), .val (.int (own_vdr p5)), .unset, .unset, .unset, .unset, .unset] [(.int (2 : Int32))])) rfl (hb hby at_93) rfl (by decide) (cap := 2) (by decide) (by decide) (by decide) (by decide)
    obtain ⟨b69, g69⟩ : ∃ z, z = h0.size := ⟨_, rfl⟩
    rw [← g69] at A69 st69
    have ge69 : n0 ≤ b69 := Nat.le_trans Z0 (Nat.le_of_eq g69.symm)
    have bo69 : h0.size ≤ b69 := Nat.le_trans (Keep.refl h0 []).1 (Nat.le_of_eq g69.symm)
    have Z69 : n0 ≤ h69.size := Nat.le_trans Z0 E69.1
    have K69 : Keep h0 h69 [] := (Keep.refl h0 []).ext E69
    have Xo69 := Xo.ext E69
    have V69 : Arv Z h69 b69 c69 .char (2 : Int32) [(.int (0 : Int32)), (.int (0 : Int32))] (.int (0 : Int32)) := (Arv.new A69 (by decide)).pad (pad_rep [] (.int (0 : Int32)) 2)
    have k70 : ∀ t, Steps p.tables e below (T69.setTop (mkF m 95 #[.val (.int p1), .val (.int p2), .val (.int p3), .val (.int p4), .val (.int p5), .val (.int p6), .val (.int (2 : Int32)), .val (.int (own_most p1 p6)), .val (.int (own_vdr p2)), .val (.int (own_vdr p3)), .val (.int (own_vdr p4)), .val (.int (own_vdr p5)), .unset, .unset, .unset, .unset, .unset] [(.ref b69)])) t → Steps p.tables e below (s₁.setTop (entryFrame m #[(.int p1), (.int p2), (.int p3), (.int p4), (.int p5), (.int p6)] maxLocals)) t := fun t k => k68 t (st69 t k)
    have k71 : ∀ t, Steps p.tables e below (T69.setTop (mkF m 99 #[.val (.int p1), .val (.int p2), .val (.int p3), .val (.int p4), .val (.int p5), .val (.int p6), .val (.int (2 : Int32)), .val (.int (own_most p1 p6)), .val (.int (own_vdr p2)), .val (.int (own_vdr p3)), .val (.int (own_vdr p4)), .val (.int (own_vdr p5)), .unset, .unset, .unset, .unset, .unset] [(.int (own_vdr p2)), (.int (0 : Int32)), (.ref b69), (.ref b69)])) t → Steps p.tables e below (s₁.setTop (entryFrame m #[(.int p1), (.int p2), (.int p3), (.int p4), (.int p5), (.int p6)] maxLocals)) t := by
      intro t k
      refine k70 t ?_
      show Steps p.tables e below (T69.setTop (mkF m 95 #[.val (.int p1), .val (.int p2), .val (.int p3), .val (.int p4), .val (.int p5), .val (.int p6), .val (.int (2 : Int32)), .val (.int (own_most p1 p6)), .val (.int (own_vdr p2)), .val (.int (own_vdr p3)), .val (.int (own_vdr p4)), .val (.int (own_vdr p5)), .unset, .unset, .unset, .unset, .unset] [(.ref b69)])) _
      refine XS.dup X69.here hx rfl (hb hby at_95) rfl rfl ?_
      show Steps p.tables e below (T69.setTop (mkF m 96 #[.val (.int p1), .val (.int p2), .val (.int p3), .val (.int p4), .val (.int p5), .val (.int p6), .val (.int (2 : Int32)), .val (.int (own_most p1 p6)), .val (.int (own_vdr p2)), .val (.int (own_vdr p3)), .val (.int (own_vdr p4)), .val (.int (own_vdr p5)), .unset, .unset, .unset, .unset, .unset] [(.ref b69), (.ref b69)])) _
      refine XS.iconst X69.here hx rfl (hb hby at_96) ?_
      show Steps p.tables e below (T69.setTop (mkF m 97 #[.val (.int p1), .val (.int p2), .val (.int p3), .val (.int p4), .val (.int p5), .val (.int p6), .val (.int (2 : Int32)), .val (.int (own_most p1 p6)), .val (.int (own_vdr p2)), .val (.int (own_vdr p3)), .val (.int (own_vdr p4)), .val (.int (own_vdr p5)), .unset, .unset, .unset, .unset, .unset] [(.int (0 : Int32)), (.ref b69), (.ref b69)])) _
      refine XS.iload X69.here hx rfl (hb hby at_97) rfl ?_
      exact k
    obtain ⟨cl72, Ar72, qa72, Sa72, Na72, Ha72, Ga72⟩ := id V69
    have hin73 : ¬ ((0 : Int32) < 0 ∨ cl72.slots.size ≤ ((0 : Int32)).toNatClampNeg) := inb_of Sa72 ⟨by decide, by decide⟩
    obtain ⟨T74, h74, X74, e74, W74, st74⟩ := stC X69 hx hZ e69 Ar72 (j := (0 : Int32)) hin73 (g := (mkF m 99 #[.val (.int p1), .val (.int p2), .val (.int p3), .val (.int p4), .val (.int p5), .val (.int p6), .val (.int (2 : Int32)), .val (.int (own_most p1 p6)), .val (.int (own_vdr p2)), .val (.int (own_vdr p3)), .val (.int (own_vdr p4)), .val (.int (own_vdr p5)), .unset, .unset, .unset, .unset, .unset] [(.int (own_vdr p2)), (.int (0 : Int32)), (.ref b69), (.ref b69)])) rfl rfl (hb hby at_99)
    have V74 : Arv Z h74 b69 c69 .char (2 : Int32) [(.int (nar .char (own_vdr p2))), (.int (0 : Int32))] (.int (0 : Int32)) := Arv.set Ar72 qa72 Sa72 Na72 Ha72 Ga72 (fits_nar_char _) W74 0 rfl (Nat.le_of_ble_eq_true rfl)
    have N74 := Fr.snoc X74 N14 ge69
    have K74 : Keep h0 h74 [] := K69.wr W74 (Or.inr bo69)
    have Z74 : n0 ≤ h74.size := Nat.le_trans Z69 (Keep.of_wr W74).1
    have Xo74 := Xo69.wr W74 ge69
    have k75 : ∀ t, Steps p.tables e below (T74.setTop (mkF m 100 #[.val (.int p1), .val (.int p2), .val (.int p3), .val (.int p4), .val (.int p5), .val (.int p6), .val (.int (2 : Int32)), .val (.int (own_most p1 p6)), .val (.int (own_vdr p2)), .val (.int (own_vdr p3)), .val (.int (own_vdr p4)), .val (.int (own_vdr p5)), .unset, .unset, .unset, .unset, .unset] [(.ref b69)])) t → Steps p.tables e below (s₁.setTop (entryFrame m #[(.int p1), (.int p2), (.int p3), (.int p4), (.int p5), (.int p6)] maxLocals)) t := fun t k => k71 t (st74 t k)
    have k76 : ∀ t, Steps p.tables e below (T74.setTop (mkF m 104 #[.val (.int p1), .val (.int p2), .val (.int p3), .val (.int p4), .val (.int p5), .val (.int p6), .val (.int (2 : Int32)), .val (.int (own_most p1 p6)), .val (.int (own_vdr p2)), .val (.int (own_vdr p3)), .val (.int (own_vdr p4)), .val (.int (own_vdr p5)), .unset, .unset, .unset, .unset, .unset] [(.int (own_vdr p3)), (.int (1 : Int32)), (.ref b69), (.ref b69)])) t → Steps p.tables e below (s₁.setTop (entryFrame m #[(.int p1), (.int p2), (.int p3), (.int p4), (.int p5), (.int p6)] maxLocals)) t := by
      intro t k
      refine k75 t ?_
      show Steps p.tables e below (T74.setTop (mkF m 100 #[.val (.int p1), .val (.int p2), .val (.int p3), .val (.int p4), .val (.int p5), .val (.int p6), .val (.int (2 : Int32)), .val (.int (own_most p1 p6)), .val (.int (own_vdr p2)), .val (.int (own_vdr p3)), .val (.int (own_vdr p4)), .val (.int (own_vdr p5)), .unset, .unset, .unset, .unset, .unset] [(.ref b69)])) _
      refine XS.dup X74.here hx rfl (hb hby at_100) rfl rfl ?_
      show Steps p.tables e below (T74.setTop (mkF m 101 #[.val (.int p1), .val (.int p2), .val (.int p3), .val (.int p4), .val (.int p5), .val (.int p6), .val (.int (2 : Int32)), .val (.int (own_most p1 p6)), .val (.int (own_vdr p2)), .val (.int (own_vdr p3)), .val (.int (own_vdr p4)), .val (.int (own_vdr p5)), .unset, .unset, .unset, .unset, .unset] [(.ref b69), (.ref b69)])) _
      refine XS.iconst X74.here hx rfl (hb hby at_101) ?_
      show Steps p.tables e below (T74.setTop (mkF m 102 #[.val (.int p1), .val (.int p2), .val (.int p3), .val (.int p4), .val (.int p5), .val (.int p6), .val (.int (2 : Int32)), .val (.int (own_most p1 p6)), .val (.int (own_vdr p2)), .val (.int (own_vdr p3)), .val (.int (own_vdr p4)), .val (.int (own_vdr p5)), .unset, .unset, .unset, .unset, .unset] [(.int (1 : Int32)), (.ref b69), (.ref b69)])) _
      refine XS.iload X74.here hx rfl (hb hby at_102) rfl ?_
      exact k
    obtain ⟨cl77, Ar77, qa77, Sa77, Na77, Ha77, Ga77⟩ := id V74
    have hin78 : ¬ ((1 : Int32) < 0 ∨ cl77.slots.size ≤ ((1 : Int32)).toNatClampNeg) := inb_of Sa77 ⟨by decide, by decide⟩
    obtain ⟨T79, h79, X79, e79, W79, st79⟩ := stC X74 hx hZ e74 Ar77 (j := (1 : Int32)) hin78 (g := (mkF m 104 #[.val (.int p1), .val (.int p2), .val (.int p3), .val (.int p4), .val (.int p5), .val (.int p6), .val (.int (2 : Int32)), .val (.int (own_most p1 p6)), .val (.int (own_vdr p2)), .val (.int (own_vdr p3)), .val (.int (own_vdr p4)), .val (.int (own_vdr p5)), .unset, .unset, .unset, .unset, .unset] [(.int (own_vdr p3)), (.int (1 : Int32)), (.ref b69), (.ref b69)])) rfl rfl (hb hby at_104)
    have V79 : Arv Z h79 b69 c69 .char (2 : Int32) [(.int (nar .char (own_vdr p2))), (.int (nar .char (own_vdr p3)))] (.int (0 : Int32)) := Arv.set Ar77 qa77 Sa77 Na77 Ha77 Ga77 (fits_nar_char _) W79 1 rfl (Nat.le_of_ble_eq_true rfl)
    have N79 := Fr.snoc X79 N74 ge69
    have K79 : Keep h0 h79 [] := K74.wr W79 (Or.inr bo69)
    have Z79 : n0 ≤ h79.size := Nat.le_trans Z74 (Keep.of_wr W79).1
    have Xo79 := Xo74.wr W79 ge69
    have k80 : ∀ t, Steps p.tables e below (T79.setTop (mkF m 105 #[.val (.int p1), .val (.int p2), .val (.int p3), .val (.int p4), .val (.int p5), .val (.int p6), .val (.int (2 : Int32)), .val (.int (own_most p1 p6)), .val (.int (own_vdr p2)), .val (.int (own_vdr p3)), .val (.int (own_vdr p4)), .val (.int (own_vdr p5)), .unset, .unset, .unset, .unset, .unset] [(.ref b69)])) t → Steps p.tables e below (s₁.setTop (entryFrame m #[(.int p1), (.int p2), (.int p3), (.int p4), (.int p5), (.int p6)] maxLocals)) t := fun t k => k76 t (st79 t k)
    have k81 : ∀ t, Steps p.tables e below (T79.setTop (mkF m 164 #[.val (.int p1), .val (.int p2), .val (.int p3), .val (.int p4), .val (.int p5), .val (.int p6), .val (.int (2 : Int32)), .val (.int (own_most p1 p6)), .val (.int (own_vdr p2)), .val (.int (own_vdr p3)), .val (.int (own_vdr p4)), .val (.int (own_vdr p5)), .val (.ref b69), .unset, .unset, .unset, .unset] [])) t → Steps p.tables e below (s₁.setTop (entryFrame m #[(.int p1), (.int p2), (.int p3), (.int p4), (.int p5), (.int p6)] maxLocals)) t := by
      intro t k
      refine k80 t ?_
      show Steps p.tables e below (T79.setTop (mkF m 105 #[.val (.int p1), .val (.int p2), .val (.int p3), .val (.int p4), .val (.int p5), .val (.int p6), .val (.int (2 : Int32)), .val (.int (own_most p1 p6)), .val (.int (own_vdr p2)), .val (.int (own_vdr p3)), .val (.int (own_vdr p4)), .val (.int (own_vdr p5)), .unset, .unset, .unset, .unset, .unset] [(.ref b69)])) _
      refine XS.astore X79.here hx rfl (hb hby at_105) rfl rfl (l' := #[.val (.int p1), .val (.int p2), .val (.int p3), .val (.int p4), .val (.int p5), .val (.int p6), .val (.int (2 : Int32)), .val (.int (own_most p1 p6)), .val (.int (own_vdr p2)), .val (.int (own_vdr p3)), .val (.int (own_vdr p4)), .val (.int (own_vdr p5)), .val (.ref b69), .unset, .unset, .unset, .unset]) rfl ?_
      show Steps p.tables e below (T79.setTop (mkF m 107 #[.val (.int p1), .val (.int p2), .val (.int p3), .val (.int p4), .val (.int p5), .val (.int p6), .val (.int (2 : Int32)), .val (.int (own_most p1 p6)), .val (.int (own_vdr p2)), .val (.int (own_vdr p3)), .val (.int (own_vdr p4)), .val (.int (own_vdr p5)), .val (.ref b69), .unset, .unset, .unset, .unset] [])) _
      refine XS.goto X79.here hx rfl (pc0 := 107) (pc' := 164) rfl (hb hby at_107) (by decide) (by decide) ?_
      exact k
    rw [own_drn p2, own_drn p3] at V79
    have GA2 : own_G Z h79 b69 .char 2 (own_of [(own_vdr p2), (own_vdr p3)]) := own_G.ofV (vs := [(own_vdr p2), (own_vdr p3)]) (n := 2) V79 rfl
    have hch : ∀ i, i < 2 → own_ch ((own_of [(own_vdr p2), (own_vdr p3)]) (0 + i)) := own_chL (vs := [(own_vdr p2), (own_vdr p3)]) (fun v hv => by simp only [List.mem_cons, List.not_mem_nil, or_false] at hv; rcases hv with rfl | rfl <;> exact own_drb _)
    obtain ⟨T82, h82, X82, e82, E82, A82, D82, -, st82⟩ := newO X79 hx hZ hown (hw _ (List.mem_of_getElem? (i := 8) rfl)) (hw _ (List.mem_of_getElem? (i := 9) rfl)) (hw _ (List.mem_of_getElem? (i := 10) rfl)) e79 (g := (mkF m 164 #[.val (.int p1), .val (.int p2), .val (.int p3), .val (.int p4), .val (.int p5), .val (.int p6), .val (.int (2 : Int32)), .val (.int (own_most p1 p6)), .val (.int (own_vdr p2)), .val (.int (own_vdr p3)), .val (.int (own_vdr p4)), .val (.int (own_vdr p5)), .val (.ref b69), .unset, .unset, .unset, .unset] [])) rfl (hb hby at_164) (by decide) (by decide)
    obtain ⟨b82, g82⟩ : ∃ z, z = h79.size := ⟨_, rfl⟩
    rw [← g82] at A82 D82 st82
    have ge82 : n0 ≤ b82 := Nat.le_trans Z79 (Nat.le_of_eq g82.symm)
    have bo82 : h0.size ≤ b82 := Nat.le_trans K79.1 (Nat.le_of_eq g82.symm)
    have ne83 : b69 ≠ b82 := Nat.ne_of_lt (Nat.lt_of_lt_of_le GA2.lt (Nat.le_of_eq g82.symm))
    have Z82 : n0 ≤ h82.size := Nat.le_trans Z79 E82.1
    have K82 : Keep h0 h82 [] := K79.ext E82
    have Xo82 := Xo79.ext E82
    have f84 := GA2.ext E82
    have f85 : Fld Z h82 b82 "java/lang/String" "value" "[B" .null := D82 (Or.inr (hw _ (List.mem_of_getElem? (i := 23) rfl))) (ty := (.array .byte)) (by decide)
    have f86 : Fld Z h82 b82 "java/lang/String" "coder" "B" (.int (0 : Int32)) := D82 (Or.inr (hw _ (List.mem_of_getElem? (i := 24) rfl))) (ty := .byte) (by decide)
    have k87 : ∀ t, Steps p.tables e below (T82.setTop (mkF m 167 #[.val (.int p1), .val (.int p2), .val (.int p3), .val (.int p4), .val (.int p5), .val (.int p6), .val (.int (2 : Int32)), .val (.int (own_most p1 p6)), .val (.int (own_vdr p2)), .val (.int (own_vdr p3)), .val (.int (own_vdr p4)), .val (.int (own_vdr p5)), .val (.ref b69), .unset, .unset, .unset, .unset] [(.ref b82)])) t → Steps p.tables e below (s₁.setTop (entryFrame m #[(.int p1), (.int p2), (.int p3), (.int p4), (.int p5), (.int p6)] maxLocals)) t := fun t k => k81 t (st82 t k)
    have k88 : ∀ t, Steps p.tables e below (T82.setTop (mkF m 170 #[.val (.int p1), .val (.int p2), .val (.int p3), .val (.int p4), .val (.int p5), .val (.int p6), .val (.int (2 : Int32)), .val (.int (own_most p1 p6)), .val (.int (own_vdr p2)), .val (.int (own_vdr p3)), .val (.int (own_vdr p4)), .val (.int (own_vdr p5)), .val (.ref b69), .unset, .unset, .unset, .unset] [(.ref b69), (.ref b82), (.ref b82)])) t → Steps p.tables e below (s₁.setTop (entryFrame m #[(.int p1), (.int p2), (.int p3), (.int p4), (.int p5), (.int p6)] maxLocals)) t := by
      intro t k
      refine k87 t ?_
      show Steps p.tables e below (T82.setTop (mkF m 167 #[.val (.int p1), .val (.int p2), .val (.int p3), .val (.int p4), .val (.int p5), .val (.int p6), .val (.int (2 : Int32)), .val (.int (own_most p1 p6)), .val (.int (own_vdr p2)), .val (.int (own_vdr p3)), .val (.int (own_vdr p4)), .val (.int (own_vdr p5)), .val (.ref b69), .unset, .unset, .unset, .unset] [(.ref b82)])) _
      refine XS.dup X82.here hx rfl (hb hby at_167) rfl rfl ?_
      show Steps p.tables e below (T82.setTop (mkF m 168 #[.val (.int p1), .val (.int p2), .val (.int p3), .val (.int p4), .val (.int p5), .val (.int p6), .val (.int (2 : Int32)), .val (.int (own_most p1 p6)), .val (.int (own_vdr p2)), .val (.int (own_vdr p3)), .val (.int (own_vdr p4)), .val (.int (own_vdr p5)), .val (.ref b69), .unset, .unset, .unset, .unset] [(.ref b82), (.ref b82)])) _
      refine XS.aload X82.here hx rfl (hb hby at_168) rfl rfl ?_
      exact k
    obtain ⟨_, _, ⟨T89, L89, k89c, n89⟩, -, X89, ⟨Lc89, hQ89, l89, y89, z89⟩, st89⟩ := X82.specialBack hx (y := (⟨"java/lang/String", "<init>", "([C)V"⟩ : MethodName)) rfl hown (mvT hZ (hw _ (List.mem_of_getElem? (i := 11) rfl))) (mvT hZ (hw _ (List.mem_of_getElem? (i := 12) rfl))) (mvT hZ (hw _ (List.mem_of_getElem? (i := 13) rfl))) (by decide) (backOf (W := 1) (own_rms1 l Z a0 hw [] b82 b69 .null (.int (0 : Int32)) 2 (own_of [ (own_vdr p2) , (own_vdr p3) ]) cs h82 n0 Z82 A82 f85 f86 f84 ge82 ne83 Xo82 SC SA SH SL hcs (by omega) (by omega) hch) hZ (hw _ (List.mem_of_getElem? (i := 13) rfl)) (hw _ (List.mem_of_getElem? (i := 10) rfl)) (by decide) (by decide)) (g := (mkF m 170 #[.val (.int p1), .val (.int p2), .val (.int p3), .val (.int p4), .val (.int p5), .val (.int p6), .val (.int (2 : Int32)), .val (.int (own_most p1 p6)), .val (.int (own_vdr p2)), .val (.int (own_vdr p3)), .val (.int (own_vdr p4)), .val (.int (own_vdr p5)), .val (.ref b69), .unset, .unset, .unset, .unset] [(.ref b69), (.ref b82), (.ref b82)])) rfl (by rw [hml]; rfl) (Steps.refl _) (a := b82) (argsL := [(.ref b69)]) (rest := [(.ref b82)]) (lenOf own_pd18 rfl) rfl (by show 2 * 0 + _ ≤ _; exact Nat.le_of_eq rfl) (hb hby at_170) (fun _ _ => ⟨rfl, e82, (by decide : 2 + 2 ≤ _), (by decide : 6 + 12 ≤ _)⟩)
    dsimp only [Pt.U, Pt.locs, Pt.cells, Pt.slots] at X89 l89 y89 z89 st89 hQ89
    subst l89 y89 z89
    obtain ⟨rfl, N89q, Kq89, fq89_0⟩ := hQ89
    have N89 := Fr.app N79 N89q
    have f90 := f84.keep Kq89 (List.not_mem_cons_of_ne_of_not_mem ne83 List.not_mem_nil)
    have f91 := A82.keep Kq89
    have Z89 : n0 ≤ T89.heap.size := Nat.le_trans Z82 Kq89.1
    have K89 : Keep h0 T89.heap [] := K82.trans Kq89 (fun x hx => by rcases List.mem_cons.mp hx with rfl | hx; exact Or.inr bo82; exact nomatch hx)
    have Xo89 := Xo82.keep Kq89 (allS ge82 all0)
    have k92 : ∀ t, Steps p.tables e below (T89.setTop (mkF m 173 #[.val (.int p1), .val (.int p2), .val (.int p3), .val (.int p4), .val (.int p5), .val (.int p6), .val (.int (2 : Int32)), .val (.int (own_most p1 p6)), .val (.int (own_vdr p2)), .val (.int (own_vdr p3)), .val (.int (own_vdr p4)), .val (.int (own_vdr p5)), .val (.ref b69), .unset, .unset, .unset, .unset] [(.ref b82)])) t → Steps p.tables e below (s₁.setTop (entryFrame m #[(.int p1), (.int p2), (.int p3), (.int p4), (.int p5), (.int p6)] maxLocals)) t := fun t k => k88 t (st89.trans k)
    have k93 : ∀ t, Steps p.tables e below (T89.setTop (mkF m 178 #[.val (.int p1), .val (.int p2), .val (.int p3), .val (.int p4), .val (.int p5), .val (.int p6), .val (.int (2 : Int32)), .val (.int (own_most p1 p6)), .val (.int (own_vdr p2)), .val (.int (own_vdr p3)), .val (.int (own_vdr p4)), .val (.int (own_vdr p5)), .val (.ref b69), .val (.ref b82), .val (.int (0 : Int32)), .unset, .unset] [])) t → Steps p.tables e below (s₁.setTop (entryFrame m #[(.int p1), (.int p2), (.int p3), (.int p4), (.int p5), (.int p6)] maxLocals)) t := by
      intro t k
      refine k92 t ?_
      show Steps p.tables e below (T89.setTop (mkF m 173 #[.val (.int p1), .val (.int p2), .val (.int p3), .val (.int p4), .val (.int p5), .val (.int p6), .val (.int (2 : Int32)), .val (.int (own_most p1 p6)), .val (.int (own_vdr p2)), .val (.int (own_vdr p3)), .val (.int (own_vdr p4)), .val (.int (own_vdr p5)), .val (.ref b69), .unset, .unset, .unset, .unset] [(.ref b82)])) _
      refine XS.astore X89.here hx rfl (hb hby at_173) rfl rfl (l' := #[.val (.int p1), .val (.int p2), .val (.int p3), .val (.int p4), .val (.int p5), .val (.int p6), .val (.int (2 : Int32)), .val (.int (own_most p1 p6)), .val (.int (own_vdr p2)), .val (.int (own_vdr p3)), .val (.int (own_vdr p4)), .val (.int (own_vdr p5)), .val (.ref b69), .val (.ref b82), .unset, .unset, .unset]) rfl ?_
      show Steps p.tables e below (T89.setTop (mkF m 175 #[.val (.int p1), .val (.int p2), .val (.int p3), .val (.int p4), .val (.int p5), .val (.int p6), .val (.int (2 : Int32)), .val (.int (own_most p1 p6)), .val (.int (own_vdr p2)), .val (.int (own_vdr p3)), .val (.int (own_vdr p4)), .val (.int (own_vdr p5)), .val (.ref b69), .val (.ref b82), .unset, .unset, .unset] [])) _
      refine XS.iconst X89.here hx rfl (hb hby at_175) ?_
      show Steps p.tables e below (T89.setTop (mkF m 176 #[.val (.int p1), .val (.int p2), .val (.int p3), .val (.int p4), .val (.int p5), .val (.int p6), .val (.int (2 : Int32)), .val (.int (own_most p1 p6)), .val (.int (own_vdr p2)), .val (.int (own_vdr p3)), .val (.int (own_vdr p4)), .val (.int (own_vdr p5)), .val (.ref b69), .val (.ref b82), .unset, .unset, .unset] [(.int (0 : Int32))])) _
      refine XS.istore X89.here hx rfl (hb hby at_176) rfl (l' := #[.val (.int p1), .val (.int p2), .val (.int p3), .val (.int p4), .val (.int p5), .val (.int p6), .val (.int (2 : Int32)), .val (.int (own_most p1 p6)), .val (.int (own_vdr p2)), .val (.int (own_vdr p3)), .val (.int (own_vdr p4)), .val (.int (own_vdr p5)), .val (.ref b69), .val (.ref b82), .val (.int (0 : Int32)), .unset, .unset]) rfl ?_
      exact k
    have sg94 : ∃ (T' : State) (L' : List Loc), Stand p l e room_1 s m #[(.int p1), (.int p2), (.int p3), (.int p4), (.int p5), (.int p6)] below meth c T' L' 4 18 ∧ T'.heap = T89.heap ∧ Fr n0 L' ∧ ∀ t, Steps p.tables e below (T'.setTop (mkF m 206 #[.val (.int p1), .val (.int p2), .val (.int p3), .val (.int p4), .val (.int p5), .val (.int p6), .val (.int (2 : Int32)), .val (.int (own_most p1 p6)), .val (.int (own_vdr p2)), .val (.int (own_vdr p3)), .val (.int (own_vdr p4)), .val (.int (own_vdr p5)), .val (.ref b69), .val (.ref b82), .val (.int (own_qa2 p2 p3)), .unset, .unset] [])) t → Steps p.tables e below (s₁.setTop (entryFrame m #[(.int p1), (.int p2), (.int p3), (.int p4), (.int p5), (.int p6)] maxLocals)) t := by
      have k95 : ∀ t, Steps p.tables e below (T89.setTop (mkF m 186 #[.val (.int p1), .val (.int p2), .val (.int p3), .val (.int p4), .val (.int p5), .val (.int p6), .val (.int (2 : Int32)), .val (.int (own_most p1 p6)), .val (.int (own_vdr p2)), .val (.int (own_vdr p3)), .val (.int (own_vdr p4)), .val (.int (own_vdr p5)), .val (.ref b69), .val (.ref b82), .val (.int (0 : Int32)), .unset, .unset] [(.int (own_vdr p2))])) t → Steps p.tables e below (s₁.setTop (entryFrame m #[(.int p1), (.int p2), (.int p3), (.int p4), (.int p5), (.int p6)] maxLocals)) t := by
        intro t k
        refine k93 t ?_
        show Steps p.tables e below (T89.setTop (mkF m 178 #[.val (.int p1), .val (.int p2), .val (.int p3), .val (.int p4), .val (.int p5), .val (.int p6), .val (.int (2 : Int32)), .val (.int (own_most p1 p6)), .val (.int (own_vdr p2)), .val (.int (own_vdr p3)), .val (.int (own_vdr p4)), .val (.int (own_vdr p5)), .val (.ref b69), .val (.ref b82), .val (.int (0 : Int32)), .unset, .unset] [])) _
        refine XS.iload X89.here hx rfl (hb hby at_178) rfl ?_
        show Steps p.tables e below (T89.setTop (mkF m 180 #[.val (.int p1), .val (.int p2), .val (.int p3), .val (.int p4), .val (.int p5), .val (.int p6), .val (.int (2 : Int32)), .val (.int (own_most p1 p6)), .val (.int (own_vdr p2)), .val (.int (own_vdr p3)), .val (.int (own_vdr p4)), .val (.int (own_vdr p5)), .val (.ref b69), .val (.ref b82), .val (.int (0 : Int32)), .unset, .unset] [(.int (2 : Int32))])) _
        refine XS.iconst X89.here hx rfl (hb hby at_180) ?_
        show Steps p.tables e below (T89.setTop (mkF m 181 #[.val (.int p1), .val (.int p2), .val (.int p3), .val (.int p4), .val (.int p5), .val (.int p6), .val (.int (2 : Int32)), .val (.int (own_most p1 p6)), .val (.int (own_vdr p2)), .val (.int (own_vdr p3)), .val (.int (own_vdr p4)), .val (.int (own_vdr p5)), .val (.ref b69), .val (.ref b82), .val (.int (0 : Int32)), .unset, .unset] [(.int (2 : Int32)), (.int (2 : Int32))])) _
        refine XS.icmpNo X89.here hx rfl (hb hby at_181) rfl (flt (Int32.lt_irrefl : ¬ ((2 : Int32) < (2 : Int32)))).1 ?_
        show Steps p.tables e below (T89.setTop (mkF m 184 #[.val (.int p1), .val (.int p2), .val (.int p3), .val (.int p4), .val (.int p5), .val (.int p6), .val (.int (2 : Int32)), .val (.int (own_most p1 p6)), .val (.int (own_vdr p2)), .val (.int (own_vdr p3)), .val (.int (own_vdr p4)), .val (.int (own_vdr p5)), .val (.ref b69), .val (.ref b82), .val (.int (0 : Int32)), .unset, .unset] [])) _
        refine XS.iload X89.here hx rfl (hb hby at_184) rfl ?_
        exact k
      obtain ⟨_, _, ⟨T96, L96, k96c, n96⟩, -, X96, ⟨Lc96, hQ96, l96, y96, z96⟩, st96⟩ := Jvm.LawKit.callS X89 hx (y := (⟨"com/example/daftar/daftar/model/CharactersIsOneToPinLaw", "hi", "(C)Z"⟩ : MethodName)) hown (mvT hZ (hw _ (List.mem_of_getElem? (i := 92) rfl))) (mvT hZ (hw _ (List.mem_of_getElem? (i := 93) rfl))) (mvT hZ (hw _ (List.mem_of_getElem? (i := 2) rfl))) (mvT hZ (hw _ (List.mem_of_getElem? (i := 94) rfl))) (by decide) (backOf (W := 0) (own_rmhi l Z a0 hw [] (own_vdr p2) T89.heap n0 Z89) hZ (hw _ (List.mem_of_getElem? (i := 94) rfl)) (hw _ (List.mem_of_getElem? (i := 2) rfl)) (by decide) (by decide)) (g := (mkF m 186 #[.val (.int p1), .val (.int p2), .val (.int p3), .val (.int p4), .val (.int p5), .val (.int p6), .val (.int (2 : Int32)), .val (.int (own_most p1 p6)), .val (.int (own_vdr p2)), .val (.int (own_vdr p3)), .val (.int (own_vdr p4)), .val (.int (own_vdr p5)), .val (.ref b69), .val (.ref b82), .val (.int (0 : Int32)), .unset, .unset] [(.int (own_vdr p2))])) rfl (by rw [hml]; rfl) (argsL := [(.int (own_vdr p2))]) (rest := []) (lenOf own_pd10 rfl) rfl (by show 2 * 0 + _ ≤ _; exact Nat.le_of_eq rfl) (hb hby at_186) (fun _ _ => ⟨rfl, rfl, (by decide : 4 + 0 ≤ _), (by decide : 18 + 0 ≤ _)⟩)
      dsimp only [Pt.U, Pt.locs, Pt.cells, Pt.slots] at X96 l96 y96 z96 st96 hQ96
      subst l96 y96 z96
      obtain ⟨rfl, N96q, e96⟩ := hQ96
      have N96 := Fr.app N89 N96q
      have k97 : ∀ t, Steps p.tables e below (T96.setTop (mkF m 189 #[.val (.int p1), .val (.int p2), .val (.int p3), .val (.int p4), .val (.int p5), .val (.int p6), .val (.int (2 : Int32)), .val (.int (own_most p1 p6)), .val (.int (own_vdr p2)), .val (.int (own_vdr p3)), .val (.int (own_vdr p4)), .val (.int (own_vdr p5)), .val (.ref b69), .val (.ref b82), .val (.int (0 : Int32)), .unset, .unset] [(.int (own_vhi (own_vdr p2)))])) t → Steps p.tables e below (s₁.setTop (entryFrame m #[(.int p1), (.int p2), (.int p3), (.int p4), (.int p5), (.int p6)] maxLocals)) t := fun t k => k95 t (st96 t k)
      by_cases hc189_98 : (own_vhi (own_vdr p2)) = (0 : Int32)
      · have k99 : ∀ t, Steps p.tables e below (T96.setTop (mkF m 206 #[.val (.int p1), .val (.int p2), .val (.int p3), .val (.int p4), .val (.int p5), .val (.int p6), .val (.int (2 : Int32)), .val (.int (own_most p1 p6)), .val (.int (own_vdr p2)), .val (.int (own_vdr p3)), .val (.int (own_vdr p4)), .val (.int (own_vdr p5)), .val (.ref b69), .val (.ref b82), .val (.int (0 : Int32)), .unset, .unset] [])) t → Steps p.tables e below (s₁.setTop (entryFrame m #[(.int p1), (.int p2), (.int p3), (.int p4), (.int p5), (.int p6)] maxLocals)) t := by
          intro t k
          refine k97 t ?_
          show Steps p.tables e below (T96.setTop (mkF m 189 #[.val (.int p1), .val (.int p2), .val (.int p3), .val (.int p4), .val (.int p5), .val (.int p6), .val (.int (2 : Int32)), .val (.int (own_most p1 p6)), .val (.int (own_vdr p2)), .val (.int (own_vdr p3)), .val (.int (own_vdr p4)), .val (.int (own_vdr p5)), .val (.ref b69), .val (.ref b82), .val (.int (0 : Int32)), .unset, .unset] [(.int (own_vhi (own_vdr p2)))])) _
          refine XS.ifYes X96.here hx rfl (pc0 := 189) (pc' := 206) rfl (hb hby at_189) rfl ((if0 _ _).trans (teq hc189_98).1) (by decide) (by decide) ?_
          exact k
        have q0 : (own_qa2 p2 p3) = (0 : Int32) := (if_pos hc189_98)
        exact ⟨_, _, X96, e96, N96, fun t k => k99 t (by rw [q0] at k; exact k)⟩
      · have k100 : ∀ t, Steps p.tables e below (T96.setTop (mkF m 194 #[.val (.int p1), .val (.int p2), .val (.int p3), .val (.int p4), .val (.int p5), .val (.int p6), .val (.int (2 : Int32)), .val (.int (own_most p1 p6)), .val (.int (own_vdr p2)), .val (.int (own_vdr p3)), .val (.int (own_vdr p4)), .val (.int (own_vdr p5)), .val (.ref b69), .val (.ref b82), .val (.int (0 : Int32)), .unset, .unset] [(.int (own_vdr p3))])) t → Steps p.tables e below (s₁.setTop (entryFrame m #[(.int p1), (.int p2), (.int p3), (.int p4), (.int p5), (.int p6)] maxLocals)) t := by
          intro t k
          refine k97 t ?_
          show Steps p.tables e below (T96.setTop (mkF m 189 #[.val (.int p1), .val (.int p2), .val (.int p3), .val (.int p4), .val (.int p5), .val (.int p6), .val (.int (2 : Int32)), .val (.int (own_most p1 p6)), .val (.int (own_vdr p2)), .val (.int (own_vdr p3)), .val (.int (own_vdr p4)), .val (.int (own_vdr p5)), .val (.ref b69), .val (.ref b82), .val (.int (0 : Int32)), .unset, .unset] [(.int (own_vhi (own_vdr p2)))])) _
          refine XS.ifNo X96.here hx rfl (hb hby at_189) rfl ((if0 _ _).trans (feq hc189_98).1) ?_
          show Steps p.tables e below (T96.setTop (mkF m 192 #[.val (.int p1), .val (.int p2), .val (.int p3), .val (.int p4), .val (.int p5), .val (.int p6), .val (.int (2 : Int32)), .val (.int (own_most p1 p6)), .val (.int (own_vdr p2)), .val (.int (own_vdr p3)), .val (.int (own_vdr p4)), .val (.int (own_vdr p5)), .val (.ref b69), .val (.ref b82), .val (.int (0 : Int32)), .unset, .unset] [])) _
          refine XS.iload X96.here hx rfl (hb hby at_192) rfl ?_
          exact k
        obtain ⟨_, _, ⟨T101, L101, k101c, n101⟩, -, X101, ⟨Lc101, hQ101, l101, y101, z101⟩, st101⟩ := Jvm.LawKit.callS X96 hx (y := (⟨"com/example/daftar/daftar/model/CharactersIsOneToPinLaw", "lo", "(C)Z"⟩ : MethodName)) hown (mvT hZ (hw _ (List.mem_of_getElem? (i := 108) rfl))) (mvT hZ (hw _ (List.mem_of_getElem? (i := 109) rfl))) (mvT hZ (hw _ (List.mem_of_getElem? (i := 2) rfl))) (mvT hZ (hw _ (List.mem_of_getElem? (i := 110) rfl))) (by decide) (backOf (W := 0) (own_rmlw l Z a0 hw [] (own_vdr p3) T89.heap n0 Z89) hZ (hw _ (List.mem_of_getElem? (i := 110) rfl)) (hw _ (List.mem_of_getElem? (i := 2) rfl)) (by decide) (by decide)) (g := (mkF m 194 #[.val (.int p1), .val (.int p2), .val (.int p3), .val (.int p4), .val (.int p5), .val (.int p6), .val (.int (2 : Int32)), .val (.int (own_most p1 p6)), .val (.int (own_vdr p2)), .val (.int (own_vdr p3)), .val (.int (own_vdr p4)), .val (.int (own_vdr p5)), .val (.ref b69), .val (.ref b82), .val (.int (0 : Int32)), .unset, .unset] [(.int (own_vdr p3))])) rfl (by rw [hml]; rfl) (argsL := [(.int (own_vdr p3))]) (rest := []) (lenOf own_pd10 rfl) rfl (by show 2 * 0 + _ ≤ _; exact Nat.le_of_eq rfl) (hb hby at_194) (fun _ _ => ⟨rfl, e96, (by decide : 4 + 0 ≤ _), (by decide : 18 + 0 ≤ _)⟩)
        dsimp only [Pt.U, Pt.locs, Pt.cells, Pt.slots] at X101 l101 y101 z101 st101 hQ101
        subst l101 y101 z101
        obtain ⟨rfl, N101q, e101⟩ := hQ101
        have N101 := Fr.app N96 N101q
        have k102 : ∀ t, Steps p.tables e below (T101.setTop (mkF m 197 #[.val (.int p1), .val (.int p2), .val (.int p3), .val (.int p4), .val (.int p5), .val (.int p6), .val (.int (2 : Int32)), .val (.int (own_most p1 p6)), .val (.int (own_vdr p2)), .val (.int (own_vdr p3)), .val (.int (own_vdr p4)), .val (.int (own_vdr p5)), .val (.ref b69), .val (.ref b82), .val (.int (0 : Int32)), .unset, .unset] [(.int (own_vlw (own_vdr p3)))])) t → Steps p.tables e below (s₁.setTop (entryFrame m #[(.int p1), (.int p2), (.int p3), (.int p4), (.int p5), (.int p6)] maxLocals)) t := fun t k => k100 t (st101 t k)
        by_cases hc197_103 : (own_vlw (own_vdr p3)) = (0 : Int32)
        · have k104 : ∀ t, Steps p.tables e below (T101.setTop (mkF m 206 #[.val (.int p1), .val (.int p2), .val (.int p3), .val (.int p4), .val (.int p5), .val (.int p6), .val (.int (2 : Int32)), .val (.int (own_most p1 p6)), .val (.int (own_vdr p2)), .val (.int (own_vdr p3)), .val (.int (own_vdr p4)), .val (.int (own_vdr p5)), .val (.ref b69), .val (.ref b82), .val (.int (0 : Int32)), .unset, .unset] [])) t → Steps p.tables e below (s₁.setTop (entryFrame m #[(.int p1), (.int p2), (.int p3), (.int p4), (.int p5), (.int p6)] maxLocals)) t := by
            intro t k
            refine k102 t ?_
            show Steps p.tables e below (T101.setTop (mkF m 197 #[.val (.int p1), .val (.int p2), .val (.int p3), .val (.int p4), .val (.int p5), .val (.int p6), .val (.int (2 : Int32)), .val (.int (own_most p1 p6)), .val (.int (own_vdr p2)), .val (.int (own_vdr p3)), .val (.int (own_vdr p4)), .val (.int (own_vdr p5)), .val (.ref b69), .val (.ref b82), .val (.int (0 : Int32)), .unset, .unset] [(.int (own_vlw (own_vdr p3)))])) _
            refine XS.ifYes X101.here hx rfl (pc0 := 197) (pc' := 206) rfl (hb hby at_197) rfl ((if0 _ _).trans (teq hc197_103).1) (by decide) (by decide) ?_
            exact k
          have q0 : (own_qa2 p2 p3) = (0 : Int32) := ((if_neg hc189_98).trans (if_pos hc197_103))
          exact ⟨_, _, X101, e101, N101, fun t k => k104 t (by rw [q0] at k; exact k)⟩
        · have k105 : ∀ t, Steps p.tables e below (T101.setTop (mkF m 206 #[.val (.int p1), .val (.int p2), .val (.int p3), .val (.int p4), .val (.int p5), .val (.int p6), .val (.int (2 : Int32)), .val (.int (own_most p1 p6)), .val (.int (own_vdr p2)), .val (.int (own_vdr p3)), .val (.int (own_vdr p4)), .val (.int (own_vdr p5)), .val (.ref b69), .val (.ref b82), .val (.int (1 : Int32)), .unset, .unset] [])) t → Steps p.tables e below (s₁.setTop (entryFrame m #[(.int p1), (.int p2), (.int p3), (.int p4), (.int p5), (.int p6)] maxLocals)) t := by
            intro t k
            refine k102 t ?_
            show Steps p.tables e below (T101.setTop (mkF m 197 #[.val (.int p1), .val (.int p2), .val (.int p3), .val (.int p4), .val (.int p5), .val (.int p6), .val (.int (2 : Int32)), .val (.int (own_most p1 p6)), .val (.int (own_vdr p2)), .val (.int (own_vdr p3)), .val (.int (own_vdr p4)), .val (.int (own_vdr p5)), .val (.ref b69), .val (.ref b82), .val (.int (0 : Int32)), .unset, .unset] [(.int (own_vlw (own_vdr p3)))])) _
            refine XS.ifNo X101.here hx rfl (hb hby at_197) rfl ((if0 _ _).trans (feq hc197_103).1) ?_
            show Steps p.tables e below (T101.setTop (mkF m 200 #[.val (.int p1), .val (.int p2), .val (.int p3), .val (.int p4), .val (.int p5), .val (.int p6), .val (.int (2 : Int32)), .val (.int (own_most p1 p6)), .val (.int (own_vdr p2)), .val (.int (own_vdr p3)), .val (.int (own_vdr p4)), .val (.int (own_vdr p5)), .val (.ref b69), .val (.ref b82), .val (.int (0 : Int32)), .unset, .unset] [])) _
            refine XS.iload X101.here hx rfl (hb hby at_200) rfl ?_
            show Steps p.tables e below (T101.setTop (mkF m 202 #[.val (.int p1), .val (.int p2), .val (.int p3), .val (.int p4), .val (.int p5), .val (.int p6), .val (.int (2 : Int32)), .val (.int (own_most p1 p6)), .val (.int (own_vdr p2)), .val (.int (own_vdr p3)), .val (.int (own_vdr p4)), .val (.int (own_vdr p5)), .val (.ref b69), .val (.ref b82), .val (.int (0 : Int32)), .unset, .unset] [(.int (0 : Int32))])) _
            refine XS.iconst X101.here hx rfl (hb hby at_202) ?_
            show Steps p.tables e below (T101.setTop (mkF m 203 #[.val (.int p1), .val (.int p2), .val (.int p3), .val (.int p4), .val (.int p5), .val (.int p6), .val (.int (2 : Int32)), .val (.int (own_most p1 p6)), .val (.int (own_vdr p2)), .val (.int (own_vdr p3)), .val (.int (own_vdr p4)), .val (.int (own_vdr p5)), .val (.ref b69), .val (.ref b82), .val (.int (0 : Int32)), .unset, .unset] [(.int (1 : Int32)), (.int (0 : Int32))])) _
            refine XS.iadd X101.here hx rfl (hb hby at_203) rfl ?_
            show Steps p.tables e below (T101.setTop (mkF m 204 #[.val (.int p1), .val (.int p2), .val (.int p3), .val (.int p4), .val (.int p5), .val (.int p6), .val (.int (2 : Int32)), .val (.int (own_most p1 p6)), .val (.int (own_vdr p2)), .val (.int (own_vdr p3)), .val (.int (own_vdr p4)), .val (.int (own_vdr p5)), .val (.ref b69), .val (.ref b82), .val (.int (0 : Int32)), .unset, .unset] [(.int (1 : Int32))])) _
            refine XS.istore X101.here hx rfl (hb hby at_204) rfl (l' := #[.val (.int p1), .val (.int p2), .val (.int p3), .val (.int p4), .val (.int p5), .val (.int p6), .val (.int (2 : Int32)), .val (.int (own_most p1 p6)), .val (.int (own_vdr p2)), .val (.int (own_vdr p3)), .val (.int (own_vdr p4)), .val (.int (own_vdr p5)), .val (.ref b69), .val (.ref b82), .val (.int (1 : Int32)), .unset, .unset]) rfl ?_
            exact k
          have q0 : (own_qa2 p2 p3) = (1 : Int32) := ((if_neg hc189_98).trans (if_neg hc197_103))
          exact ⟨_, _, X101, e101, N101, fun t k => k105 t (by rw [q0] at k; exact k)⟩
    obtain ⟨T94, L94, X94, e94, N94, k94⟩ := sg94
    have k106 : ∀ t, Steps p.tables e below (T94.setTop (mkF m 269 #[.val (.int p1), .val (.int p2), .val (.int p3), .val (.int p4), .val (.int p5), .val (.int p6), .val (.int (2 : Int32)), .val (.int (own_most p1 p6)), .val (.int (own_vdr p2)), .val (.int (own_vdr p3)), .val (.int (own_vdr p4)), .val (.int (own_vdr p5)), .val (.ref b69), .val (.ref b82), .val (.int (own_qa2 p2 p3)), .val (.int ((2 : Int32) - (own_qa2 p2 p3))), .unset] [])) t → Steps p.tables e below (s₁.setTop (entryFrame m #[(.int p1), (.int p2), (.int p3), (.int p4), (.int p5), (.int p6)] maxLocals)) t := by
      intro t k
      refine k94 t ?_
      show Steps p.tables e below (T94.setTop (mkF m 206 #[.val (.int p1), .val (.int p2), .val (.int p3), .val (.int p4), .val (.int p5), .val (.int p6), .val (.int (2 : Int32)), .val (.int (own_most p1 p6)), .val (.int (own_vdr p2)), .val (.int (own_vdr p3)), .val (.int (own_vdr p4)), .val (.int (own_vdr p5)), .val (.ref b69), .val (.ref b82), .val (.int (own_qa2 p2 p3)), .unset, .unset] [])) _
      refine XS.iload X94.here hx rfl (hb hby at_206) rfl ?_
      show Steps p.tables e below (T94.setTop (mkF m 208 #[.val (.int p1), .val (.int p2), .val (.int p3), .val (.int p4), .val (.int p5), .val (.int p6), .val (.int (2 : Int32)), .val (.int (own_most p1 p6)), .val (.int (own_vdr p2)), .val (.int (own_vdr p3)), .val (.int (own_vdr p4)), .val (.int (own_vdr p5)), .val (.ref b69), .val (.ref b82), .val (.int (own_qa2 p2 p3)), .unset, .unset] [(.int (2 : Int32))])) _
      refine XS.iconst X94.here hx rfl (hb hby at_208) ?_
      show Steps p.tables e below (T94.setTop (mkF m 209 #[.val (.int p1), .val (.int p2), .val (.int p3), .val (.int p4), .val (.int p5), .val (.int p6), .val (.int (2 : Int32)), .val (.int (own_most p1 p6)), .val (.int (own_vdr p2)), .val (.int (own_vdr p3)), .val (.int (own_vdr p4)), .val (.int (own_vdr p5)), .val (.ref b69), .val (.ref b82), .val (.int (own_qa2 p2 p3)), .unset, .unset] [(.int (3 : Int32)), (.int (2 : Int32))])) _
      refine XS.icmpYes X94.here hx rfl (pc0 := 209) (pc' := 234) rfl (hb hby at_209) rfl (tlt (by decide : (2 : Int32) < (3 : Int32))).1 (by decide) (by decide) ?_
      show Steps p.tables e below (T94.setTop (mkF m 234 #[.val (.int p1), .val (.int p2), .val (.int p3), .val (.int p4), .val (.int p5), .val (.int p6), .val (.int (2 : Int32)), .val (.int (own_most p1 p6)), .val (.int (own_vdr p2)), .val (.int (own_vdr p3)), .val (.int (own_vdr p4)), .val (.int (own_vdr p5)), .val (.ref b69), .val (.ref b82), .val (.int (own_qa2 p2 p3)), .unset, .unset] [])) _
      refine XS.iload X94.here hx rfl (hb hby at_234) rfl ?_
      show Steps p.tables e below (T94.setTop (mkF m 236 #[.val (.int p1), .val (.int p2), .val (.int p3), .val (.int p4), .val (.int p5), .val (.int p6), .val (.int (2 : Int32)), .val (.int (own_most p1 p6)), .val (.int (own_vdr p2)), .val (.int (own_vdr p3)), .val (.int (own_vdr p4)), .val (.int (own_vdr p5)), .val (.ref b69), .val (.ref b82), .val (.int (own_qa2 p2 p3)), .unset, .unset] [(.int (2 : Int32))])) _
      refine XS.iconst X94.here hx rfl (hb hby at_236) ?_
      show Steps p.tables e below (T94.setTop (mkF m 237 #[.val (.int p1), .val (.int p2), .val (.int p3), .val (.int p4), .val (.int p5), .val (.int p6), .val (.int (2 : Int32)), .val (.int (own_most p1 p6)), .val (.int (own_vdr p2)), .val (.int (own_vdr p3)), .val (.int (own_vdr p4)), .val (.int (own_vdr p5)), .val (.ref b69), .val (.ref b82), .val (.int (own_qa2 p2 p3)), .unset, .unset] [(.int (4 : Int32)), (.int (2 : Int32))])) _
      refine XS.icmpYes X94.here hx rfl (pc0 := 237) (pc' := 262) rfl (hb hby at_237) rfl (tlt (by decide : (2 : Int32) < (4 : Int32))).1 (by decide) (by decide) ?_
      show Steps p.tables e below (T94.setTop (mkF m 262 #[.val (.int p1), .val (.int p2), .val (.int p3), .val (.int p4), .val (.int p5), .val (.int p6), .val (.int (2 : Int32)), .val (.int (own_most p1 p6)), .val (.int (own_vdr p2)), .val (.int (own_vdr p3)), .val (.int (own_vdr p4)), .val (.int (own_vdr p5)), .val (.ref b69), .val (.ref b82), .val (.int (own_qa2 p2 p3)), .unset, .unset] [])) _
      refine XS.iload X94.here hx rfl (hb hby at_262) rfl ?_
      show Steps p.tables e below (T94.setTop (mkF m 264 #[.val (.int p1), .val (.int p2), .val (.int p3), .val (.int p4), .val (.int p5), .val (.int p6), .val (.int (2 : Int32)), .val (.int (own_most p1 p6)), .val (.int (own_vdr p2)), .val (.int (own_vdr p3)), .val (.int (own_vdr p4)), .val (.int (own_vdr p5)), .val (.ref b69), .val (.ref b82), .val (.int (own_qa2 p2 p3)), .unset, .unset] [(.int (2 : Int32))])) _
      refine XS.iload X94.here hx rfl (hb hby at_264) rfl ?_
      show Steps p.tables e below (T94.setTop (mkF m 266 #[.val (.int p1), .val (.int p2), .val (.int p3), .val (.int p4), .val (.int p5), .val (.int p6), .val (.int (2 : Int32)), .val (.int (own_most p1 p6)), .val (.int (own_vdr p2)), .val (.int (own_vdr p3)), .val (.int (own_vdr p4)), .val (.int (own_vdr p5)), .val (.ref b69), .val (.ref b82), .val (.int (own_qa2 p2 p3)), .unset, .unset] [(.int (own_qa2 p2 p3)), (.int (2 : Int32))])) _
      refine XS.isub X94.here hx rfl (hb hby at_266) rfl ?_
      show Steps p.tables e below (T94.setTop (mkF m 267 #[.val (.int p1), .val (.int p2), .val (.int p3), .val (.int p4), .val (.int p5), .val (.int p6), .val (.int (2 : Int32)), .val (.int (own_most p1 p6)), .val (.int (own_vdr p2)), .val (.int (own_vdr p3)), .val (.int (own_vdr p4)), .val (.int (own_vdr p5)), .val (.ref b69), .val (.ref b82), .val (.int (own_qa2 p2 p3)), .unset, .unset] [(.int ((2 : Int32) - (own_qa2 p2 p3)))])) _
      refine XS.istore X94.here hx rfl (hb hby at_267) rfl (l' := #[.val (.int p1), .val (.int p2), .val (.int p3), .val (.int p4), .val (.int p5), .val (.int p6), .val (.int (2 : Int32)), .val (.int (own_most p1 p6)), .val (.int (own_vdr p2)), .val (.int (own_vdr p3)), .val (.int (own_vdr p4)), .val (.int (own_vdr p5)), .val (.ref b69), .val (.ref b82), .val (.int (own_qa2 p2 p3)), .val (.int ((2 : Int32) - (own_qa2 p2 p3))), .unset]) rfl ?_
      exact k
    have k107 : ∀ t, Steps p.tables e below (T94.setTop (mkF m 289 #[.val (.int p1), .val (.int p2), .val (.int p3), .val (.int p4), .val (.int p5), .val (.int p6), .val (.int (2 : Int32)), .val (.int (own_most p1 p6)), .val (.int (own_vdr p2)), .val (.int (own_vdr p3)), .val (.int (own_vdr p4)), .val (.int (own_vdr p5)), .val (.ref b69), .val (.ref b82), .val (.int (own_qa2 p2 p3)), .val (.int ((2 : Int32) - (own_qa2 p2 p3))), .val (.int (own_ex2 p1 p2 p3 p6))] [])) t → Steps p.tables e below (s₁.setTop (entryFrame m #[(.int p1), (.int p2), (.int p3), (.int p4), (.int p5), (.int p6)] maxLocals)) t := by
      intro t k
      refine k106 t ?_
      show Steps p.tables e below (T94.setTop (mkF m 269 #[.val (.int p1), .val (.int p2), .val (.int p3), .val (.int p4), .val (.int p5), .val (.int p6), .val (.int (2 : Int32)), .val (.int (own_most p1 p6)), .val (.int (own_vdr p2)), .val (.int (own_vdr p3)), .val (.int (own_vdr p4)), .val (.int (own_vdr p5)), .val (.ref b69), .val (.ref b82), .val (.int (own_qa2 p2 p3)), .val (.int ((2 : Int32) - (own_qa2 p2 p3))), .unset] [])) _
      refine XS.iload X94.here hx rfl (hb hby at_269) rfl ?_
      show Steps p.tables e below (T94.setTop (mkF m 271 #[.val (.int p1), .val (.int p2), .val (.int p3), .val (.int p4), .val (.int p5), .val (.int p6), .val (.int (2 : Int32)), .val (.int (own_most p1 p6)), .val (.int (own_vdr p2)), .val (.int (own_vdr p3)), .val (.int (own_vdr p4)), .val (.int (own_vdr p5)), .val (.ref b69), .val (.ref b82), .val (.int (own_qa2 p2 p3)), .val (.int ((2 : Int32) - (own_qa2 p2 p3))), .unset] [(.int ((2 : Int32) - (own_qa2 p2 p3)))])) _
      refine XS.iconst X94.here hx rfl (hb hby at_271) ?_
      by_cases hc272_108 : ((2 : Int32) - (own_qa2 p2 p3)) < (1 : Int32)
      · show Steps p.tables e below (T94.setTop (mkF m 272 #[.val (.int p1), .val (.int p2), .val (.int p3), .val (.int p4), .val (.int p5), .val (.int p6), .val (.int (2 : Int32)), .val (.int (own_most p1 p6)), .val (.int (own_vdr p2)), .val (.int (own_vdr p3)), .val (.int (own_vdr p4)), .val (.int (own_vdr p5)), .val (.ref b69), .val (.ref b82), .val (.int (own_qa2 p2 p3)), .val (.int ((2 : Int32) - (own_qa2 p2 p3))), .unset] [(.int (1 : Int32)), (.int ((2 : Int32) - (own_qa2 p2 p3)))])) _
        refine XS.icmpYes X94.here hx rfl (pc0 := 272) (pc' := 286) rfl (hb hby at_272) rfl (tlt hc272_108).1 (by decide) (by decide) ?_
        show Steps p.tables e below (T94.setTop (mkF m 286 #[.val (.int p1), .val (.int p2), .val (.int p3), .val (.int p4), .val (.int p5), .val (.int p6), .val (.int (2 : Int32)), .val (.int (own_most p1 p6)), .val (.int (own_vdr p2)), .val (.int (own_vdr p3)), .val (.int (own_vdr p4)), .val (.int (own_vdr p5)), .val (.ref b69), .val (.ref b82), .val (.int (own_qa2 p2 p3)), .val (.int ((2 : Int32) - (own_qa2 p2 p3))), .unset] [])) _
        refine XS.iconst X94.here hx rfl (hb hby at_286) ?_
        show Steps p.tables e below (T94.setTop (mkF m 287 #[.val (.int p1), .val (.int p2), .val (.int p3), .val (.int p4), .val (.int p5), .val (.int p6), .val (.int (2 : Int32)), .val (.int (own_most p1 p6)), .val (.int (own_vdr p2)), .val (.int (own_vdr p3)), .val (.int (own_vdr p4)), .val (.int (own_vdr p5)), .val (.ref b69), .val (.ref b82), .val (.int (own_qa2 p2 p3)), .val (.int ((2 : Int32) - (own_qa2 p2 p3))), .unset] [(.int (0 : Int32))])) _
        refine XS.istore X94.here hx rfl (hb hby at_287) rfl (l' := #[.val (.int p1), .val (.int p2), .val (.int p3), .val (.int p4), .val (.int p5), .val (.int p6), .val (.int (2 : Int32)), .val (.int (own_most p1 p6)), .val (.int (own_vdr p2)), .val (.int (own_vdr p3)), .val (.int (own_vdr p4)), .val (.int (own_vdr p5)), .val (.ref b69), .val (.ref b82), .val (.int (own_qa2 p2 p3)), .val (.int ((2 : Int32) - (own_qa2 p2 p3))), .val (.int (0 : Int32))]) rfl ?_
        have q0 : (own_ex2 p1 p2 p3 p6) = (0 : Int32) := (if_pos hc272_108)
        rw [q0] at k
        exact k
      · show Steps p.tables e below (T94.setTop (mkF m 272 #[.val (.int p1), .val (.int p2), .val (.int p3), .val (.int p4), .val (.int p5), .val (.int p6), .val (.int (2 : Int32)), .val (.int (own_most p1 p6)), .val (.int (own_vdr p2)), .val (.int (own_vdr p3)), .val (.int (own_vdr p4)), .val (.int (own_vdr p5)), .val (.ref b69), .val (.ref b82), .val (.int (own_qa2 p2 p3)), .val (.int ((2 : Int32) - (own_qa2 p2 p3))), .unset] [(.int (1 : Int32)), (.int ((2 : Int32) - (own_qa2 p2 p3)))])) _
        refine XS.icmpNo X94.here hx rfl (hb hby at_272) rfl (flt hc272_108).1 ?_
        show Steps p.tables e below (T94.setTop (mkF m 275 #[.val (.int p1), .val (.int p2), .val (.int p3), .val (.int p4), .val (.int p5), .val (.int p6), .val (.int (2 : Int32)), .val (.int (own_most p1 p6)), .val (.int (own_vdr p2)), .val (.int (own_vdr p3)), .val (.int (own_vdr p4)), .val (.int (own_vdr p5)), .val (.ref b69), .val (.ref b82), .val (.int (own_qa2 p2 p3)), .val (.int ((2 : Int32) - (own_qa2 p2 p3))), .unset] [])) _
        refine XS.iload X94.here hx rfl (hb hby at_275) rfl ?_
        show Steps p.tables e below (T94.setTop (mkF m 277 #[.val (.int p1), .val (.int p2), .val (.int p3), .val (.int p4), .val (.int p5), .val (.int p6), .val (.int (2 : Int32)), .val (.int (own_most p1 p6)), .val (.int (own_vdr p2)), .val (.int (own_vdr p3)), .val (.int (own_vdr p4)), .val (.int (own_vdr p5)), .val (.ref b69), .val (.ref b82), .val (.int (own_qa2 p2 p3)), .val (.int ((2 : Int32) - (own_qa2 p2 p3))), .unset] [(.int ((2 : Int32) - (own_qa2 p2 p3)))])) _
        refine XS.iload X94.here hx rfl (hb hby at_277) rfl ?_
        by_cases hc279_109 : (own_most p1 p6) < ((2 : Int32) - (own_qa2 p2 p3))
        · show Steps p.tables e below (T94.setTop (mkF m 279 #[.val (.int p1), .val (.int p2), .val (.int p3), .val (.int p4), .val (.int p5), .val (.int p6), .val (.int (2 : Int32)), .val (.int (own_most p1 p6)), .val (.int (own_vdr p2)), .val (.int (own_vdr p3)), .val (.int (own_vdr p4)), .val (.int (own_vdr p5)), .val (.ref b69), .val (.ref b82), .val (.int (own_qa2 p2 p3)), .val (.int ((2 : Int32) - (own_qa2 p2 p3))), .unset] [(.int (own_most p1 p6)), (.int ((2 : Int32) - (own_qa2 p2 p3)))])) _
          refine XS.icmpYes X94.here hx rfl (pc0 := 279) (pc' := 286) rfl (hb hby at_279) rfl (tlt hc279_109).2.2.1 (by decide) (by decide) ?_
          show Steps p.tables e below (T94.setTop (mkF m 286 #[.val (.int p1), .val (.int p2), .val (.int p3), .val (.int p4), .val (.int p5), .val (.int p6), .val (.int (2 : Int32)), .val (.int (own_most p1 p6)), .val (.int (own_vdr p2)), .val (.int (own_vdr p3)), .val (.int (own_vdr p4)), .val (.int (own_vdr p5)), .val (.ref b69), .val (.ref b82), .val (.int (own_qa2 p2 p3)), .val (.int ((2 : Int32) - (own_qa2 p2 p3))), .unset] [])) _
          refine XS.iconst X94.here hx rfl (hb hby at_286) ?_
          show Steps p.tables e below (T94.setTop (mkF m 287 #[.val (.int p1), .val (.int p2), .val (.int p3), .val (.int p4), .val (.int p5), .val (.int p6), .val (.int (2 : Int32)), .val (.int (own_most p1 p6)), .val (.int (own_vdr p2)), .val (.int (own_vdr p3)), .val (.int (own_vdr p4)), .val (.int (own_vdr p5)), .val (.ref b69), .val (.ref b82), .val (.int (own_qa2 p2 p3)), .val (.int ((2 : Int32) - (own_qa2 p2 p3))), .unset] [(.int (0 : Int32))])) _
          refine XS.istore X94.here hx rfl (hb hby at_287) rfl (l' := #[.val (.int p1), .val (.int p2), .val (.int p3), .val (.int p4), .val (.int p5), .val (.int p6), .val (.int (2 : Int32)), .val (.int (own_most p1 p6)), .val (.int (own_vdr p2)), .val (.int (own_vdr p3)), .val (.int (own_vdr p4)), .val (.int (own_vdr p5)), .val (.ref b69), .val (.ref b82), .val (.int (own_qa2 p2 p3)), .val (.int ((2 : Int32) - (own_qa2 p2 p3))), .val (.int (0 : Int32))]) rfl ?_
          have q0 : (own_ex2 p1 p2 p3 p6) = (0 : Int32) := ((if_neg hc272_108).trans (if_pos hc279_109))
          rw [q0] at k
          exact k
        · show Steps p.tables e below (T94.setTop (mkF m 279 #[.val (.int p1), .val (.int p2), .val (.int p3), .val (.int p4), .val (.int p5), .val (.int p6), .val (.int (2 : Int32)), .val (.int (own_most p1 p6)), .val (.int (own_vdr p2)), .val (.int (own_vdr p3)), .val (.int (own_vdr p4)), .val (.int (own_vdr p5)), .val (.ref b69), .val (.ref b82), .val (.int (own_qa2 p2 p3)), .val (.int ((2 : Int32) - (own_qa2 p2 p3))), .unset] [(.int (own_most p1 p6)), (.int ((2 : Int32) - (own_qa2 p2 p3)))])) _
          refine XS.icmpNo X94.here hx rfl (hb hby at_279) rfl (flt hc279_109).2.2.1 ?_
          show Steps p.tables e below (T94.setTop (mkF m 282 #[.val (.int p1), .val (.int p2), .val (.int p3), .val (.int p4), .val (.int p5), .val (.int p6), .val (.int (2 : Int32)), .val (.int (own_most p1 p6)), .val (.int (own_vdr p2)), .val (.int (own_vdr p3)), .val (.int (own_vdr p4)), .val (.int (own_vdr p5)), .val (.ref b69), .val (.ref b82), .val (.int (own_qa2 p2 p3)), .val (.int ((2 : Int32) - (own_qa2 p2 p3))), .unset] [])) _
          refine XS.iconst X94.here hx rfl (hb hby at_282) ?_
          show Steps p.tables e below (T94.setTop (mkF m 283 #[.val (.int p1), .val (.int p2), .val (.int p3), .val (.int p4), .val (.int p5), .val (.int p6), .val (.int (2 : Int32)), .val (.int (own_most p1 p6)), .val (.int (own_vdr p2)), .val (.int (own_vdr p3)), .val (.int (own_vdr p4)), .val (.int (own_vdr p5)), .val (.ref b69), .val (.ref b82), .val (.int (own_qa2 p2 p3)), .val (.int ((2 : Int32) - (own_qa2 p2 p3))), .unset] [(.int (1 : Int32))])) _
          refine XS.goto X94.here hx rfl (pc0 := 283) (pc' := 287) rfl (hb hby at_283) (by decide) (by decide) ?_
          show Steps p.tables e below (T94.setTop (mkF m 287 #[.val (.int p1), .val (.int p2), .val (.int p3), .val (.int p4), .val (.int p5), .val (.int p6), .val (.int (2 : Int32)), .val (.int (own_most p1 p6)), .val (.int (own_vdr p2)), .val (.int (own_vdr p3)), .val (.int (own_vdr p4)), .val (.int (own_vdr p5)), .val (.ref b69), .val (.ref b82), .val (.int (own_qa2 p2 p3)), .val (.int ((2 : Int32) - (own_qa2 p2 p3))), .unset] [(.int (1 : Int32))])) _
          refine XS.istore X94.here hx rfl (hb hby at_287) rfl (l' := #[.val (.int p1), .val (.int p2), .val (.int p3), .val (.int p4), .val (.int p5), .val (.int p6), .val (.int (2 : Int32)), .val (.int (own_most p1 p6)), .val (.int (own_vdr p2)), .val (.int (own_vdr p3)), .val (.int (own_vdr p4)), .val (.int (own_vdr p5)), .val (.ref b69), .val (.ref b82), .val (.int (own_qa2 p2 p3)), .val (.int ((2 : Int32) - (own_qa2 p2 p3))), .val (.int (1 : Int32))]) rfl ?_
          have q0 : (own_ex2 p1 p2 p3 p6) = (1 : Int32) := ((if_neg hc272_108).trans (if_neg hc279_109))
          rw [q0] at k
          exact k
    have k110 : ∀ t, Steps p.tables e below (T94.setTop (mkF m 293 #[.val (.int p1), .val (.int p2), .val (.int p3), .val (.int p4), .val (.int p5), .val (.int p6), .val (.int (2 : Int32)), .val (.int (own_most p1 p6)), .val (.int (own_vdr p2)), .val (.int (own_vdr p3)), .val (.int (own_vdr p4)), .val (.int (own_vdr p5)), .val (.ref b69), .val (.ref b82), .val (.int (own_qa2 p2 p3)), .val (.int ((2 : Int32) - (own_qa2 p2 p3))), .val (.int (own_ex2 p1 p2 p3 p6))] [(.int (own_most p1 p6)), (.ref b82)])) t → Steps p.tables e below (s₁.setTop (entryFrame m #[(.int p1), (.int p2), (.int p3), (.int p4), (.int p5), (.int p6)] maxLocals)) t := by
      intro t k
      refine k107 t ?_
      show Steps p.tables e below (T94.setTop (mkF m 289 #[.val (.int p1), .val (.int p2), .val (.int p3), .val (.int p4), .val (.int p5), .val (.int p6), .val (.int (2 : Int32)), .val (.int (own_most p1 p6)), .val (.int (own_vdr p2)), .val (.int (own_vdr p3)), .val (.int (own_vdr p4)), .val (.int (own_vdr p5)), .val (.ref b69), .val (.ref b82), .val (.int (own_qa2 p2 p3)), .val (.int ((2 : Int32) - (own_qa2 p2 p3))), .val (.int (own_ex2 p1 p2 p3 p6))] [])) _
      refine XS.aload X94.here hx rfl (hb hby at_289) rfl rfl ?_
      show Steps p.tables e below (T94.setTop (mkF m 291 #[.val (.int p1), .val (.int p2), .val (.int p3), .val (.int p4), .val (.int p5), .val (.int p6), .val (.int (2 : Int32)), .val (.int (own_most p1 p6)), .val (.int (own_vdr p2)), .val (.int (own_vdr p3)), .val (.int (own_vdr p4)), .val (.int (own_vdr p5)), .val (.ref b69), .val (.ref b82), .val (.int (own_qa2 p2 p3)), .val (.int ((2 : Int32) - (own_qa2 p2 p3))), .val (.int (own_ex2 p1 p2 p3 p6))] [(.ref b82)])) _
      refine XS.iload X94.here hx rfl (hb hby at_291) rfl ?_
      exact k
    obtain ⟨_, _, ⟨T111, L111, k111c, n111⟩, -, X111, ⟨Lc111, hQ111, l111, y111, z111⟩, st111⟩ := Jvm.LawKit.callS X94 hx (y := (⟨"com/example/daftar/daftar/model/Characters", "isOneTo", "(Ljava/lang/String;I)Z"⟩ : MethodName)) hown (mvT hZ (hw _ (List.mem_of_getElem? (i := 29) rfl))) (mvT hZ (hw _ (List.mem_of_getElem? (i := 30) rfl))) (mvT hZ (hw _ (List.mem_of_getElem? (i := 31) rfl))) (mvT hZ (hw _ (List.mem_of_getElem? (i := 32) rfl))) (by decide) (backOf (W := 0) (own_rmio l Z a0 hw [] b82 (own_most p1 p6) 2 0 (own_of [ (own_vdr p2) , (own_vdr p3) ]) cs T89.heap n0 Z89 f91 fq89_0 Xo89 SC SA SH SL hcs) hZ (hw _ (List.mem_of_getElem? (i := 32) rfl)) (hw _ (List.mem_of_getElem? (i := 31) rfl)) (by decide) (by decide)) (g := (mkF m 293 #[.val (.int p1), .val (.int p2), .val (.int p3), .val (.int p4), .val (.int p5), .val (.int p6), .val (.int (2 : Int32)), .val (.int (own_most p1 p6)), .val (.int (own_vdr p2)), .val (.int (own_vdr p3)), .val (.int (own_vdr p4)), .val (.int (own_vdr p5)), .val (.ref b69), .val (.ref b82), .val (.int (own_qa2 p2 p3)), .val (.int ((2 : Int32) - (own_qa2 p2 p3))), .val (.int (own_ex2 p1 p2 p3 p6))] [(.int (own_most p1 p6)), (.ref b82)])) rfl (by rw [hml]; rfl) (argsL := [(.ref b82), (.int (own_most p1 p6))]) (rest := []) (lenOf own_pd19 rfl) rfl (by show 2 * 0 + _ ≤ _; exact Nat.le_of_eq rfl) (hb hby at_293) (fun _ _ => ⟨rfl, e94, (by decide : 4 + 0 ≤ _), (by decide : 18 + 0 ≤ _)⟩)
    dsimp only [Pt.U, Pt.locs, Pt.cells, Pt.slots] at X111 l111 y111 z111 st111 hQ111
    subst l111 y111 z111
    obtain ⟨r_111, rfl, N111q, e111, hq111_hr⟩ := hQ111
    have N111 := Fr.app N94 N111q
    have k112 : ∀ t, Steps p.tables e below (T111.setTop (mkF m 296 #[.val (.int p1), .val (.int p2), .val (.int p3), .val (.int p4), .val (.int p5), .val (.int p6), .val (.int (2 : Int32)), .val (.int (own_most p1 p6)), .val (.int (own_vdr p2)), .val (.int (own_vdr p3)), .val (.int (own_vdr p4)), .val (.int (own_vdr p5)), .val (.ref b69), .val (.ref b82), .val (.int (own_qa2 p2 p3)), .val (.int ((2 : Int32) - (own_qa2 p2 p3))), .val (.int (own_ex2 p1 p2 p3 p6))] [(.int r_111)])) t → Steps p.tables e below (s₁.setTop (entryFrame m #[(.int p1), (.int p2), (.int p3), (.int p4), (.int p5), (.int p6)] maxLocals)) t := fun t k => k110 t (st111 t k)
    have k113 : ∀ t, Steps p.tables e below (T111.setTop (mkF m 306 #[.val (.int p1), .val (.int p2), .val (.int p3), .val (.int p4), .val (.int p5), .val (.int p6), .val (.int (2 : Int32)), .val (.int (own_most p1 p6)), .val (.int (own_vdr p2)), .val (.int (own_vdr p3)), .val (.int (own_vdr p4)), .val (.int (own_vdr p5)), .val (.ref b69), .val (.ref b82), .val (.int (own_qa2 p2 p3)), .val (.int ((2 : Int32) - (own_qa2 p2 p3))), .val (.int (own_ex2 p1 p2 p3 p6))] [(.int (1 : Int32))])) t → Steps p.tables e below (s₁.setTop (entryFrame m #[(.int p1), (.int p2), (.int p3), (.int p4), (.int p5), (.int p6)] maxLocals)) t := by
      intro t k
      refine k112 t ?_
      show Steps p.tables e below (T111.setTop (mkF m 296 #[.val (.int p1), .val (.int p2), .val (.int p3), .val (.int p4), .val (.int p5), .val (.int p6), .val (.int (2 : Int32)), .val (.int (own_most p1 p6)), .val (.int (own_vdr p2)), .val (.int (own_vdr p3)), .val (.int (own_vdr p4)), .val (.int (own_vdr p5)), .val (.ref b69), .val (.ref b82), .val (.int (own_qa2 p2 p3)), .val (.int ((2 : Int32) - (own_qa2 p2 p3))), .val (.int (own_ex2 p1 p2 p3 p6))] [(.int r_111)])) _
      refine XS.iload X111.here hx rfl (hb hby at_296) rfl ?_
      show Steps p.tables e below (T111.setTop (mkF m 298 #[.val (.int p1), .val (.int p2), .val (.int p3), .val (.int p4), .val (.int p5), .val (.int p6), .val (.int (2 : Int32)), .val (.int (own_most p1 p6)), .val (.int (own_vdr p2)), .val (.int (own_vdr p3)), .val (.int (own_vdr p4)), .val (.int (own_vdr p5)), .val (.ref b69), .val (.ref b82), .val (.int (own_qa2 p2 p3)), .val (.int ((2 : Int32) - (own_qa2 p2 p3))), .val (.int (own_ex2 p1 p2 p3 p6))] [(.int (own_ex2 p1 p2 p3 p6)), (.int r_111)])) _
      refine XS.icmpNo X111.here hx rfl (hb hby at_298) rfl (teq (own_fin2 p1 p2 p3 p4 p5 p6 hq111_hr)).2 ?_
      show Steps p.tables e below (T111.setTop (mkF m 301 #[.val (.int p1), .val (.int p2), .val (.int p3), .val (.int p4), .val (.int p5), .val (.int p6), .val (.int (2 : Int32)), .val (.int (own_most p1 p6)), .val (.int (own_vdr p2)), .val (.int (own_vdr p3)), .val (.int (own_vdr p4)), .val (.int (own_vdr p5)), .val (.ref b69), .val (.ref b82), .val (.int (own_qa2 p2 p3)), .val (.int ((2 : Int32) - (own_qa2 p2 p3))), .val (.int (own_ex2 p1 p2 p3 p6))] [])) _
      refine XS.iconst X111.here hx rfl (hb hby at_301) ?_
      show Steps p.tables e below (T111.setTop (mkF m 302 #[.val (.int p1), .val (.int p2), .val (.int p3), .val (.int p4), .val (.int p5), .val (.int p6), .val (.int (2 : Int32)), .val (.int (own_most p1 p6)), .val (.int (own_vdr p2)), .val (.int (own_vdr p3)), .val (.int (own_vdr p4)), .val (.int (own_vdr p5)), .val (.ref b69), .val (.ref b82), .val (.int (own_qa2 p2 p3)), .val (.int ((2 : Int32) - (own_qa2 p2 p3))), .val (.int (own_ex2 p1 p2 p3 p6))] [(.int (1 : Int32))])) _
      refine XS.goto X111.here hx rfl (pc0 := 302) (pc' := 306) rfl (hb hby at_302) (by decide) (by decide) ?_
      exact k
    obtain ⟨fs, hr, hrun, hended, hW, hsame⟩ := X111.leave (v := (some (.int (1 : Int32)))) (fun h => by rw [Bd.returns] at h; cases h)
    refine ⟨_, _, k113 _ ?_, hrun, hended, _, _, rfl, ?_, ⟨_, rfl⟩, hW.wide, hW.no_new_pair _, hsame.mono (by decide) (by decide)⟩
    · exact retN X111 hx (t := .boolean) Bd.returns (by simp) (hb hby at_306) hr
    · exact ⟨rfl, N111⟩
  · have k114 : ∀ t, Steps p.tables e below (T14.setTop (mkF m 54 #[.val (.int p1), .val (.int p2), .val (.int p3), .val (.int p4), .val (.int p5), .val (.int p6), .val (.int (3 : Int32)), .val (.int (own_most p1 p6)), .val (.int (own_vdr p2)), .val (.int (own_vdr p3)), .val (.int (own_vdr p4)), .val (.int (own_vdr p5)), .unset, .unset, .unset, .unset, .unset] [])) t → Steps p.tables e below (s₁.setTop (entryFrame m #[(.int p1), (.int p2), (.int p3), (.int p4), (.int p5), (.int p6)] maxLocals)) t := by have z := k16; rw [he] at z; exact z
    have k115 : ∀ t, Steps p.tables e below (T14.setTop (mkF m 117 #[.val (.int p1), .val (.int p2), .val (.int p3), .val (.int p4), .val (.int p5), .val (.int p6), .val (.int (3 : Int32)), .val (.int (own_most p1 p6)), .val (.int (own_vdr p2)), .val (.int (own_vdr p3)), .val (.int (own_vdr p4)), .val (.int (own_vdr p5)), .unset, .unset, .unset, .unset, .unset] [(.int (3 : Int32))])) t → Steps p.tables e below (s₁.setTop (entryFrame m #[(.int p1), (.int p2), (.int p3), (.int p4), (.int p5), (.int p6)] maxLocals)) t := by
      intro t k
      refine k114 t ?_
      show Steps p.tables e below (T14.setTop (mkF m 54 #[.val (.int p1), .val (.int p2), .val (.int p3), .val (.int p4), .val (.int p5), .val (.int p6), .val (.int (3 : Int32)), .val (.int (own_most p1 p6)), .val (.int (own_vdr p2)), .val (.int (own_vdr p3)), .val (.int (own_vdr p4)), .val (.int (own_vdr p5)), .unset, .unset, .unset, .unset, .unset] [])) _
      refine XS.iload X14.here hx rfl (hb hby at_54) rfl ?_
      show Steps p.tables e below (T14.setTop (mkF m 56 #[.val (.int p1), .val (.int p2), .val (.int p3), .val (.int p4), .val (.int p5), .val (.int p6), .val (.int (3 : Int32)), .val (.int (own_most p1 p6)), .val (.int (own_vdr p2)), .val (.int (own_vdr p3)), .val (.int (own_vdr p4)), .val (.int (own_vdr p5)), .unset, .unset, .unset, .unset, .unset] [(.int (3 : Int32))])) _
      refine XS.ifYes X14.here hx rfl (pc0 := 56) (pc' := 67) rfl (hb hby at_56) rfl ((if0 _ _).trans (feq (by decide : ¬ ((3 : Int32) = (0 : Int32)))).2) (by decide) (by decide) ?_
      show Steps p.tables e below (T14.setTop (mkF m 67 #[.val (.int p1), .val (.int p2), .val (.int p3), .val (.int p4), .val (.int p5), .val (.int p6), .val (.int (3 : Int32)), .val (.int (own_most p1 p6)), .val (.int (own_vdr p2)), .val (.int (own_vdr p3)), .val (.int (own_vdr p4)), .val (.int (own_vdr p5)), .unset, .unset, .unset, .unset, .unset] [])) _
      refine XS.iload X14.here hx rfl (hb hby at_67) rfl ?_
      show Steps p.tables e below (T14.setTop (mkF m 69 #[.val (.int p1), .val (.int p2), .val (.int p3), .val (.int p4), .val (.int p5), .val (.int p6), .val (.int (3 : Int32)), .val (.int (own_most p1 p6)), .val (.int (own_vdr p2)), .val (.int (own_vdr p3)), .val (.int (own_vdr p4)), .val (.int (own_vdr p5)), .unset, .unset, .unset, .unset, .unset] [(.int (3 : Int32))])) _
      refine XS.iconst X14.here hx rfl (hb hby at_69) ?_
      show Steps p.tables e below (T14.setTop (mkF m 70 #[.val (.int p1), .val (.int p2), .val (.int p3), .val (.int p4), .val (.int p5), .val (.int p6), .val (.int (3 : Int32)), .val (.int (own_most p1 p6)), .val (.int (own_vdr p2)), .val (.int (own_vdr p3)), .val (.int (own_vdr p4)), .val (.int (own_vdr p5)), .unset, .unset, .unset, .unset, .unset] [(.int (1 : Int32)), (.int (3 : Int32))])) _
      refine XS.icmpYes X14.here hx rfl (pc0 := 70) (pc' := 86) rfl (hb hby at_70) rfl (feq (by decide : ¬ ((3 : Int32) = (1 : Int32)))).2 (by decide) (by decide) ?_
      show Steps p.tables e below (T14.setTop (mkF m 86 #[.val (.int p1), .val (.int p2), .val (.int p3), .val (.int p4), .val (.int p5), .val (.int p6), .val (.int (3 : Int32)), .val (.int (own_most p1 p6)), .val (.int (own_vdr p2)), .val (.int (own_vdr p3)), .val (.int (own_vdr p4)), .val (.int (own_vdr p5)), .unset, .unset, .unset, .unset, .unset] [])) _
      refine XS.iload X14.here hx rfl (hb hby at_86) rfl ?_
      show Steps p.tables e below (T14.setTop (mkF m 88 #[.val (.int p1), .val (.int p2), .val (.int p3), .val (.int p4), .val (.int p5), .val (.int p6), .val (.int (3 : Int32)), .val (.int (own_most p1 p6)), .val (.int (own_vdr p2)), .val (.int (own_vdr p3)), .val (.int (own_vdr p4)), .val (.int (own_vdr p5)), .unset, .unset, .unset, .unset, .unset] [(.int (3 : Int32))])) _
      refine XS.iconst X14.here hx rfl (hb hby at_88) ?_
      show Steps p.tables e below (T14.setTop (mkF m 89 #[.val (.int p1), .val (.int p2), .val (.int p3), .val (.int p4), .val (.int p5), .val (.int p6), .val (.int (3 : Int32)), .val (.int (own_most p1 p6)), .val (.int (own_vdr p2)), .val (.int (own_vdr p3)), .val (.int (own_vdr p4)), .val (.int (own_vdr p5)), .unset, .unset, .unset, .unset, .unset] [(.int (2 : Int32)), (.int (3 : Int32))])) _
      refine XS.icmpYes X14.here hx rfl (pc0 := 89) (pc' := 110) rfl (hb hby at_89) rfl (feq (by decide : ¬ ((3 : Int32) = (2 : Int32)))).2 (by decide) (by decide) ?_
      show Steps p.tables e below (T14.setTop (mkF m 110 #[.val (.int p1), .val (.int p2), .val (.int p3), .val (.int p4), .val (.int p5), .val (.int p6), .val (.int (3 : Int32)), .val (.int (own_most p1 p6)), .val (.int (own_vdr p2)), .val (.int (own_vdr p3)), .val (.int (own_vdr p4)), .val (.int (own_vdr p5)), .unset, .unset, .unset, .unset, .unset] [])) _
      refine XS.iload X14.here hx rfl (hb hby at_110) rfl ?_
      show Steps p.tables e below (T14.setTop (mkF m 112 #[.val (.int p1), .val (.int p2), .val (.int p3), .val (.int p4), .val (.int p5), .val (.int p6), .val (.int (3 : Int32)), .val (.int (own_most p1 p6)), .val (.int (own_vdr p2)), .val (.int (own_vdr p3)), .val (.int (own_vdr p4)), .val (.int (own_vdr p5)), .unset, .unset, .unset, .unset, .unset] [(.int (3 : Int32))])) _
      refine XS.iconst X14.here hx rfl (hb hby at_112) ?_
      show Steps p.tables e below (T14.setTop (mkF m 113 #[.val (.int p1), .val (.int p2), .val (.int p3), .val (.int p4), .val (.int p5), .val (.int p6), .val (.int (3 : Int32)), .val (.int (own_most p1 p6)), .val (.int (own_vdr p2)), .val (.int (own_vdr p3)), .val (.int (own_vdr p4)), .val (.int (own_vdr p5)), .unset, .unset, .unset, .unset, .unset] [(.int (3 : Int32)), (.int (3 : Int32))])) _
      refine XS.icmpNo X14.here hx rfl (hb hby at_113) rfl (teq (rfl : (3 : Int32) = (3 : Int32))).2 ?_
      show Steps p.tables e below (T14.setTop (mkF m 116 #[.val (.int p1), .val (.int p2), .val (.int p3), .val (.int p4), .val (.int p5), .val (.int p6), .val (.int (3 : Int32)), .val (.int (own_most p1 p6)), .val (.int (own_vdr p2)), .val (.int (own_vdr p3)), .val (.int (own_vdr p4)), .val (.int (own_vdr p5)), .unset, .unset, .unset, .unset, .unset] [])) _
      refine XS.iconst X14.here hx rfl (hb hby at_116) ?_
      exact k
    obtain ⟨T116, h116, c116, X116, e116, E116, A116, st116⟩ := newP X14 hx hZ (hw _ (List.mem_of_getElem? (i := 7) rfl)) e14 (g := (mkF m 117 #[.val (.int p1), .val (.int p2), .val (.int p3), .val (.int p4), .val (.int p5), .val (.int p6), .val (.int (3 : Int32)), .val (.int (own_most p1 p6)), .val (.int (own_vdr p2)), .val (.int (own_vdr p3)), .val (.int (own_vdr p4)), .val (.int (own_vdr p5)), .unset, .unset, .unset, .unset, .unset] [(.int (3 : Int32))])) rfl (hb hby at_117) rfl (by decide) (cap := 3) (by decide) (by decide) (by decide) (by decide)
    obtain ⟨b116, g116⟩ : ∃ z, z = h0.size := ⟨_, rfl⟩
    rw [← g116] at A116 st116
    have ge116 : n0 ≤ b116 := Nat.le_trans Z0 (Nat.le_of_eq g116.symm)
    have bo116 : h0.size ≤ b116 := Nat.le_trans (Keep.refl h0 []).1 (Nat.le_of_eq g116.symm)
    have Z116 : n0 ≤ h116.size := Nat.le_trans Z0 E116.1
    have K116 : Keep h0 h116 [] := (Keep.refl h0 []).ext E116
    have Xo116 := Xo.ext E116
    have V116 : Arv Z h116 b116 c116 .char (3 : Int32) [(.int (0 : Int32)), (.int (0 : Int32)), (.int (0 : Int32))] (.int (0 : Int32)) := (Arv.new A116 (by decide)).pad (pad_rep [] (.int (0 : Int32)) 3)
    have k117 : ∀ t, Steps p.tables e below (T116.setTop (mkF m 119 #[.val (.int p1), .val (.int p2), .val (.int p3), .val (.int p4), .val (.int p5), .val (.int p6), .val (.int (3 : Int32)), .val (.int (own_most p1 p6)), .val (.int (own_vdr p2)), .val (.int (own_vdr p3)), .val (.int (own_vdr p4)), .val (.int (own_vdr p5)), .unset, .unset, .unset, .unset, .unset] [(.ref b116)])) t → Steps p.tables e below (s₁.setTop (entryFrame m #[(.int p1), (.int p2), (.int p3), (.int p4), (.int p5), (.int p6)] maxLocals)) t := fun t k => k115 t (st116 t k)
    have k118 : ∀ t, Steps p.tables e below (T116.setTop (mkF m 123 #[.val (.int p1), .val (.int p2), .val (.int p3), .val (.int p4), .val (.int p5), .val (.int p6), .val (.int (3 : Int32)), .val (.int (own_most p1 p6)), .val (.int (own_vdr p2)), .val (.int (own_vdr p3)), .val (.int (own_vdr p4)), .val (.int (own_vdr p5)), .unset, .unset, .unset, .unset, .unset] [(.int (own_vdr p2)), (.int (0 : Int32)), (.ref b116), (.ref b116)])) t → Steps p.tables e below (s₁.setTop (entryFrame m #[(.int p1), (.int p2), (.int p3), (.int p4), (.int p5), (.int p6)] maxLocals)) t := by
      intro t k
      refine k117 t ?_
      show Steps p.tables e below (T116.setTop (mkF m 119 #[.val (.int p1), .val (.int p2), .val (.int p3), .val (.int p4), .val (.int p5), .val (.int p6), .val (.int (3 : Int32)), .val (.int (own_most p1 p6)), .val (.int (own_vdr p2)), .val (.int (own_vdr p3)), .val (.int (own_vdr p4)), .val (.int (own_vdr p5)), .unset, .unset, .unset, .unset, .unset] [(.ref b116)])) _
      refine XS.dup X116.here hx rfl (hb hby at_119) rfl rfl ?_
      show Steps p.tables e below (T116.setTop (mkF m 120 #[.val (.int p1), .val (.int p2), .val (.int p3), .val (.int p4), .val (.int p5), .val (.int p6), .val (.int (3 : Int32)), .val (.int (own_most p1 p6)), .val (.int (own_vdr p2)), .val (.int (own_vdr p3)), .val (.int (own_vdr p4)), .val (.int (own_vdr p5)), .unset, .unset, .unset, .unset, .unset] [(.ref b116), (.ref b116)])) _
      refine XS.iconst X116.here hx rfl (hb hby at_120) ?_
      show Steps p.tables e below (T116.setTop (mkF m 121 #[.val (.int p1), .val (.int p2), .val (.int p3), .val (.int p4), .val (.int p5), .val (.int p6), .val (.int (3 : Int32)), .val (.int (own_most p1 p6)), .val (.int (own_vdr p2)), .val (.int (own_vdr p3)), .val (.int (own_vdr p4)), .val (.int (own_vdr p5)), .unset, .unset, .unset, .unset, .unset] [(.int (0 : Int32)), (.ref b116), (.ref b116)])) _
      refine XS.iload X116.here hx rfl (hb hby at_121) rfl ?_
      exact k
    obtain ⟨cl119, Ar119, qa119, Sa119, Na119, Ha119, Ga119⟩ := id V116
    have hin120 : ¬ ((0 : Int32) < 0 ∨ cl119.slots.size ≤ ((0 : Int32)).toNatClampNeg) := inb_of Sa119 ⟨by decide, by decide⟩
    obtain ⟨T121, h121, X121, e121, W121, st121⟩ := stC X116 hx hZ e116 Ar119 (j := (0 : Int32)) hin120 (g := (mkF m 123 #[.val (.int p1), .val (.int p2), .val (.int p3), .val (.int p4), .val (.int p5), .val (.int p6), .val (.int (3 : Int32)), .val (.int (own_most p1 p6)), .val (.int (own_vdr p2)), .val (.int (own_vdr p3)), .val (.int (own_vdr p4)), .val (.int (own_vdr p5)), .unset, .unset, .unset, .unset, .unset] [(.int (own_vdr p2)), (.int (0 : Int32)), (.ref b116), (.ref b116)])) rfl rfl (hb hby at_123)
    have V121 : Arv Z h121 b116 c116 .char (3 : Int32) [(.int (nar .char (own_vdr p2))), (.int (0 : Int32)), (.int (0 : Int32))] (.int (0 : Int32)) := Arv.set Ar119 qa119 Sa119 Na119 Ha119 Ga119 (fits_nar_char _) W121 0 rfl (Nat.le_of_ble_eq_true rfl)
    have N121 := Fr.snoc X121 N14 ge116
    have K121 : Keep h0 h121 [] := K116.wr W121 (Or.inr bo116)
    have Z121 : n0 ≤ h121.size := Nat.le_trans Z116 (Keep.of_wr W121).1
    have Xo121 := Xo116.wr W121 ge116
    have k122 : ∀ t, Steps p.tables e below (T121.setTop (mkF m 124 #[.val (.int p1), .val (.int p2), .val (.int p3), .val (.int p4), .val (.int p5), .val (.int p6), .val (.int (3 : Int32)), .val (.int (own_most p1 p6)), .val (.int (own_vdr p2)), .val (.int (own_vdr p3)), .val (.int (own_vdr p4)), .val (.int (own_vdr p5)), .unset, .unset, .unset, .unset, .unset] [(.ref b116)])) t → Steps p.tables e below (s₁.setTop (entryFrame m #[(.int p1), (.int p2), (.int p3), (.int p4), (.int p5), (.int p6)] maxLocals)) t := fun t k => k118 t (st121 t k)
    have k123 : ∀ t, Steps p.tables e below (T121.setTop (mkF m 128 #[.val (.int p1), .val (.int p2), .val (.int p3), .val (.int p4), .val (.int p5), .val (.int p6), .val (.int (3 : Int32)), .val (.int (own_most p1 p6)), .val (.int (own_vdr p2)), .val (.int (own_vdr p3)), .val (.int (own_vdr p4)), .val (.int (own_vdr p5)), .unset, .unset, .unset, .unset, .unset] [(.int (own_vdr p3)), (.int (1 : Int32)), (.ref b116), (.ref b116)])) t → Steps p.tables e below (s₁.setTop (entryFrame m #[(.int p1), (.int p2), (.int p3), (.int p4), (.int p5), (.int p6)] maxLocals)) t := by
      intro t k
      refine k122 t ?_
      show Steps p.tables e below (T121.setTop (mkF m 124 #[.val (.int p1), .val (.int p2), .val (.int p3), .val (.int p4), .val (.int p5), .val (.int p6), .val (.int (3 : Int32)), .val (.int (own_most p1 p6)), .val (.int (own_vdr p2)), .val (.int (own_vdr p3)), .val (.int (own_vdr p4)), .val (.int (own_vdr p5)), .unset, .unset, .unset, .unset, .unset] [(.ref b116)])) _
      refine XS.dup X121.here hx rfl (hb hby at_124) rfl rfl ?_
      show Steps p.tables e below (T121.setTop (mkF m 125 #[.val (.int p1), .val (.int p2), .val (.int p3), .val (.int p4), .val (.int p5), .val (.int p6), .val (.int (3 : Int32)), .val (.int (own_most p1 p6)), .val (.int (own_vdr p2)), .val (.int (own_vdr p3)), .val (.int (own_vdr p4)), .val (.int (own_vdr p5)), .unset, .unset, .unset, .unset, .unset] [(.ref b116), (.ref b116)])) _
      refine XS.iconst X121.here hx rfl (hb hby at_125) ?_
      show Steps p.tables e below (T121.setTop (mkF m 126 #[.val (.int p1), .val (.int p2), .val (.int p3), .val (.int p4), .val (.int p5), .val (.int p6), .val (.int (3 : Int32)), .val (.int (own_most p1 p6)), .val (.int (own_vdr p2)), .val (.int (own_vdr p3)), .val (.int (own_vdr p4)), .val (.int (own_vdr p5)), .unset, .unset, .unset, .unset, .unset] [(.int (1 : Int32)), (.ref b116), (.ref b116)])) _
      refine XS.iload X121.here hx rfl (hb hby at_126) rfl ?_
      exact k
    obtain ⟨cl124, Ar124, qa124, Sa124, Na124, Ha124, Ga124⟩ := id V121
    have hin125 : ¬ ((1 : Int32) < 0 ∨ cl124.slots.size ≤ ((1 : Int32)).toNatClampNeg) := inb_of Sa124 ⟨by decide, by decide⟩
    obtain ⟨T126, h126, X126, e126, W126, st126⟩ := stC X121 hx hZ e121 Ar124 (j := (1 : Int32)) hin125 (g := (mkF m 128 #[.val (.int p1), .val (.int p2), .val (.int p3), .val (.int p4), .val (.int p5), .val (.int p6), .val (.int (3 : Int32)), .val (.int (own_most p1 p6)), .val (.int (own_vdr p2)), .val (.int (own_vdr p3)), .val (.int (own_vdr p4)), .val (.int (own_vdr p5)), .unset, .unset, .unset, .unset, .unset] [(.int (own_vdr p3)), (.int (1 : Int32)), (.ref b116), (.ref b116)])) rfl rfl (hb hby at_128)
    have V126 : Arv Z h126 b116 c116 .char (3 : Int32) [(.int (nar .char (own_vdr p2))), (.int (nar .char (own_vdr p3))), (.int (0 : Int32))] (.int (0 : Int32)) := Arv.set Ar124 qa124 Sa124 Na124 Ha124 Ga124 (fits_nar_char _) W126 1 rfl (Nat.le_of_ble_eq_true rfl)
    have N126 := Fr.snoc X126 N121 ge116
    have K126 : Keep h0 h126 [] := K121.wr W126 (Or.inr bo116)
    have Z126 : n0 ≤ h126.size := Nat.le_trans Z121 (Keep.of_wr W126).1
    have Xo126 := Xo121.wr W126 ge116
    have k127 : ∀ t, Steps p.tables e below (T126.setTop (mkF m 129 #[.val (.int p1), .val (.int p2), .val (.int p3), .val (.int p4), .val (.int p5), .val (.int p6), .val (.int (3 : Int32)), .val (.int (own_most p1 p6)), .val (.int (own_vdr p2)), .val (.int (own_vdr p3)), .val (.int (own_vdr p4)), .val (.int (own_vdr p5)), .unset, .unset, .unset, .unset, .unset] [(.ref b116)])) t → Steps p.tables e below (s₁.setTop (entryFrame m #[(.int p1), (.int p2), (.int p3), (.int p4), (.int p5), (.int p6)] maxLocals)) t := fun t k => k123 t (st126 t k)
    have k128 : ∀ t, Steps p.tables e below (T126.setTop (mkF m 133 #[.val (.int p1), .val (.int p2), .val (.int p3), .val (.int p4), .val (.int p5), .val (.int p6), .val (.int (3 : Int32)), .val (.int (own_most p1 p6)), .val (.int (own_vdr p2)), .val (.int (own_vdr p3)), .val (.int (own_vdr p4)), .val (.int (own_vdr p5)), .unset, .unset, .unset, .unset, .unset] [(.int (own_vdr p4)), (.int (2 : Int32)), (.ref b116), (.ref b116)])) t → Steps p.tables e below (s₁.setTop (entryFrame m #[(.int p1), (.int p2), (.int p3), (.int p4), (.int p5), (.int p6)] maxLocals)) t := by
      intro t k
      refine k127 t ?_
      show Steps p.tables e below (T126.setTop (mkF m 129 #[.val (.int p1), .val (.int p2), .val (.int p3), .val (.int p4), .val (.int p5), .val (.int p6), .val (.int (3 : Int32)), .val (.int (own_most p1 p6)), .val (.int (own_vdr p2)), .val (.int (own_vdr p3)), .val (.int (own_vdr p4)), .val (.int (own_vdr p5)), .unset, .unset, .unset, .unset, .unset] [(.ref b116)])) _
      refine XS.dup X126.here hx rfl (hb hby at_129) rfl rfl ?_
      show Steps p.tables e below (T126.setTop (mkF m 130 #[.val (.int p1), .val (.int p2), .val (.int p3), .val (.int p4), .val (.int p5), .val (.int p6), .val (.int (3 : Int32)), .val (.int (own_most p1 p6)), .val (.int (own_vdr p2)), .val (.int (own_vdr p3)), .val (.int (own_vdr p4)), .val (.int (own_vdr p5)), .unset, .unset, .unset, .unset, .unset] [(.ref b116), (.ref b116)])) _
      refine XS.iconst X126.here hx rfl (hb hby at_130) ?_
      show Steps p.tables e below (T126.setTop (mkF m 131 #[.val (.int p1), .val (.int p2), .val (.int p3), .val (.int p4), .val (.int p5), .val (.int p6), .val (.int (3 : Int32)), .val (.int (own_most p1 p6)), .val (.int (own_vdr p2)), .val (.int (own_vdr p3)), .val (.int (own_vdr p4)), .val (.int (own_vdr p5)), .unset, .unset, .unset, .unset, .unset] [(.int (2 : Int32)), (.ref b116), (.ref b116)])) _
      refine XS.iload X126.here hx rfl (hb hby at_131) rfl ?_
      exact k
    obtain ⟨cl129, Ar129, qa129, Sa129, Na129, Ha129, Ga129⟩ := id V126
    have hin130 : ¬ ((2 : Int32) < 0 ∨ cl129.slots.size ≤ ((2 : Int32)).toNatClampNeg) := inb_of Sa129 ⟨by decide, by decide⟩
    obtain ⟨T131, h131, X131, e131, W131, st131⟩ := stC X126 hx hZ e126 Ar129 (j := (2 : Int32)) hin130 (g := (mkF m 133 #[.val (.int p1), .val (.int p2), .val (.int p3), .val (.int p4), .val (.int p5), .val (.int p6), .val (.int (3 : Int32)), .val (.int (own_most p1 p6)), .val (.int (own_vdr p2)), .val (.int (own_vdr p3)), .val (.int (own_vdr p4)), .val (.int (own_vdr p5)), .unset, .unset, .unset, .unset, .unset] [(.int (own_vdr p4)), (.int (2 : Int32)), (.ref b116), (.ref b116)])) rfl rfl (hb hby at_133)
    have V131 : Arv Z h131 b116 c116 .char (3 : Int32) [(.int (nar .char (own_vdr p2))), (.int (nar .char (own_vdr p3))), (.int (nar .char (own_vdr p4)))] (.int (0 : Int32)) := Arv.set Ar129 qa129 Sa129 Na129 Ha129 Ga129 (fits_nar_char _) W131 2 rfl (Nat.le_of_ble_eq_true rfl)
    have N131 := Fr.snoc X131 N126 ge116
    have K131 : Keep h0 h131 [] := K126.wr W131 (Or.inr bo116)
    have Z131 : n0 ≤ h131.size := Nat.le_trans Z126 (Keep.of_wr W131).1
    have Xo131 := Xo126.wr W131 ge116
    have k132 : ∀ t, Steps p.tables e below (T131.setTop (mkF m 134 #[.val (.int p1), .val (.int p2), .val (.int p3), .val (.int p4), .val (.int p5), .val (.int p6), .val (.int (3 : Int32)), .val (.int (own_most p1 p6)), .val (.int (own_vdr p2)), .val (.int (own_vdr p3)), .val (.int (own_vdr p4)), .val (.int (own_vdr p5)), .unset, .unset, .unset, .unset, .unset] [(.ref b116)])) t → Steps p.tables e below (s₁.setTop (entryFrame m #[(.int p1), (.int p2), (.int p3), (.int p4), (.int p5), (.int p6)] maxLocals)) t := fun t k => k128 t (st131 t k)
    have k133 : ∀ t, Steps p.tables e below (T131.setTop (mkF m 164 #[.val (.int p1), .val (.int p2), .val (.int p3), .val (.int p4), .val (.int p5), .val (.int p6), .val (.int (3 : Int32)), .val (.int (own_most p1 p6)), .val (.int (own_vdr p2)), .val (.int (own_vdr p3)), .val (.int (own_vdr p4)), .val (.int (own_vdr p5)), .val (.ref b116), .unset, .unset, .unset, .unset] [])) t → Steps p.tables e below (s₁.setTop (entryFrame m #[(.int p1), (.int p2), (.int p3), (.int p4), (.int p5), (.int p6)] maxLocals)) t := by
      intro t k
      refine k132 t ?_
      show Steps p.tables e below (T131.setTop (mkF m 134 #[.val (.int p1), .val (.int p2), .val (.int p3), .val (.int p4), .val (.int p5), .val (.int p6), .val (.int (3 : Int32)), .val (.int (own_most p1 p6)), .val (.int (own_vdr p2)), .val (.int (own_vdr p3)), .val (.int (own_vdr p4)), .val (.int (own_vdr p5)), .unset, .unset, .unset, .unset, .unset] [(.ref b116)])) _
      refine XS.astore X131.here hx rfl (hb hby at_134) rfl rfl (l' := #[.val (.int p1), .val (.int p2), .val (.int p3), .val (.int p4), .val (.int p5), .val (.int p6), .val (.int (3 : Int32)), .val (.int (own_most p1 p6)), .val (.int (own_vdr p2)), .val (.int (own_vdr p3)), .val (.int (own_vdr p4)), .val (.int (own_vdr p5)), .val (.ref b116), .unset, .unset, .unset, .unset]) rfl ?_
      show Steps p.tables e below (T131.setTop (mkF m 136 #[.val (.int p1), .val (.int p2), .val (.int p3), .val (.int p4), .val (.int p5), .val (.int p6), .val (.int (3 : Int32)), .val (.int (own_most p1 p6)), .val (.int (own_vdr p2)), .val (.int (own_vdr p3)), .val (.int (own_vdr p4)), .val (.int (own_vdr p5)), .val (.ref b116), .unset, .unset, .unset, .unset] [])) _
      refine XS.goto X131.here hx rfl (pc0 := 136) (pc' := 164) rfl (hb hby at_136) (by decide) (by decide) ?_
      exact k
    rw [own_drn p2, own_drn p3, own_drn p4] at V131
    have GA3 : own_G Z h131 b116 .char 3 (own_of [(own_vdr p2), (own_vdr p3), (own_vdr p4)]) := own_G.ofV (vs := [(own_vdr p2), (own_vdr p3), (own_vdr p4)]) (n := 3) V131 rfl
    have hch : ∀ i, i < 3 → own_ch ((own_of [(own_vdr p2), (own_vdr p3), (own_vdr p4)]) (0 + i)) := own_chL (vs := [(own_vdr p2), (own_vdr p3), (own_vdr p4)]) (fun v hv => by simp only [List.mem_cons, List.not_mem_nil, or_false] at hv; rcases hv with rfl | rfl | rfl <;> exact own_drb _)
    obtain ⟨T134, h134, X134, e134, E134, A134, D134, -, st134⟩ := newO X131 hx hZ hown (hw _ (List.mem_of_getElem? (i := 8) rfl)) (hw _ (List.mem_of_getElem? (i := 9) rfl)) (hw _ (List.mem_of_getElem? (i := 10) rfl)) e131 (g := (mkF m 164 #[.val (.int p1), .val (.int p2), .val (.int p3), .val (.int p4), .val (.int p5), .val (.int p6), .val (.int (3 : Int32)), .val (.int (own_most p1 p6)), .val (.int (own_vdr p2)), .val (.int (own_vdr p3)), .val (.int (own_vdr p4)), .val (.int (own_vdr p5)), .val (.ref b116), .unset, .unset, .unset, .unset] [])) rfl (hb hby at_164) (by decide) (by decide)
    obtain ⟨b134, g134⟩ : ∃ z, z = h131.size := ⟨_, rfl⟩
    rw [← g134] at A134 D134 st134
    have ge134 : n0 ≤ b134 := Nat.le_trans Z131 (Nat.le_of_eq g134.symm)
    have bo134 : h0.size ≤ b134 := Nat.le_trans K131.1 (Nat.le_of_eq g134.symm)
    have ne135 : b116 ≠ b134 := Nat.ne_of_lt (Nat.lt_of_lt_of_le GA3.lt (Nat.le_of_eq g134.symm))
    have Z134 : n0 ≤ h134.size := Nat.le_trans Z131 E134.1
    have K134 : Keep h0 h134 [] := K131.ext E134
    have Xo134 := Xo131.ext E134
    have f136 := GA3.ext E134
    have f137 : Fld Z h134 b134 "java/lang/String" "value" "[B" .null := D134 (Or.inr (hw _ (List.mem_of_getElem? (i := 23) rfl))) (ty := (.array .byte)) (by decide)
    have f138 : Fld Z h134 b134 "java/lang/String" "coder" "B" (.int (0 : Int32)) := D134 (Or.inr (hw _ (List.mem_of_getElem? (i := 24) rfl))) (ty := .byte) (by decide)
    have k139 : ∀ t, Steps p.tables e below (T134.setTop (mkF m 167 #[.val (.int p1), .val (.int p2), .val (.int p3), .val (.int p4), .val (.int p5), .val (.int p6), .val (.int (3 : Int32)), .val (.int (own_most p1 p6)), .val (.int (own_vdr p2)), .val (.int (own_vdr p3)), .val (.int (own_vdr p4)), .val (.int (own_vdr p5)), .val (.ref b116), .unset, .unset, .unset, .unset] [(.ref b134)])) t → Steps p.tables e below (s₁.setTop (entryFrame m #[(.int p1), (.int p2), (.int p3), (.int p4), (.int p5), (.int p6)] maxLocals)) t := fun t k => k133 t (st134 t k)
    have k140 : ∀ t, Steps p.tables e below (T134.setTop (mkF m 170 #[.val (.int p1), .val (.int p2), .val (.int p3), .val (.int p4), .val (.int p5), .val (.int p6), .val (.int (3 : Int32)), .val (.int (own_most p1 p6)), .val (.int (own_vdr p2)), .val (.int (own_vdr p3)), .val (.int (own_vdr p4)), .val (.int (own_vdr p5)), .val (.ref b116), .unset, .unset, .unset, .unset] [(.ref b116), (.ref b134), (.ref b134)])) t → Steps p.tables e below (s₁.setTop (entryFrame m #[(.int p1), (.int p2), (.int p3), (.int p4), (.int p5), (.int p6)] maxLocals)) t := by
      intro t k
      refine k139 t ?_
      show Steps p.tables e below (T134.setTop (mkF m 167 #[.val (.int p1), .val (.int p2), .val (.int p3), .val (.int p4), .val (.int p5), .val (.int p6), .val (.int (3 : Int32)), .val (.int (own_most p1 p6)), .val (.int (own_vdr p2)), .val (.int (own_vdr p3)), .val (.int (own_vdr p4)), .val (.int (own_vdr p5)), .val (.ref b116), .unset, .unset, .unset, .unset] [(.ref b134)])) _
      refine XS.dup X134.here hx rfl (hb hby at_167) rfl rfl ?_
      show Steps p.tables e below (T134.setTop (mkF m 168 #[.val (.int p1), .val (.int p2), .val (.int p3), .val (.int p4), .val (.int p5), .val (.int p6), .val (.int (3 : Int32)), .val (.int (own_most p1 p6)), .val (.int (own_vdr p2)), .val (.int (own_vdr p3)), .val (.int (own_vdr p4)), .val (.int (own_vdr p5)), .val (.ref b116), .unset, .unset, .unset, .unset] [(.ref b134), (.ref b134)])) _
      refine XS.aload X134.here hx rfl (hb hby at_168) rfl rfl ?_
      exact k
    obtain ⟨_, _, ⟨T141, L141, k141c, n141⟩, -, X141, ⟨Lc141, hQ141, l141, y141, z141⟩, st141⟩ := X134.specialBack hx (y := (⟨"java/lang/String", "<init>", "([C)V"⟩ : MethodName)) rfl hown (mvT hZ (hw _ (List.mem_of_getElem? (i := 11) rfl))) (mvT hZ (hw _ (List.mem_of_getElem? (i := 12) rfl))) (mvT hZ (hw _ (List.mem_of_getElem? (i := 13) rfl))) (by decide) (backOf (W := 1) (own_rms1 l Z a0 hw [] b134 b116 .null (.int (0 : Int32)) 3 (own_of [ (own_vdr p2) , (own_vdr p3) , (own_vdr p4) ]) cs h134 n0 Z134 A134 f137 f138 f136 ge134 ne135 Xo134 SC SA SH SL hcs (by omega) (by omega) hch) hZ (hw _ (List.mem_of_getElem? (i := 13) rfl)) (hw _ (List.mem_of_getElem? (i := 10) rfl)) (by decide) (by decide)) (g := (mkF m 170 #[.val (.int p1), .val (.int p2), .val (.int p3), .val (.int p4), .val (.int p5), .val (.int p6), .val (.int (3 : Int32)), .val (.int (own_most p1 p6)), .val (.int (own_vdr p2)), .val (.int (own_vdr p3)), .val (.int (own_vdr p4)), .val (.int (own_vdr p5)), .val (.ref b116), .unset, .unset, .unset, .unset] [(.ref b116), (.ref b134), (.ref b134)])) rfl (by rw [hml]; rfl) (Steps.refl _) (a := b134) (argsL := [(.ref b116)]) (rest := [(.ref b134)]) (lenOf own_pd18 rfl) rfl (by show 2 * 0 + _ ≤ _; exact Nat.le_of_eq rfl) (hb hby at_170) (fun _ _ => ⟨rfl, e134, (by decide : 2 + 2 ≤ _), (by decide : 7 + 12 ≤ _)⟩)
    dsimp only [Pt.U, Pt.locs, Pt.cells, Pt.slots] at X141 l141 y141 z141 st141 hQ141
    subst l141 y141 z141
    obtain ⟨rfl, N141q, Kq141, fq141_0⟩ := hQ141
    have N141 := Fr.app N131 N141q
    have f142 := f136.keep Kq141 (List.not_mem_cons_of_ne_of_not_mem ne135 List.not_mem_nil)
    have f143 := A134.keep Kq141
    have Z141 : n0 ≤ T141.heap.size := Nat.le_trans Z134 Kq141.1
    have K141 : Keep h0 T141.heap [] := K134.trans Kq141 (fun x hx => by rcases List.mem_cons.mp hx with rfl | hx; exact Or.inr bo134; exact nomatch hx)
    have Xo141 := Xo134.keep Kq141 (allS ge134 all0)
    have k144 : ∀ t, Steps p.tables e below (T141.setTop (mkF m 173 #[.val (.int p1), .val (.int p2), .val (.int p3), .val (.int p4), .val (.int p5), .val (.int p6), .val (.int (3 : Int32)), .val (.int (own_most p1 p6)), .val (.int (own_vdr p2)), .val (.int (own_vdr p3)), .val (.int (own_vdr p4)), .val (.int (own_vdr p5)), .val (.ref b116), .unset, .unset, .unset, .unset] [(.ref b134)])) t → Steps p.tables e below (s₁.setTop (entryFrame m #[(.int p1), (.int p2), (.int p3), (.int p4), (.int p5), (.int p6)] maxLocals)) t := fun t k => k140 t (st141.trans k)
    have k145 : ∀ t, Steps p.tables e below (T141.setTop (mkF m 178 #[.val (.int p1), .val (.int p2), .val (.int p3), .val (.int p4), .val (.int p5), .val (.int p6), .val (.int (3 : Int32)), .val (.int (own_most p1 p6)), .val (.int (own_vdr p2)), .val (.int (own_vdr p3)), .val (.int (own_vdr p4)), .val (.int (own_vdr p5)), .val (.ref b116), .val (.ref b134), .val (.int (0 : Int32)), .unset, .unset] [])) t → Steps p.tables e below (s₁.setTop (entryFrame m #[(.int p1), (.int p2), (.int p3), (.int p4), (.int p5), (.int p6)] maxLocals)) t := by
      intro t k
      refine k144 t ?_
      show Steps p.tables e below (T141.setTop (mkF m 173 #[.val (.int p1), .val (.int p2), .val (.int p3), .val (.int p4), .val (.int p5), .val (.int p6), .val (.int (3 : Int32)), .val (.int (own_most p1 p6)), .val (.int (own_vdr p2)), .val (.int (own_vdr p3)), .val (.int (own_vdr p4)), .val (.int (own_vdr p5)), .val (.ref b116), .unset, .unset, .unset, .unset] [(.ref b134)])) _
      refine XS.astore X141.here hx rfl (hb hby at_173) rfl rfl (l' := #[.val (.int p1), .val (.int p2), .val (.int p3), .val (.int p4), .val (.int p5), .val (.int p6), .val (.int (3 : Int32)), .val (.int (own_most p1 p6)), .val (.int (own_vdr p2)), .val (.int (own_vdr p3)), .val (.int (own_vdr p4)), .val (.int (own_vdr p5)), .val (.ref b116), .val (.ref b134), .unset, .unset, .unset]) rfl ?_
      show Steps p.tables e below (T141.setTop (mkF m 175 #[.val (.int p1), .val (.int p2), .val (.int p3), .val (.int p4), .val (.int p5), .val (.int p6), .val (.int (3 : Int32)), .val (.int (own_most p1 p6)), .val (.int (own_vdr p2)), .val (.int (own_vdr p3)), .val (.int (own_vdr p4)), .val (.int (own_vdr p5)), .val (.ref b116), .val (.ref b134), .unset, .unset, .unset] [])) _
      refine XS.iconst X141.here hx rfl (hb hby at_175) ?_
      show Steps p.tables e below (T141.setTop (mkF m 176 #[.val (.int p1), .val (.int p2), .val (.int p3), .val (.int p4), .val (.int p5), .val (.int p6), .val (.int (3 : Int32)), .val (.int (own_most p1 p6)), .val (.int (own_vdr p2)), .val (.int (own_vdr p3)), .val (.int (own_vdr p4)), .val (.int (own_vdr p5)), .val (.ref b116), .val (.ref b134), .unset, .unset, .unset] [(.int (0 : Int32))])) _
      refine XS.istore X141.here hx rfl (hb hby at_176) rfl (l' := #[.val (.int p1), .val (.int p2), .val (.int p3), .val (.int p4), .val (.int p5), .val (.int p6), .val (.int (3 : Int32)), .val (.int (own_most p1 p6)), .val (.int (own_vdr p2)), .val (.int (own_vdr p3)), .val (.int (own_vdr p4)), .val (.int (own_vdr p5)), .val (.ref b116), .val (.ref b134), .val (.int (0 : Int32)), .unset, .unset]) rfl ?_
      exact k
    have sg146 : ∃ (T' : State) (L' : List Loc), Stand p l e room_1 s m #[(.int p1), (.int p2), (.int p3), (.int p4), (.int p5), (.int p6)] below meth c T' L' 4 19 ∧ T'.heap = T141.heap ∧ Fr n0 L' ∧ ∀ t, Steps p.tables e below (T'.setTop (mkF m 206 #[.val (.int p1), .val (.int p2), .val (.int p3), .val (.int p4), .val (.int p5), .val (.int p6), .val (.int (3 : Int32)), .val (.int (own_most p1 p6)), .val (.int (own_vdr p2)), .val (.int (own_vdr p3)), .val (.int (own_vdr p4)), .val (.int (own_vdr p5)), .val (.ref b116), .val (.ref b134), .val (.int (own_qa3 p2 p3)), .unset, .unset] [])) t → Steps p.tables e below (s₁.setTop (entryFrame m #[(.int p1), (.int p2), (.int p3), (.int p4), (.int p5), (.int p6)] maxLocals)) t := by
      have k147 : ∀ t, Steps p.tables e below (T141.setTop (mkF m 186 #[.val (.int p1), .val (.int p2), .val (.int p3), .val (.int p4), .val (.int p5), .val (.int p6), .val (.int (3 : Int32)), .val (.int (own_most p1 p6)), .val (.int (own_vdr p2)), .val (.int (own_vdr p3)), .val (.int (own_vdr p4)), .val (.int (own_vdr p5)), .val (.ref b116), .val (.ref b134), .val (.int (0 : Int32)), .unset, .unset] [(.int (own_vdr p2))])) t → Steps p.tables e below (s₁.setTop (entryFrame m #[(.int p1), (.int p2), (.int p3), (.int p4), (.int p5), (.int p6)] maxLocals)) t := by
        intro t k
        refine k145 t ?_
        show Steps p.tables e below (T141.setTop (mkF m 178 #[.val (.int p1), .val (.int p2), .val (.int p3), .val (.int p4), .val (.int p5), .val (.int p6), .val (.int (3 : Int32)), .val (.int (own_most p1 p6)), .val (.int (own_vdr p2)), .val (.int (own_vdr p3)), .val (.int (own_vdr p4)), .val (.int (own_vdr p5)), .val (.ref b116), .val (.ref b134), .val (.int (0 : Int32)), .unset, .unset] [])) _
        refine XS.iload X141.here hx rfl (hb hby at_178) rfl ?_
        show Steps p.tables e below (T141.setTop (mkF m 180 #[.val (.int p1), .val (.int p2), .val (.int p3), .val (.int p4), .val (.int p5), .val (.int p6), .val (.int (3 : Int32)), .val (.int (own_most p1 p6)), .val (.int (own_vdr p2)), .val (.int (own_vdr p3)), .val (.int (own_vdr p4)), .val (.int (own_vdr p5)), .val (.ref b116), .val (.ref b134), .val (.int (0 : Int32)), .unset, .unset] [(.int (3 : Int32))])) _
        refine XS.iconst X141.here hx rfl (hb hby at_180) ?_
        show Steps p.tables e below (T141.setTop (mkF m 181 #[.val (.int p1), .val (.int p2), .val (.int p3), .val (.int p4), .val (.int p5), .val (.int p6), .val (.int (3 : Int32)), .val (.int (own_most p1 p6)), .val (.int (own_vdr p2)), .val (.int (own_vdr p3)), .val (.int (own_vdr p4)), .val (.int (own_vdr p5)), .val (.ref b116), .val (.ref b134), .val (.int (0 : Int32)), .unset, .unset] [(.int (2 : Int32)), (.int (3 : Int32))])) _
        refine XS.icmpNo X141.here hx rfl (hb hby at_181) rfl (flt (by decide : ¬ ((3 : Int32) < (2 : Int32)))).1 ?_
        show Steps p.tables e below (T141.setTop (mkF m 184 #[.val (.int p1), .val (.int p2), .val (.int p3), .val (.int p4), .val (.int p5), .val (.int p6), .val (.int (3 : Int32)), .val (.int (own_most p1 p6)), .val (.int (own_vdr p2)), .val (.int (own_vdr p3)), .val (.int (own_vdr p4)), .val (.int (own_vdr p5)), .val (.ref b116), .val (.ref b134), .val (.int (0 : Int32)), .unset, .unset] [])) _
        refine XS.iload X141.here hx rfl (hb hby at_184) rfl ?_
        exact k
      obtain ⟨_, _, ⟨T148, L148, k148c, n148⟩, -, X148, ⟨Lc148, hQ148, l148, y148, z148⟩, st148⟩ := Jvm.LawKit.callS X141 hx (y := (⟨"com/example/daftar/daftar/model/CharactersIsOneToPinLaw", "hi", "(C)Z"⟩ : MethodName)) hown (mvT hZ (hw _ (List.mem_of_getElem? (i := 92) rfl))) (mvT hZ (hw _ (List.mem_of_getElem? (i := 93) rfl))) (mvT hZ (hw _ (List.mem_of_getElem? (i := 2) rfl))) (mvT hZ (hw _ (List.mem_of_getElem? (i := 94) rfl))) (by decide) (backOf (W := 0) (own_rmhi l Z a0 hw [] (own_vdr p2) T141.heap n0 Z141) hZ (hw _ (List.mem_of_getElem? (i := 94) rfl)) (hw _ (List.mem_of_getElem? (i := 2) rfl)) (by decide) (by decide)) (g := (mkF m 186 #[.val (.int p1), .val (.int p2), .val (.int p3), .val (.int p4), .val (.int p5), .val (.int p6), .val (.int (3 : Int32)), .val (.int (own_most p1 p6)), .val (.int (own_vdr p2)), .val (.int (own_vdr p3)), .val (.int (own_vdr p4)), .val (.int (own_vdr p5)), .val (.ref b116), .val (.ref b134), .val (.int (0 : Int32)), .unset, .unset] [(.int (own_vdr p2))])) rfl (by rw [hml]; rfl) (argsL := [(.int (own_vdr p2))]) (rest := []) (lenOf own_pd10 rfl) rfl (by show 2 * 0 + _ ≤ _; exact Nat.le_of_eq rfl) (hb hby at_186) (fun _ _ => ⟨rfl, rfl, (by decide : 4 + 0 ≤ _), (by decide : 19 + 0 ≤ _)⟩)
      dsimp only [Pt.U, Pt.locs, Pt.cells, Pt.slots] at X148 l148 y148 z148 st148 hQ148
      subst l148 y148 z148
      obtain ⟨rfl, N148q, e148⟩ := hQ148
      have N148 := Fr.app N141 N148q
      have k149 : ∀ t, Steps p.tables e below (T148.setTop (mkF m 189 #[.val (.int p1), .val (.int p2), .val (.int p3), .val (.int p4), .val (.int p5), .val (.int p6), .val (.int (3 : Int32)), .val (.int (own_most p1 p6)), .val (.int (own_vdr p2)), .val (.int (own_vdr p3)), .val (.int (own_vdr p4)), .val (.int (own_vdr p5)), .val (.ref b116), .val (.ref b134), .val (.int (0 : Int32)), .unset, .unset] [(.int (own_vhi (own_vdr p2)))])) t → Steps p.tables e below (s₁.setTop (entryFrame m #[(.int p1), (.int p2), (.int p3), (.int p4), (.int p5), (.int p6)] maxLocals)) t := fun t k => k147 t (st148 t k)
      by_cases hc189_150 : (own_vhi (own_vdr p2)) = (0 : Int32)
      · have k151 : ∀ t, Steps p.tables e below (T148.setTop (mkF m 206 #[.val (.int p1), .val (.int p2), .val (.int p3), .val (.int p4), .val (.int p5), .val (.int p6), .val (.int (3 : Int32)), .val (.int (own_most p1 p6)), .val (.int (own_vdr p2)), .val (.int (own_vdr p3)), .val (.int (own_vdr p4)), .val (.int (own_vdr p5)), .val (.ref b116), .val (.ref b134), .val (.int (0 : Int32)), .unset, .unset] [])) t → Steps p.tables e below (s₁.setTop (entryFrame m #[(.int p1), (.int p2), (.int p3), (.int p4), (.int p5), (.int p6)] maxLocals)) t := by
          intro t k
          refine k149 t ?_
          show Steps p.tables e below (T148.setTop (mkF m 189 #[.val (.int p1), .val (.int p2), .val (.int p3), .val (.int p4), .val (.int p5), .val (.int p6), .val (.int (3 : Int32)), .val (.int (own_most p1 p6)), .val (.int (own_vdr p2)), .val (.int (own_vdr p3)), .val (.int (own_vdr p4)), .val (.int (own_vdr p5)), .val (.ref b116), .val (.ref b134), .val (.int (0 : Int32)), .unset, .unset] [(.int (own_vhi (own_vdr p2)))])) _
          refine XS.ifYes X148.here hx rfl (pc0 := 189) (pc' := 206) rfl (hb hby at_189) rfl ((if0 _ _).trans (teq hc189_150).1) (by decide) (by decide) ?_
          exact k
        have q0 : (own_qa3 p2 p3) = (0 : Int32) := (if_pos hc189_150)
        exact ⟨_, _, X148, e148, N148, fun t k => k151 t (by rw [q0] at k; exact k)⟩
      · have k152 : ∀ t, Steps p.tables e below (T148.setTop (mkF m 194 #[.val (.int p1), .val (.int p2), .val (.int p3), .val (.int p4), .val (.int p5), .val (.int p6), .val (.int (3 : Int32)), .val (.int (own_most p1 p6)), .val (.int (own_vdr p2)), .val (.int (own_vdr p3)), .val (.int (own_vdr p4)), .val (.int (own_vdr p5)), .val (.ref b116), .val (.ref b134), .val (.int (0 : Int32)), .unset, .unset] [(.int (own_vdr p3))])) t → Steps p.tables e below (s₁.setTop (entryFrame m #[(.int p1), (.int p2), (.int p3), (.int p4), (.int p5), (.int p6)] maxLocals)) t := by
          intro t k
          refine k149 t ?_
          show Steps p.tables e below (T148.setTop (mkF m 189 #[.val (.int p1), .val (.int p2), .val (.int p3), .val (.int p4), .val (.int p5), .val (.int p6), .val (.int (3 : Int32)), .val (.int (own_most p1 p6)), .val (.int (own_vdr p2)), .val (.int (own_vdr p3)), .val (.int (own_vdr p4)), .val (.int (own_vdr p5)), .val (.ref b116), .val (.ref b134), .val (.int (0 : Int32)), .unset, .unset] [(.int (own_vhi (own_vdr p2)))])) _
          refine XS.ifNo X148.here hx rfl (hb hby at_189) rfl ((if0 _ _).trans (feq hc189_150).1) ?_
          show Steps p.tables e below (T148.setTop (mkF m 192 #[.val (.int p1), .val (.int p2), .val (.int p3), .val (.int p4), .val (.int p5), .val (.int p6), .val (.int (3 : Int32)), .val (.int (own_most p1 p6)), .val (.int (own_vdr p2)), .val (.int (own_vdr p3)), .val (.int (own_vdr p4)), .val (.int (own_vdr p5)), .val (.ref b116), .val (.ref b134), .val (.int (0 : Int32)), .unset, .unset] [])) _
          refine XS.iload X148.here hx rfl (hb hby at_192) rfl ?_
          exact k
        obtain ⟨_, _, ⟨T153, L153, k153c, n153⟩, -, X153, ⟨Lc153, hQ153, l153, y153, z153⟩, st153⟩ := Jvm.LawKit.callS X148 hx (y := (⟨"com/example/daftar/daftar/model/CharactersIsOneToPinLaw", "lo", "(C)Z"⟩ : MethodName)) hown (mvT hZ (hw _ (List.mem_of_getElem? (i := 108) rfl))) (mvT hZ (hw _ (List.mem_of_getElem? (i := 109) rfl))) (mvT hZ (hw _ (List.mem_of_getElem? (i := 2) rfl))) (mvT hZ (hw _ (List.mem_of_getElem? (i := 110) rfl))) (by decide) (backOf (W := 0) (own_rmlw l Z a0 hw [] (own_vdr p3) T141.heap n0 Z141) hZ (hw _ (List.mem_of_getElem? (i := 110) rfl)) (hw _ (List.mem_of_getElem? (i := 2) rfl)) (by decide) (by decide)) (g := (mkF m 194 #[.val (.int p1), .val (.int p2), .val (.int p3), .val (.int p4), .val (.int p5), .val (.int p6), .val (.int (3 : Int32)), .val (.int (own_most p1 p6)), .val (.int (own_vdr p2)), .val (.int (own_vdr p3)), .val (.int (own_vdr p4)), .val (.int (own_vdr p5)), .val (.ref b116), .val (.ref b134), .val (.int (0 : Int32)), .unset, .unset] [(.int (own_vdr p3))])) rfl (by rw [hml]; rfl) (argsL := [(.int (own_vdr p3))]) (rest := []) (lenOf own_pd10 rfl) rfl (by show 2 * 0 + _ ≤ _; exact Nat.le_of_eq rfl) (hb hby at_194) (fun _ _ => ⟨rfl, e148, (by decide : 4 + 0 ≤ _), (by decide : 19 + 0 ≤ _)⟩)
        dsimp only [Pt.U, Pt.locs, Pt.cells, Pt.slots] at X153 l153 y153 z153 st153 hQ153
        subst l153 y153 z153
        obtain ⟨rfl, N153q, e153⟩ := hQ153
        have N153 := Fr.app N148 N153q
        have k154 : ∀ t, Steps p.tables e below (T153.setTop (mkF m 197 #[.val (.int p1), .val (.int p2), .val (.int p3), .val (.int p4), .val (.int p5), .val (.int p6), .val (.int (3 : Int32)), .val (.int (own_most p1 p6)), .val (.int (own_vdr p2)), .val (.int (own_vdr p3)), .val (.int (own_vdr p4)), .val (.int (own_vdr p5)), .val (.ref b116), .val (.ref b134), .val (.int (0 : Int32)), .unset, .unset] [(.int (own_vlw (own_vdr p3)))])) t → Steps p.tables e below (s₁.setTop (entryFrame m #[(.int p1), (.int p2), (.int p3), (.int p4), (.int p5), (.int p6)] maxLocals)) t := fun t k => k152 t (st153 t k)
        by_cases hc197_155 : (own_vlw (own_vdr p3)) = (0 : Int32)
        · have k156 : ∀ t, Steps p.tables e below (T153.setTop (mkF m 206 #[.val (.int p1), .val (.int p2), .val (.int p3), .val (.int p4), .val (.int p5), .val (.int p6), .val (.int (3 : Int32)), .val (.int (own_most p1 p6)), .val (.int (own_vdr p2)), .val (.int (own_vdr p3)), .val (.int (own_vdr p4)), .val (.int (own_vdr p5)), .val (.ref b116), .val (.ref b134), .val (.int (0 : Int32)), .unset, .unset] [])) t → Steps p.tables e below (s₁.setTop (entryFrame m #[(.int p1), (.int p2), (.int p3), (.int p4), (.int p5), (.int p6)] maxLocals)) t := by
            intro t k
            refine k154 t ?_
            show Steps p.tables e below (T153.setTop (mkF m 197 #[.val (.int p1), .val (.int p2), .val (.int p3), .val (.int p4), .val (.int p5), .val (.int p6), .val (.int (3 : Int32)), .val (.int (own_most p1 p6)), .val (.int (own_vdr p2)), .val (.int (own_vdr p3)), .val (.int (own_vdr p4)), .val (.int (own_vdr p5)), .val (.ref b116), .val (.ref b134), .val (.int (0 : Int32)), .unset, .unset] [(.int (own_vlw (own_vdr p3)))])) _
            refine XS.ifYes X153.here hx rfl (pc0 := 197) (pc' := 206) rfl (hb hby at_197) rfl ((if0 _ _).trans (teq hc197_155).1) (by decide) (by decide) ?_
            exact k
          have q0 : (own_qa3 p2 p3) = (0 : Int32) := ((if_neg hc189_150).trans (if_pos hc197_155))
          exact ⟨_, _, X153, e153, N153, fun t k => k156 t (by rw [q0] at k; exact k)⟩
        · have k157 : ∀ t, Steps p.tables e below (T153.setTop (mkF m 206 #[.val (.int p1), .val (.int p2), .val (.int p3), .val (.int p4), .val (.int p5), .val (.int p6), .val (.int (3 : Int32)), .val (.int (own_most p1 p6)), .val (.int (own_vdr p2)), .val (.int (own_vdr p3)), .val (.int (own_vdr p4)), .val (.int (own_vdr p5)), .val (.ref b116), .val (.ref b134), .val (.int (1 : Int32)), .unset, .unset] [])) t → Steps p.tables e below (s₁.setTop (entryFrame m #[(.int p1), (.int p2), (.int p3), (.int p4), (.int p5), (.int p6)] maxLocals)) t := by
            intro t k
            refine k154 t ?_
            show Steps p.tables e below (T153.setTop (mkF m 197 #[.val (.int p1), .val (.int p2), .val (.int p3), .val (.int p4), .val (.int p5), .val (.int p6), .val (.int (3 : Int32)), .val (.int (own_most p1 p6)), .val (.int (own_vdr p2)), .val (.int (own_vdr p3)), .val (.int (own_vdr p4)), .val (.int (own_vdr p5)), .val (.ref b116), .val (.ref b134), .val (.int (0 : Int32)), .unset, .unset] [(.int (own_vlw (own_vdr p3)))])) _
            refine XS.ifNo X153.here hx rfl (hb hby at_197) rfl ((if0 _ _).trans (feq hc197_155).1) ?_
            show Steps p.tables e below (T153.setTop (mkF m 200 #[.val (.int p1), .val (.int p2), .val (.int p3), .val (.int p4), .val (.int p5), .val (.int p6), .val (.int (3 : Int32)), .val (.int (own_most p1 p6)), .val (.int (own_vdr p2)), .val (.int (own_vdr p3)), .val (.int (own_vdr p4)), .val (.int (own_vdr p5)), .val (.ref b116), .val (.ref b134), .val (.int (0 : Int32)), .unset, .unset] [])) _
            refine XS.iload X153.here hx rfl (hb hby at_200) rfl ?_
            show Steps p.tables e below (T153.setTop (mkF m 202 #[.val (.int p1), .val (.int p2), .val (.int p3), .val (.int p4), .val (.int p5), .val (.int p6), .val (.int (3 : Int32)), .val (.int (own_most p1 p6)), .val (.int (own_vdr p2)), .val (.int (own_vdr p3)), .val (.int (own_vdr p4)), .val (.int (own_vdr p5)), .val (.ref b116), .val (.ref b134), .val (.int (0 : Int32)), .unset, .unset] [(.int (0 : Int32))])) _
            refine XS.iconst X153.here hx rfl (hb hby at_202) ?_
            show Steps p.tables e below (T153.setTop (mkF m 203 #[.val (.int p1), .val (.int p2), .val (.int p3), .val (.int p4), .val (.int p5), .val (.int p6), .val (.int (3 : Int32)), .val (.int (own_most p1 p6)), .val (.int (own_vdr p2)), .val (.int (own_vdr p3)), .val (.int (own_vdr p4)), .val (.int (own_vdr p5)), .val (.ref b116), .val (.ref b134), .val (.int (0 : Int32)), .unset, .unset] [(.int (1 : Int32)), (.int (0 : Int32))])) _
            refine XS.iadd X153.here hx rfl (hb hby at_203) rfl ?_
            show Steps p.tables e below (T153.setTop (mkF m 204 #[.val (.int p1), .val (.int p2), .val (.int p3), .val (.int p4), .val (.int p5), .val (.int p6), .val (.int (3 : Int32)), .val (.int (own_most p1 p6)), .val (.int (own_vdr p2)), .val (.int (own_vdr p3)), .val (.int (own_vdr p4)), .val (.int (own_vdr p5)), .val (.ref b116), .val (.ref b134), .val (.int (0 : Int32)), .unset, .unset] [(.int (1 : Int32))])) _
            refine XS.istore X153.here hx rfl (hb hby at_204) rfl (l' := #[.val (.int p1), .val (.int p2), .val (.int p3), .val (.int p4), .val (.int p5), .val (.int p6), .val (.int (3 : Int32)), .val (.int (own_most p1 p6)), .val (.int (own_vdr p2)), .val (.int (own_vdr p3)), .val (.int (own_vdr p4)), .val (.int (own_vdr p5)), .val (.ref b116), .val (.ref b134), .val (.int (1 : Int32)), .unset, .unset]) rfl ?_
            exact k
          have q0 : (own_qa3 p2 p3) = (1 : Int32) := ((if_neg hc189_150).trans (if_neg hc197_155))
          exact ⟨_, _, X153, e153, N153, fun t k => k157 t (by rw [q0] at k; exact k)⟩
    obtain ⟨T146, L146, X146, e146, N146, k146⟩ := sg146
    have sg158 : ∃ (T' : State) (L' : List Loc), Stand p l e room_1 s m #[(.int p1), (.int p2), (.int p3), (.int p4), (.int p5), (.int p6)] below meth c T' L' 4 19 ∧ T'.heap = T141.heap ∧ Fr n0 L' ∧ ∀ t, Steps p.tables e below (T'.setTop (mkF m 234 #[.val (.int p1), .val (.int p2), .val (.int p3), .val (.int p4), .val (.int p5), .val (.int p6), .val (.int (3 : Int32)), .val (.int (own_most p1 p6)), .val (.int (own_vdr p2)), .val (.int (own_vdr p3)), .val (.int (own_vdr p4)), .val (.int (own_vdr p5)), .val (.ref b116), .val (.ref b134), .val (.int (own_qb3 p2 p3 p4)), .unset, .unset] [])) t → Steps p.tables e below (s₁.setTop (entryFrame m #[(.int p1), (.int p2), (.int p3), (.int p4), (.int p5), (.int p6)] maxLocals)) t := by
      have k159 : ∀ t, Steps p.tables e below (T146.setTop (mkF m 214 #[.val (.int p1), .val (.int p2), .val (.int p3), .val (.int p4), .val (.int p5), .val (.int p6), .val (.int (3 : Int32)), .val (.int (own_most p1 p6)), .val (.int (own_vdr p2)), .val (.int (own_vdr p3)), .val (.int (own_vdr p4)), .val (.int (own_vdr p5)), .val (.ref b116), .val (.ref b134), .val (.int (own_qa3 p2 p3)), .unset, .unset] [(.int (own_vdr p3))])) t → Steps p.tables e below (s₁.setTop (entryFrame m #[(.int p1), (.int p2), (.int p3), (.int p4), (.int p5), (.int p6)] maxLocals)) t := by
        intro t k
        refine k146 t ?_
        show Steps p.tables e below (T146.setTop (mkF m 206 #[.val (.int p1), .val (.int p2), .val (.int p3), .val (.int p4), .val (.int p5), .val (.int p6), .val (.int (3 : Int32)), .val (.int (own_most p1 p6)), .val (.int (own_vdr p2)), .val (.int (own_vdr p3)), .val (.int (own_vdr p4)), .val (.int (own_vdr p5)), .val (.ref b116), .val (.ref b134), .val (.int (own_qa3 p2 p3)), .unset, .unset] [])) _
        refine XS.iload X146.here hx rfl (hb hby at_206) rfl ?_
        show Steps p.tables e below (T146.setTop (mkF m 208 #[.val (.int p1), .val (.int p2), .val (.int p3), .val (.int p4), .val (.int p5), .val (.int p6), .val (.int (3 : Int32)), .val (.int (own_most p1 p6)), .val (.int (own_vdr p2)), .val (.int (own_vdr p3)), .val (.int (own_vdr p4)), .val (.int (own_vdr p5)), .val (.ref b116), .val (.ref b134), .val (.int (own_qa3 p2 p3)), .unset, .unset] [(.int (3 : Int32))])) _
        refine XS.iconst X146.here hx rfl (hb hby at_208) ?_
        show Steps p.tables e below (T146.setTop (mkF m 209 #[.val (.int p1), .val (.int p2), .val (.int p3), .val (.int p4), .val (.int p5), .val (.int p6), .val (.int (3 : Int32)), .val (.int (own_most p1 p6)), .val (.int (own_vdr p2)), .val (.int (own_vdr p3)), .val (.int (own_vdr p4)), .val (.int (own_vdr p5)), .val (.ref b116), .val (.ref b134), .val (.int (own_qa3 p2 p3)), .unset, .unset] [(.int (3 : Int32)), (.int (3 : Int32))])) _
        refine XS.icmpNo X146.here hx rfl (hb hby at_209) rfl (flt (Int32.lt_irrefl : ¬ ((3 : Int32) < (3 : Int32)))).1 ?_
        show Steps p.tables e below (T146.setTop (mkF m 212 #[.val (.int p1), .val (.int p2), .val (.int p3), .val (.int p4), .val (.int p5), .val (.int p6), .val (.int (3 : Int32)), .val (.int (own_most p1 p6)), .val (.int (own_vdr p2)), .val (.int (own_vdr p3)), .val (.int (own_vdr p4)), .val (.int (own_vdr p5)), .val (.ref b116), .val (.ref b134), .val (.int (own_qa3 p2 p3)), .unset, .unset] [])) _
        refine XS.iload X146.here hx rfl (hb hby at_212) rfl ?_
        exact k
      obtain ⟨_, _, ⟨T160, L160, k160c, n160⟩, -, X160, ⟨Lc160, hQ160, l160, y160, z160⟩, st160⟩ := Jvm.LawKit.callS X146 hx (y := (⟨"com/example/daftar/daftar/model/CharactersIsOneToPinLaw", "hi", "(C)Z"⟩ : MethodName)) hown (mvT hZ (hw _ (List.mem_of_getElem? (i := 92) rfl))) (mvT hZ (hw _ (List.mem_of_getElem? (i := 93) rfl))) (mvT hZ (hw _ (List.mem_of_getElem? (i := 2) rfl))) (mvT hZ (hw _ (List.mem_of_getElem? (i := 94) rfl))) (by decide) (backOf (W := 0) (own_rmhi l Z a0 hw [] (own_vdr p3) T141.heap n0 Z141) hZ (hw _ (List.mem_of_getElem? (i := 94) rfl)) (hw _ (List.mem_of_getElem? (i := 2) rfl)) (by decide) (by decide)) (g := (mkF m 214 #[.val (.int p1), .val (.int p2), .val (.int p3), .val (.int p4), .val (.int p5), .val (.int p6), .val (.int (3 : Int32)), .val (.int (own_most p1 p6)), .val (.int (own_vdr p2)), .val (.int (own_vdr p3)), .val (.int (own_vdr p4)), .val (.int (own_vdr p5)), .val (.ref b116), .val (.ref b134), .val (.int (own_qa3 p2 p3)), .unset, .unset] [(.int (own_vdr p3))])) rfl (by rw [hml]; rfl) (argsL := [(.int (own_vdr p3))]) (rest := []) (lenOf own_pd10 rfl) rfl (by show 2 * 0 + _ ≤ _; exact Nat.le_of_eq rfl) (hb hby at_214) (fun _ _ => ⟨rfl, e146, (by decide : 4 + 0 ≤ _), (by decide : 19 + 0 ≤ _)⟩)
      dsimp only [Pt.U, Pt.locs, Pt.cells, Pt.slots] at X160 l160 y160 z160 st160 hQ160
      subst l160 y160 z160
      obtain ⟨rfl, N160q, e160⟩ := hQ160
      have N160 := Fr.app N146 N160q
      have k161 : ∀ t, Steps p.tables e below (T160.setTop (mkF m 217 #[.val (.int p1), .val (.int p2), .val (.int p3), .val (.int p4), .val (.int p5), .val (.int p6), .val (.int (3 : Int32)), .val (.int (own_most p1 p6)), .val (.int (own_vdr p2)), .val (.int (own_vdr p3)), .val (.int (own_vdr p4)), .val (.int (own_vdr p5)), .val (.ref b116), .val (.ref b134), .val (.int (own_qa3 p2 p3)), .unset, .unset] [(.int (own_vhi (own_vdr p3)))])) t → Steps p.tables e below (s₁.setTop (entryFrame m #[(.int p1), (.int p2), (.int p3), (.int p4), (.int p5), (.int p6)] maxLocals)) t := fun t k => k159 t (st160 t k)
      by_cases hc217_162 : (own_vhi (own_vdr p3)) = (0 : Int32)
      · have k163 : ∀ t, Steps p.tables e below (T160.setTop (mkF m 234 #[.val (.int p1), .val (.int p2), .val (.int p3), .val (.int p4), .val (.int p5), .val (.int p6), .val (.int (3 : Int32)), .val (.int (own_most p1 p6)), .val (.int (own_vdr p2)), .val (.int (own_vdr p3)), .val (.int (own_vdr p4)), .val (.int (own_vdr p5)), .val (.ref b116), .val (.ref b134), .val (.int (own_qa3 p2 p3)), .unset, .unset] [])) t → Steps p.tables e below (s₁.setTop (entryFrame m #[(.int p1), (.int p2), (.int p3), (.int p4), (.int p5), (.int p6)] maxLocals)) t := by
          intro t k
          refine k161 t ?_
          show Steps p.tables e below (T160.setTop (mkF m 217 #[.val (.int p1), .val (.int p2), .val (.int p3), .val (.int p4), .val (.int p5), .val (.int p6), .val (.int (3 : Int32)), .val (.int (own_most p1 p6)), .val (.int (own_vdr p2)), .val (.int (own_vdr p3)), .val (.int (own_vdr p4)), .val (.int (own_vdr p5)), .val (.ref b116), .val (.ref b134), .val (.int (own_qa3 p2 p3)), .unset, .unset] [(.int (own_vhi (own_vdr p3)))])) _
          refine XS.ifYes X160.here hx rfl (pc0 := 217) (pc' := 234) rfl (hb hby at_217) rfl ((if0 _ _).trans (teq hc217_162).1) (by decide) (by decide) ?_
          exact k
        have q0 : (own_qb3 p2 p3 p4) = (own_qa3 p2 p3) := (if_pos hc217_162)
        exact ⟨_, _, X160, e160, N160, fun t k => k163 t (by rw [q0] at k; exact k)⟩
      · have k164 : ∀ t, Steps p.tables e below (T160.setTop (mkF m 222 #[.val (.int p1), .val (.int p2), .val (.int p3), .val (.int p4), .val (.int p5), .val (.int p6), .val (.int (3 : Int32)), .val (.int (own_most p1 p6)), .val (.int (own_vdr p2)), .val (.int (own_vdr p3)), .val (.int (own_vdr p4)), .val (.int (own_vdr p5)), .val (.ref b116), .val (.ref b134), .val (.int (own_qa3 p2 p3)), .unset, .unset] [(.int (own_vdr p4))])) t → Steps p.tables e below (s₁.setTop (entryFrame m #[(.int p1), (.int p2), (.int p3), (.int p4), (.int p5), (.int p6)] maxLocals)) t := by
          intro t k
          refine k161 t ?_
          show Steps p.tables e below (T160.setTop (mkF m 217 #[.val (.int p1), .val (.int p2), .val (.int p3), .val (.int p4), .val (.int p5), .val (.int p6), .val (.int (3 : Int32)), .val (.int (own_most p1 p6)), .val (.int (own_vdr p2)), .val (.int (own_vdr p3)), .val (.int (own_vdr p4)), .val (.int (own_vdr p5)), .val (.ref b116), .val (.ref b134), .val (.int (own_qa3 p2 p3)), .unset, .unset] [(.int (own_vhi (own_vdr p3)))])) _
          refine XS.ifNo X160.here hx rfl (hb hby at_217) rfl ((if0 _ _).trans (feq hc217_162).1) ?_
          show Steps p.tables e below (T160.setTop (mkF m 220 #[.val (.int p1), .val (.int p2), .val (.int p3), .val (.int p4), .val (.int p5), .val (.int p6), .val (.int (3 : Int32)), .val (.int (own_most p1 p6)), .val (.int (own_vdr p2)), .val (.int (own_vdr p3)), .val (.int (own_vdr p4)), .val (.int (own_vdr p5)), .val (.ref b116), .val (.ref b134), .val (.int (own_qa3 p2 p3)), .unset, .unset] [])) _
          refine XS.iload X160.here hx rfl (hb hby at_220) rfl ?_
          exact k
        obtain ⟨_, _, ⟨T165, L165, k165c, n165⟩, -, X165, ⟨Lc165, hQ165, l165, y165, z165⟩, st165⟩ := Jvm.LawKit.callS X160 hx (y := (⟨"com/example/daftar/daftar/model/CharactersIsOneToPinLaw", "lo", "(C)Z"⟩ : MethodName)) hown (mvT hZ (hw _ (List.mem_of_getElem? (i := 108) rfl))) (mvT hZ (hw _ (List.mem_of_getElem? (i := 109) rfl))) (mvT hZ (hw _ (List.mem_of_getElem? (i := 2) rfl))) (mvT hZ (hw _ (List.mem_of_getElem? (i := 110) rfl))) (by decide) (backOf (W := 0) (own_rmlw l Z a0 hw [] (own_vdr p4) T141.heap n0 Z141) hZ (hw _ (List.mem_of_getElem? (i := 110) rfl)) (hw _ (List.mem_of_getElem? (i := 2) rfl)) (by decide) (by decide)) (g := (mkF m 222 #[.val (.int p1), .val (.int p2), .val (.int p3), .val (.int p4), .val (.int p5), .val (.int p6), .val (.int (3 : Int32)), .val (.int (own_most p1 p6)), .val (.int (own_vdr p2)), .val (.int (own_vdr p3)), .val (.int (own_vdr p4)), .val (.int (own_vdr p5)), .val (.ref b116), .val (.ref b134), .val (.int (own_qa3 p2 p3)), .unset, .unset] [(.int (own_vdr p4))])) rfl (by rw [hml]; rfl) (argsL := [(.int (own_vdr p4))]) (rest := []) (lenOf own_pd10 rfl) rfl (by show 2 * 0 + _ ≤ _; exact Nat.le_of_eq rfl) (hb hby at_222) (fun _ _ => ⟨rfl, e160, (by decide : 4 + 0 ≤ _), (by decide : 19 + 0 ≤ _)⟩)
        dsimp only [Pt.U, Pt.locs, Pt.cells, Pt.slots] at X165 l165 y165 z165 st165 hQ165
        subst l165 y165 z165
        obtain ⟨rfl, N165q, e165⟩ := hQ165
        have N165 := Fr.app N160 N165q
        have k166 : ∀ t, Steps p.tables e below (T165.setTop (mkF m 225 #[.val (.int p1), .val (.int p2), .val (.int p3), .val (.int p4), .val (.int p5), .val (.int p6), .val (.int (3 : Int32)), .val (.int (own_most p1 p6)), .val (.int (own_vdr p2)), .val (.int (own_vdr p3)), .val (.int (own_vdr p4)), .val (.int (own_vdr p5)), .val (.ref b116), .val (.ref b134), .val (.int (own_qa3 p2 p3)), .unset, .unset] [(.int (own_vlw (own_vdr p4)))])) t → Steps p.tables e below (s₁.setTop (entryFrame m #[(.int p1), (.int p2), (.int p3), (.int p4), (.int p5), (.int p6)] maxLocals)) t := fun t k => k164 t (st165 t k)
        by_cases hc225_167 : (own_vlw (own_vdr p4)) = (0 : Int32)
        · have k168 : ∀ t, Steps p.tables e below (T165.setTop (mkF m 234 #[.val (.int p1), .val (.int p2), .val (.int p3), .val (.int p4), .val (.int p5), .val (.int p6), .val (.int (3 : Int32)), .val (.int (own_most p1 p6)), .val (.int (own_vdr p2)), .val (.int (own_vdr p3)), .val (.int (own_vdr p4)), .val (.int (own_vdr p5)), .val (.ref b116), .val (.ref b134), .val (.int (own_qa3 p2 p3)), .unset, .unset] [])) t → Steps p.tables e below (s₁.setTop (entryFrame m #[(.int p1), (.int p2), (.int p3), (.int p4), (.int p5), (.int p6)] maxLocals)) t := by
            intro t k
            refine k166 t ?_
            show Steps p.tables e below (T165.setTop (mkF m 225 #[.val (.int p1), .val (.int p2), .val (.int p3), .val (.int p4), .val (.int p5), .val (.int p6), .val (.int (3 : Int32)), .val (.int (own_most p1 p6)), .val (.int (own_vdr p2)), .val (.int (own_vdr p3)), .val (.int (own_vdr p4)), .val (.int (own_vdr p5)), .val (.ref b116), .val (.ref b134), .val (.int (own_qa3 p2 p3)), .unset, .unset] [(.int (own_vlw (own_vdr p4)))])) _
            refine XS.ifYes X165.here hx rfl (pc0 := 225) (pc' := 234) rfl (hb hby at_225) rfl ((if0 _ _).trans (teq hc225_167).1) (by decide) (by decide) ?_
            exact k
          have q0 : (own_qb3 p2 p3 p4) = (own_qa3 p2 p3) := ((if_neg hc217_162).trans (if_pos hc225_167))
          exact ⟨_, _, X165, e165, N165, fun t k => k168 t (by rw [q0] at k; exact k)⟩
        · have k169 : ∀ t, Steps p.tables e below (T165.setTop (mkF m 234 #[.val (.int p1), .val (.int p2), .val (.int p3), .val (.int p4), .val (.int p5), .val (.int p6), .val (.int (3 : Int32)), .val (.int (own_most p1 p6)), .val (.int (own_vdr p2)), .val (.int (own_vdr p3)), .val (.int (own_vdr p4)), .val (.int (own_vdr p5)), .val (.ref b116), .val (.ref b134), .val (.int ((own_qa3 p2 p3) + (1 : Int32))), .unset, .unset] [])) t → Steps p.tables e below (s₁.setTop (entryFrame m #[(.int p1), (.int p2), (.int p3), (.int p4), (.int p5), (.int p6)] maxLocals)) t := by
            intro t k
            refine k166 t ?_
            show Steps p.tables e below (T165.setTop (mkF m 225 #[.val (.int p1), .val (.int p2), .val (.int p3), .val (.int p4), .val (.int p5), .val (.int p6), .val (.int (3 : Int32)), .val (.int (own_most p1 p6)), .val (.int (own_vdr p2)), .val (.int (own_vdr p3)), .val (.int (own_vdr p4)), .val (.int (own_vdr p5)), .val (.ref b116), .val (.ref b134), .val (.int (own_qa3 p2 p3)), .unset, .unset] [(.int (own_vlw (own_vdr p4)))])) _
            refine XS.ifNo X165.here hx rfl (hb hby at_225) rfl ((if0 _ _).trans (feq hc225_167).1) ?_
            show Steps p.tables e below (T165.setTop (mkF m 228 #[.val (.int p1), .val (.int p2), .val (.int p3), .val (.int p4), .val (.int p5), .val (.int p6), .val (.int (3 : Int32)), .val (.int (own_most p1 p6)), .val (.int (own_vdr p2)), .val (.int (own_vdr p3)), .val (.int (own_vdr p4)), .val (.int (own_vdr p5)), .val (.ref b116), .val (.ref b134), .val (.int (own_qa3 p2 p3)), .unset, .unset] [])) _
            refine XS.iload X165.here hx rfl (hb hby at_228) rfl ?_
            show Steps p.tables e below (T165.setTop (mkF m 230 #[.val (.int p1), .val (.int p2), .val (.int p3), .val (.int p4), .val (.int p5), .val (.int p6), .val (.int (3 : Int32)), .val (.int (own_most p1 p6)), .val (.int (own_vdr p2)), .val (.int (own_vdr p3)), .val (.int (own_vdr p4)), .val (.int (own_vdr p5)), .val (.ref b116), .val (.ref b134), .val (.int (own_qa3 p2 p3)), .unset, .unset] [(.int (own_qa3 p2 p3))])) _
            refine XS.iconst X165.here hx rfl (hb hby at_230) ?_
            show Steps p.tables e below (T165.setTop (mkF m 231 #[.val (.int p1), .val (.int p2), .val (.int p3), .val (.int p4), .val (.int p5), .val (.int p6), .val (.int (3 : Int32)), .val (.int (own_most p1 p6)), .val (.int (own_vdr p2)), .val (.int (own_vdr p3)), .val (.int (own_vdr p4)), .val (.int (own_vdr p5)), .val (.ref b116), .val (.ref b134), .val (.int (own_qa3 p2 p3)), .unset, .unset] [(.int (1 : Int32)), (.int (own_qa3 p2 p3))])) _
            refine XS.iadd X165.here hx rfl (hb hby at_231) rfl ?_
            show Steps p.tables e below (T165.setTop (mkF m 232 #[.val (.int p1), .val (.int p2), .val (.int p3), .val (.int p4), .val (.int p5), .val (.int p6), .val (.int (3 : Int32)), .val (.int (own_most p1 p6)), .val (.int (own_vdr p2)), .val (.int (own_vdr p3)), .val (.int (own_vdr p4)), .val (.int (own_vdr p5)), .val (.ref b116), .val (.ref b134), .val (.int (own_qa3 p2 p3)), .unset, .unset] [(.int ((own_qa3 p2 p3) + (1 : Int32)))])) _
            refine XS.istore X165.here hx rfl (hb hby at_232) rfl (l' := #[.val (.int p1), .val (.int p2), .val (.int p3), .val (.int p4), .val (.int p5), .val (.int p6), .val (.int (3 : Int32)), .val (.int (own_most p1 p6)), .val (.int (own_vdr p2)), .val (.int (own_vdr p3)), .val (.int (own_vdr p4)), .val (.int (own_vdr p5)), .val (.ref b116), .val (.ref b134), .val (.int ((own_qa3 p2 p3) + (1 : Int32))), .unset, .unset]) rfl ?_
            exact k
          have q0 : (own_qb3 p2 p3 p4) = ((own_qa3 p2 p3) + (1 : Int32)) := ((if_neg hc217_162).trans (if_neg hc225_167))
          exact ⟨_, _, X165, e165, N165, fun t k => k169 t (by rw [q0] at k; exact k)⟩
    obtain ⟨T158, L158, X158, e158, N158, k158⟩ := sg158
    have k170 : ∀ t, Steps p.tables e below (T158.setTop (mkF m 269 #[.val (.int p1), .val (.int p2), .val (.int p3), .val (.int p4), .val (.int p5), .val (.int p6), .val (.int (3 : Int32)), .val (.int (own_most p1 p6)), .val (.int (own_vdr p2)), .val (.int (own_vdr p3)), .val (.int (own_vdr p4)), .val (.int (own_vdr p5)), .val (.ref b116), .val (.ref b134), .val (.int (own_qb3 p2 p3 p4)), .val (.int ((3 : Int32) - (own_qb3 p2 p3 p4))), .unset] [])) t → Steps p.tables e below (s₁.setTop (entryFrame m #[(.int p1), (.int p2), (.int p3), (.int p4), (.int p5), (.int p6)] maxLocals)) t := by
      intro t k
      refine k158 t ?_
      show Steps p.tables e below (T158.setTop (mkF m 234 #[.val (.int p1), .val (.int p2), .val (.int p3), .val (.int p4), .val (.int p5), .val (.int p6), .val (.int (3 : Int32)), .val (.int (own_most p1 p6)), .val (.int (own_vdr p2)), .val (.int (own_vdr p3)), .val (.int (own_vdr p4)), .val (.int (own_vdr p5)), .val (.ref b116), .val (.ref b134), .val (.int (own_qb3 p2 p3 p4)), .unset, .unset] [])) _
      refine XS.iload X158.here hx rfl (hb hby at_234) rfl ?_
      show Steps p.tables e below (T158.setTop (mkF m 236 #[.val (.int p1), .val (.int p2), .val (.int p3), .val (.int p4), .val (.int p5), .val (.int p6), .val (.int (3 : Int32)), .val (.int (own_most p1 p6)), .val (.int (own_vdr p2)), .val (.int (own_vdr p3)), .val (.int (own_vdr p4)), .val (.int (own_vdr p5)), .val (.ref b116), .val (.ref b134), .val (.int (own_qb3 p2 p3 p4)), .unset, .unset] [(.int (3 : Int32))])) _
      refine XS.iconst X158.here hx rfl (hb hby at_236) ?_
      show Steps p.tables e below (T158.setTop (mkF m 237 #[.val (.int p1), .val (.int p2), .val (.int p3), .val (.int p4), .val (.int p5), .val (.int p6), .val (.int (3 : Int32)), .val (.int (own_most p1 p6)), .val (.int (own_vdr p2)), .val (.int (own_vdr p3)), .val (.int (own_vdr p4)), .val (.int (own_vdr p5)), .val (.ref b116), .val (.ref b134), .val (.int (own_qb3 p2 p3 p4)), .unset, .unset] [(.int (4 : Int32)), (.int (3 : Int32))])) _
      refine XS.icmpYes X158.here hx rfl (pc0 := 237) (pc' := 262) rfl (hb hby at_237) rfl (tlt (by decide : (3 : Int32) < (4 : Int32))).1 (by decide) (by decide) ?_
      show Steps p.tables e below (T158.setTop (mkF m 262 #[.val (.int p1), .val (.int p2), .val (.int p3), .val (.int p4), .val (.int p5), .val (.int p6), .val (.int (3 : Int32)), .val (.int (own_most p1 p6)), .val (.int (own_vdr p2)), .val (.int (own_vdr p3)), .val (.int (own_vdr p4)), .val (.int (own_vdr p5)), .val (.ref b116), .val (.ref b134), .val (.int (own_qb3 p2 p3 p4)), .unset, .unset] [])) _
      refine XS.iload X158.here hx rfl (hb hby at_262) rfl ?_
      show Steps p.tables e below (T158.setTop (mkF m 264 #[.val (.int p1), .val (.int p2), .val (.int p3), .val (.int p4), .val (.int p5), .val (.int p6), .val (.int (3 : Int32)), .val (.int (own_most p1 p6)), .val (.int (own_vdr p2)), .val (.int (own_vdr p3)), .val (.int (own_vdr p4)), .val (.int (own_vdr p5)), .val (.ref b116), .val (.ref b134), .val (.int (own_qb3 p2 p3 p4)), .unset, .unset] [(.int (3 : Int32))])) _
      refine XS.iload X158.here hx rfl (hb hby at_264) rfl ?_
      show Steps p.tables e below (T158.setTop (mkF m 266 #[.val (.int p1), .val (.int p2), .val (.int p3), .val (.int p4), .val (.int p5), .val (.int p6), .val (.int (3 : Int32)), .val (.int (own_most p1 p6)), .val (.int (own_vdr p2)), .val (.int (own_vdr p3)), .val (.int (own_vdr p4)), .val (.int (own_vdr p5)), .val (.ref b116), .val (.ref b134), .val (.int (own_qb3 p2 p3 p4)), .unset, .unset] [(.int (own_qb3 p2 p3 p4)), (.int (3 : Int32))])) _
      refine XS.isub X158.here hx rfl (hb hby at_266) rfl ?_
      show Steps p.tables e below (T158.setTop (mkF m 267 #[.val (.int p1), .val (.int p2), .val (.int p3), .val (.int p4), .val (.int p5), .val (.int p6), .val (.int (3 : Int32)), .val (.int (own_most p1 p6)), .val (.int (own_vdr p2)), .val (.int (own_vdr p3)), .val (.int (own_vdr p4)), .val (.int (own_vdr p5)), .val (.ref b116), .val (.ref b134), .val (.int (own_qb3 p2 p3 p4)), .unset, .unset] [(.int ((3 : Int32) - (own_qb3 p2 p3 p4)))])) _
      refine XS.istore X158.here hx rfl (hb hby at_267) rfl (l' := #[.val (.int p1), .val (.int p2), .val (.int p3), .val (.int p4), .val (.int p5), .val (.int p6), .val (.int (3 : Int32)), .val (.int (own_most p1 p6)), .val (.int (own_vdr p2)), .val (.int (own_vdr p3)), .val (.int (own_vdr p4)), .val (.int (own_vdr p5)), .val (.ref b116), .val (.ref b134), .val (.int (own_qb3 p2 p3 p4)), .val (.int ((3 : Int32) - (own_qb3 p2 p3 p4))), .unset]) rfl ?_
      exact k
    have k171 : ∀ t, Steps p.tables e below (T158.setTop (mkF m 289 #[.val (.int p1), .val (.int p2), .val (.int p3), .val (.int p4), .val (.int p5), .val (.int p6), .val (.int (3 : Int32)), .val (.int (own_most p1 p6)), .val (.int (own_vdr p2)), .val (.int (own_vdr p3)), .val (.int (own_vdr p4)), .val (.int (own_vdr p5)), .val (.ref b116), .val (.ref b134), .val (.int (own_qb3 p2 p3 p4)), .val (.int ((3 : Int32) - (own_qb3 p2 p3 p4))), .val (.int (own_ex3 p1 p2 p3 p4 p6))] [])) t → Steps p.tables e below (s₁.setTop (entryFrame m #[(.int p1), (.int p2), (.int p3), (.int p4), (.int p5), (.int p6)] maxLocals)) t := by
      intro t k
      refine k170 t ?_
      show Steps p.tables e below (T158.setTop (mkF m 269 #[.val (.int p1), .val (.int p2), .val (.int p3), .val (.int p4), .val (.int p5), .val (.int p6), .val (.int (3 : Int32)), .val (.int (own_most p1 p6)), .val (.int (own_vdr p2)), .val (.int (own_vdr p3)), .val (.int (own_vdr p4)), .val (.int (own_vdr p5)), .val (.ref b116), .val (.ref b134), .val (.int (own_qb3 p2 p3 p4)), .val (.int ((3 : Int32) - (own_qb3 p2 p3 p4))), .unset] [])) _
      refine XS.iload X158.here hx rfl (hb hby at_269) rfl ?_
      show Steps p.tables e below (T158.setTop (mkF m 271 #[.val (.int p1), .val (.int p2), .val (.int p3), .val (.int p4), .val (.int p5), .val (.int p6), .val (.int (3 : Int32)), .val (.int (own_most p1 p6)), .val (.int (own_vdr p2)), .val (.int (own_vdr p3)), .val (.int (own_vdr p4)), .val (.int (own_vdr p5)), .val (.ref b116), .val (.ref b134), .val (.int (own_qb3 p2 p3 p4)), .val (.int ((3 : Int32) - (own_qb3 p2 p3 p4))), .unset] [(.int ((3 : Int32) - (own_qb3 p2 p3 p4)))])) _
      refine XS.iconst X158.here hx rfl (hb hby at_271) ?_
      by_cases hc272_172 : ((3 : Int32) - (own_qb3 p2 p3 p4)) < (1 : Int32)
      · show Steps p.tables e below (T158.setTop (mkF m 272 #[.val (.int p1), .val (.int p2), .val (.int p3), .val (.int p4), .val (.int p5), .val (.int p6), .val (.int (3 : Int32)), .val (.int (own_most p1 p6)), .val (.int (own_vdr p2)), .val (.int (own_vdr p3)), .val (.int (own_vdr p4)), .val (.int (own_vdr p5)), .val (.ref b116), .val (.ref b134), .val (.int (own_qb3 p2 p3 p4)), .val (.int ((3 : Int32) - (own_qb3 p2 p3 p4))), .unset] [(.int (1 : Int32)), (.int ((3 : Int32) - (own_qb3 p2 p3 p4)))])) _
        refine XS.icmpYes X158.here hx rfl (pc0 := 272) (pc' := 286) rfl (hb hby at_272) rfl (tlt hc272_172).1 (by decide) (by decide) ?_
        show Steps p.tables e below (T158.setTop (mkF m 286 #[.val (.int p1), .val (.int p2), .val (.int p3), .val (.int p4), .val (.int p5), .val (.int p6), .val (.int (3 : Int32)), .val (.int (own_most p1 p6)), .val (.int (own_vdr p2)), .val (.int (own_vdr p3)), .val (.int (own_vdr p4)), .val (.int (own_vdr p5)), .val (.ref b116), .val (.ref b134), .val (.int (own_qb3 p2 p3 p4)), .val (.int ((3 : Int32) - (own_qb3 p2 p3 p4))), .unset] [])) _
        refine XS.iconst X158.here hx rfl (hb hby at_286) ?_
        show Steps p.tables e below (T158.setTop (mkF m 287 #[.val (.int p1), .val (.int p2), .val (.int p3), .val (.int p4), .val (.int p5), .val (.int p6), .val (.int (3 : Int32)), .val (.int (own_most p1 p6)), .val (.int (own_vdr p2)), .val (.int (own_vdr p3)), .val (.int (own_vdr p4)), .val (.int (own_vdr p5)), .val (.ref b116), .val (.ref b134), .val (.int (own_qb3 p2 p3 p4)), .val (.int ((3 : Int32) - (own_qb3 p2 p3 p4))), .unset] [(.int (0 : Int32))])) _
        refine XS.istore X158.here hx rfl (hb hby at_287) rfl (l' := #[.val (.int p1), .val (.int p2), .val (.int p3), .val (.int p4), .val (.int p5), .val (.int p6), .val (.int (3 : Int32)), .val (.int (own_most p1 p6)), .val (.int (own_vdr p2)), .val (.int (own_vdr p3)), .val (.int (own_vdr p4)), .val (.int (own_vdr p5)), .val (.ref b116), .val (.ref b134), .val (.int (own_qb3 p2 p3 p4)), .val (.int ((3 : Int32) - (own_qb3 p2 p3 p4))), .val (.int (0 : Int32))]) rfl ?_
        have q0 : (own_ex3 p1 p2 p3 p4 p6) = (0 : Int32) := (if_pos hc272_172)
        rw [q0] at k
        exact k
      · show Steps p.tables e below (T158.setTop (mkF m 272 #[.val (.int p1), .val (.int p2), .val (.int p3), .val (.int p4), .val (.int p5), .val (.int p6), .val (.int (3 : Int32)), .val (.int (own_most p1 p6)), .val (.int (own_vdr p2)), .val (.int (own_vdr p3)), .val (.int (own_vdr p4)), .val (.int (own_vdr p5)), .val (.ref b116), .val (.ref b134), .val (.int (own_qb3 p2 p3 p4)), .val (.int ((3 : Int32) - (own_qb3 p2 p3 p4))), .unset] [(.int (1 : Int32)), (.int ((3 : Int32) - (own_qb3 p2 p3 p4)))])) _
        refine XS.icmpNo X158.here hx rfl (hb hby at_272) rfl (flt hc272_172).1 ?_
        show Steps p.tables e below (T158.setTop (mkF m 275 #[.val (.int p1), .val (.int p2), .val (.int p3), .val (.int p4), .val (.int p5), .val (.int p6), .val (.int (3 : Int32)), .val (.int (own_most p1 p6)), .val (.int (own_vdr p2)), .val (.int (own_vdr p3)), .val (.int (own_vdr p4)), .val (.int (own_vdr p5)), .val (.ref b116), .val (.ref b134), .val (.int (own_qb3 p2 p3 p4)), .val (.int ((3 : Int32) - (own_qb3 p2 p3 p4))), .unset] [])) _
        refine XS.iload X158.here hx rfl (hb hby at_275) rfl ?_
        show Steps p.tables e below (T158.setTop (mkF m 277 #[.val (.int p1), .val (.int p2), .val (.int p3), .val (.int p4), .val (.int p5), .val (.int p6), .val (.int (3 : Int32)), .val (.int (own_most p1 p6)), .val (.int (own_vdr p2)), .val (.int (own_vdr p3)), .val (.int (own_vdr p4)), .val (.int (own_vdr p5)), .val (.ref b116), .val (.ref b134), .val (.int (own_qb3 p2 p3 p4)), .val (.int ((3 : Int32) - (own_qb3 p2 p3 p4))), .unset] [(.int ((3 : Int32) - (own_qb3 p2 p3 p4)))])) _
        refine XS.iload X158.here hx rfl (hb hby at_277) rfl ?_
        by_cases hc279_173 : (own_most p1 p6) < ((3 : Int32) - (own_qb3 p2 p3 p4))
        · show Steps p.tables e below (T158.setTop (mkF m 279 #[.val (.int p1), .val (.int p2), .val (.int p3), .val (.int p4), .val (.int p5), .val (.int p6), .val (.int (3 : Int32)), .val (.int (own_most p1 p6)), .val (.int (own_vdr p2)), .val (.int (own_vdr p3)), .val (.int (own_vdr p4)), .val (.int (own_vdr p5)), .val (.ref b116), .val (.ref b134), .val (.int (own_qb3 p2 p3 p4)), .val (.int ((3 : Int32) - (own_qb3 p2 p3 p4))), .unset] [(.int (own_most p1 p6)), (.int ((3 : Int32) - (own_qb3 p2 p3 p4)))])) _
          refine XS.icmpYes X158.here hx rfl (pc0 := 279) (pc' := 286) rfl (hb hby at_279) rfl (tlt hc279_173).2.2.1 (by decide) (by decide) ?_
          show Steps p.tables e below (T158.setTop (mkF m 286 #[.val (.int p1), .val (.int p2), .val (.int p3), .val (.int p4), .val (.int p5), .val (.int p6), .val (.int (3 : Int32)), .val (.int (own_most p1 p6)), .val (.int (own_vdr p2)), .val (.int (own_vdr p3)), .val (.int (own_vdr p4)), .val (.int (own_vdr p5)), .val (.ref b116), .val (.ref b134), .val (.int (own_qb3 p2 p3 p4)), .val (.int ((3 : Int32) - (own_qb3 p2 p3 p4))), .unset] [])) _
          refine XS.iconst X158.here hx rfl (hb hby at_286) ?_
          show Steps p.tables e below (T158.setTop (mkF m 287 #[.val (.int p1), .val (.int p2), .val (.int p3), .val (.int p4), .val (.int p5), .val (.int p6), .val (.int (3 : Int32)), .val (.int (own_most p1 p6)), .val (.int (own_vdr p2)), .val (.int (own_vdr p3)), .val (.int (own_vdr p4)), .val (.int (own_vdr p5)), .val (.ref b116), .val (.ref b134), .val (.int (own_qb3 p2 p3 p4)), .val (.int ((3 : Int32) - (own_qb3 p2 p3 p4))), .unset] [(.int (0 : Int32))])) _
          refine XS.istore X158.here hx rfl (hb hby at_287) rfl (l' := #[.val (.int p1), .val (.int p2), .val (.int p3), .val (.int p4), .val (.int p5), .val (.int p6), .val (.int (3 : Int32)), .val (.int (own_most p1 p6)), .val (.int (own_vdr p2)), .val (.int (own_vdr p3)), .val (.int (own_vdr p4)), .val (.int (own_vdr p5)), .val (.ref b116), .val (.ref b134), .val (.int (own_qb3 p2 p3 p4)), .val (.int ((3 : Int32) - (own_qb3 p2 p3 p4))), .val (.int (0 : Int32))]) rfl ?_
          have q0 : (own_ex3 p1 p2 p3 p4 p6) = (0 : Int32) := ((if_neg hc272_172).trans (if_pos hc279_173))
          rw [q0] at k
          exact k
        · show Steps p.tables e below (T158.setTop (mkF m 279 #[.val (.int p1), .val (.int p2), .val (.int p3), .val (.int p4), .val (.int p5), .val (.int p6), .val (.int (3 : Int32)), .val (.int (own_most p1 p6)), .val (.int (own_vdr p2)), .val (.int (own_vdr p3)), .val (.int (own_vdr p4)), .val (.int (own_vdr p5)), .val (.ref b116), .val (.ref b134), .val (.int (own_qb3 p2 p3 p4)), .val (.int ((3 : Int32) - (own_qb3 p2 p3 p4))), .unset] [(.int (own_most p1 p6)), (.int ((3 : Int32) - (own_qb3 p2 p3 p4)))])) _
          refine XS.icmpNo X158.here hx rfl (hb hby at_279) rfl (flt hc279_173).2.2.1 ?_
          show Steps p.tables e below (T158.setTop (mkF m 282 #[.val (.int p1), .val (.int p2), .val (.int p3), .val (.int p4), .val (.int p5), .val (.int p6), .val (.int (3 : Int32)), .val (.int (own_most p1 p6)), .val (.int (own_vdr p2)), .val (.int (own_vdr p3)), .val (.int (own_vdr p4)), .val (.int (own_vdr p5)), .val (.ref b116), .val (.ref b134), .val (.int (own_qb3 p2 p3 p4)), .val (.int ((3 : Int32) - (own_qb3 p2 p3 p4))), .unset] [])) _
          refine XS.iconst X158.here hx rfl (hb hby at_282) ?_
          show Steps p.tables e below (T158.setTop (mkF m 283 #[.val (.int p1), .val (.int p2), .val (.int p3), .val (.int p4), .val (.int p5), .val (.int p6), .val (.int (3 : Int32)), .val (.int (own_most p1 p6)), .val (.int (own_vdr p2)), .val (.int (own_vdr p3)), .val (.int (own_vdr p4)), .val (.int (own_vdr p5)), .val (.ref b116), .val (.ref b134), .val (.int (own_qb3 p2 p3 p4)), .val (.int ((3 : Int32) - (own_qb3 p2 p3 p4))), .unset] [(.int (1 : Int32))])) _
          refine XS.goto X158.here hx rfl (pc0 := 283) (pc' := 287) rfl (hb hby at_283) (by decide) (by decide) ?_
          show Steps p.tables e below (T158.setTop (mkF m 287 #[.val (.int p1), .val (.int p2), .val (.int p3), .val (.int p4), .val (.int p5), .val (.int p6), .val (.int (3 : Int32)), .val (.int (own_most p1 p6)), .val (.int (own_vdr p2)), .val (.int (own_vdr p3)), .val (.int (own_vdr p4)), .val (.int (own_vdr p5)), .val (.ref b116), .val (.ref b134), .val (.int (own_qb3 p2 p3 p4)), .val (.int ((3 : Int32) - (own_qb3 p2 p3 p4))), .unset] [(.int (1 : Int32))])) _
          refine XS.istore X158.here hx rfl (hb hby at_287) rfl (l' := #[.val (.int p1), .val (.int p2), .val (.int p3), .val (.int p4), .val (.int p5), .val (.int p6), .val (.int (3 : Int32)), .val (.int (own_most p1 p6)), .val (.int (own_vdr p2)), .val (.int (own_vdr p3)), .val (.int (own_vdr p4)), .val (.int (own_vdr p5)), .val (.ref b116), .val (.ref b134), .val (.int (own_qb3 p2 p3 p4)), .val (.int ((3 : Int32) - (own_qb3 p2 p3 p4))), .val (.int (1 : Int32))]) rfl ?_
          have q0 : (own_ex3 p1 p2 p3 p4 p6) = (1 : Int32) := ((if_neg hc272_172).trans (if_neg hc279_173))
          rw [q0] at k
          exact k
    have k174 : ∀ t, Steps p.tables e below (T158.setTop (mkF m 293 #[.val (.int p1), .val (.int p2), .val (.int p3), .val (.int p4), .val (.int p5), .val (.int p6), .val (.int (3 : Int32)), .val (.int (own_most p1 p6)), .val (.int (own_vdr p2)), .val (.int (own_vdr p3)), .val (.int (own_vdr p4)), .val (.int (own_vdr p5)), .val (.ref b116), .val (.ref b134), .val (.int (own_qb3 p2 p3 p4)), .val (.int ((3 : Int32) - (own_qb3 p2 p3 p4))), .val (.int (own_ex3 p1 p2 p3 p4 p6))] [(.int (own_most p1 p6)), (.ref b134)])) t → Steps p.tables e below (s₁.setTop (entryFrame m #[(.int p1), (.int p2), (.int p3), (.int p4), (.int p5), (.int p6)] maxLocals)) t := by
      intro t k
      refine k171 t ?_
      show Steps p.tables e below (T158.setTop (mkF m 289 #[.val (.int p1), .val (.int p2), .val (.int p3), .val (.int p4), .val (.int p5), .val (.int p6), .val (.int (3 : Int32)), .val (.int (own_most p1 p6)), .val (.int (own_vdr p2)), .val (.int (own_vdr p3)), .val (.int (own_vdr p4)), .val (.int (own_vdr p5)), .val (.ref b116), .val (.ref b134), .val (.int (own_qb3 p2 p3 p4)), .val (.int ((3 : Int32) - (own_qb3 p2 p3 p4))), .val (.int (own_ex3 p1 p2 p3 p4 p6))] [])) _
      refine XS.aload X158.here hx rfl (hb hby at_289) rfl rfl ?_
      show Steps p.tables e below (T158.setTop (mkF m 291 #[.val (.int p1), .val (.int p2), .val (.int p3), .val (.int p4), .val (.int p5), .val (.int p6), .val (.int (3 : Int32)), .val (.int (own_most p1 p6)), .val (.int (own_vdr p2)), .val (.int (own_vdr p3)), .val (.int (own_vdr p4)), .val (.int (own_vdr p5)), .val (.ref b116), .val (.ref b134), .val (.int (own_qb3 p2 p3 p4)), .val (.int ((3 : Int32) - (own_qb3 p2 p3 p4))), .val (.int (own_ex3 p1 p2 p3 p4 p6))] [(.ref b134)])) _
      refine XS.iload X158.here hx rfl (hb hby at_291) rfl ?_
      exact k
    obtain ⟨_, _, ⟨T175, L175, k175c, n175⟩, -, X175, ⟨Lc175, hQ175, l175, y175, z175⟩, st175⟩ := Jvm.LawKit.callS X158 hx (y := (⟨"com/example/daftar/daftar/model/Characters", "isOneTo", "(Ljava/lang/String;I)Z"⟩ : MethodName)) hown (mvT hZ (hw _ (List.mem_of_getElem? (i := 29) rfl))) (mvT hZ (hw _ (List.mem_of_getElem? (i := 30) rfl))) (mvT hZ (hw _ (List.mem_of_getElem? (i := 31) rfl))) (mvT hZ (hw _ (List.mem_of_getElem? (i := 32) rfl))) (by decide) (backOf (W := 0) (own_rmio l Z a0 hw [] b134 (own_most p1 p6) 3 0 (own_of [ (own_vdr p2) , (own_vdr p3) , (own_vdr p4) ]) cs T141.heap n0 Z141 f143 fq141_0 Xo141 SC SA SH SL hcs) hZ (hw _ (List.mem_of_getElem? (i := 32) rfl)) (hw _ (List.mem_of_getElem? (i := 31) rfl)) (by decide) (by decide)) (g := (mkF m 293 #[.val (.int p1), .val (.int p2), .val (.int p3), .val (.int p4), .val (.int p5), .val (.int p6), .val (.int (3 : Int32)), .val (.int (own_most p1 p6)), .val (.int (own_vdr p2)), .val (.int (own_vdr p3)), .val (.int (own_vdr p4)), .val (.int (own_vdr p5)), .val (.ref b116), .val (.ref b134), .val (.int (own_qb3 p2 p3 p4)), .val (.int ((3 : Int32) - (own_qb3 p2 p3 p4))), .val (.int (own_ex3 p1 p2 p3 p4 p6))] [(.int (own_most p1 p6)), (.ref b134)])) rfl (by rw [hml]; rfl) (argsL := [(.ref b134), (.int (own_most p1 p6))]) (rest := []) (lenOf own_pd19 rfl) rfl (by show 2 * 0 + _ ≤ _; exact Nat.le_of_eq rfl) (hb hby at_293) (fun _ _ => ⟨rfl, e158, (by decide : 4 + 0 ≤ _), (by decide : 19 + 0 ≤ _)⟩)
    dsimp only [Pt.U, Pt.locs, Pt.cells, Pt.slots] at X175 l175 y175 z175 st175 hQ175
    subst l175 y175 z175
    obtain ⟨r_175, rfl, N175q, e175, hq175_hr⟩ := hQ175
    have N175 := Fr.app N158 N175q
    have k176 : ∀ t, Steps p.tables e below (T175.setTop (mkF m 296 #[.val (.int p1), .val (.int p2), .val (.int p3), .val (.int p4), .val (.int p5), .val (.int p6), .val (.int (3 : Int32)), .val (.int (own_most p1 p6)), .val (.int (own_vdr p2)), .val (.int (own_vdr p3)), .val (.int (own_vdr p4)), .val (.int (own_vdr p5)), .val (.ref b116), .val (.ref b134), .val (.int (own_qb3 p2 p3 p4)), .val (.int ((3 : Int32) - (own_qb3 p2 p3 p4))), .val (.int (own_ex3 p1 p2 p3 p4 p6))] [(.int r_175)])) t → Steps p.tables e below (s₁.setTop (entryFrame m #[(.int p1), (.int p2), (.int p3), (.int p4), (.int p5), (.int p6)] maxLocals)) t := fun t k => k174 t (st175 t k)
    have k177 : ∀ t, Steps p.tables e below (T175.setTop (mkF m 306 #[.val (.int p1), .val (.int p2), .val (.int p3), .val (.int p4), .val (.int p5), .val (.int p6), .val (.int (3 : Int32)), .val (.int (own_most p1 p6)), .val (.int (own_vdr p2)), .val (.int (own_vdr p3)), .val (.int (own_vdr p4)), .val (.int (own_vdr p5)), .val (.ref b116), .val (.ref b134), .val (.int (own_qb3 p2 p3 p4)), .val (.int ((3 : Int32) - (own_qb3 p2 p3 p4))), .val (.int (own_ex3 p1 p2 p3 p4 p6))] [(.int (1 : Int32))])) t → Steps p.tables e below (s₁.setTop (entryFrame m #[(.int p1), (.int p2), (.int p3), (.int p4), (.int p5), (.int p6)] maxLocals)) t := by
      intro t k
      refine k176 t ?_
      show Steps p.tables e below (T175.setTop (mkF m 296 #[.val (.int p1), .val (.int p2), .val (.int p3), .val (.int p4), .val (.int p5), .val (.int p6), .val (.int (3 : Int32)), .val (.int (own_most p1 p6)), .val (.int (own_vdr p2)), .val (.int (own_vdr p3)), .val (.int (own_vdr p4)), .val (.int (own_vdr p5)), .val (.ref b116), .val (.ref b134), .val (.int (own_qb3 p2 p3 p4)), .val (.int ((3 : Int32) - (own_qb3 p2 p3 p4))), .val (.int (own_ex3 p1 p2 p3 p4 p6))] [(.int r_175)])) _
      refine XS.iload X175.here hx rfl (hb hby at_296) rfl ?_
      show Steps p.tables e below (T175.setTop (mkF m 298 #[.val (.int p1), .val (.int p2), .val (.int p3), .val (.int p4), .val (.int p5), .val (.int p6), .val (.int (3 : Int32)), .val (.int (own_most p1 p6)), .val (.int (own_vdr p2)), .val (.int (own_vdr p3)), .val (.int (own_vdr p4)), .val (.int (own_vdr p5)), .val (.ref b116), .val (.ref b134), .val (.int (own_qb3 p2 p3 p4)), .val (.int ((3 : Int32) - (own_qb3 p2 p3 p4))), .val (.int (own_ex3 p1 p2 p3 p4 p6))] [(.int (own_ex3 p1 p2 p3 p4 p6)), (.int r_175)])) _
      refine XS.icmpNo X175.here hx rfl (hb hby at_298) rfl (teq (own_fin3 p1 p2 p3 p4 p5 p6 hq175_hr)).2 ?_
      show Steps p.tables e below (T175.setTop (mkF m 301 #[.val (.int p1), .val (.int p2), .val (.int p3), .val (.int p4), .val (.int p5), .val (.int p6), .val (.int (3 : Int32)), .val (.int (own_most p1 p6)), .val (.int (own_vdr p2)), .val (.int (own_vdr p3)), .val (.int (own_vdr p4)), .val (.int (own_vdr p5)), .val (.ref b116), .val (.ref b134), .val (.int (own_qb3 p2 p3 p4)), .val (.int ((3 : Int32) - (own_qb3 p2 p3 p4))), .val (.int (own_ex3 p1 p2 p3 p4 p6))] [])) _
      refine XS.iconst X175.here hx rfl (hb hby at_301) ?_
      show Steps p.tables e below (T175.setTop (mkF m 302 #[.val (.int p1), .val (.int p2), .val (.int p3), .val (.int p4), .val (.int p5), .val (.int p6), .val (.int (3 : Int32)), .val (.int (own_most p1 p6)), .val (.int (own_vdr p2)), .val (.int (own_vdr p3)), .val (.int (own_vdr p4)), .val (.int (own_vdr p5)), .val (.ref b116), .val (.ref b134), .val (.int (own_qb3 p2 p3 p4)), .val (.int ((3 : Int32) - (own_qb3 p2 p3 p4))), .val (.int (own_ex3 p1 p2 p3 p4 p6))] [(.int (1 : Int32))])) _
      refine XS.goto X175.here hx rfl (pc0 := 302) (pc' := 306) rfl (hb hby at_302) (by decide) (by decide) ?_
      exact k
    obtain ⟨fs, hr, hrun, hended, hW, hsame⟩ := X175.leave (v := (some (.int (1 : Int32)))) (fun h => by rw [Bd.returns] at h; cases h)
    refine ⟨_, _, k177 _ ?_, hrun, hended, _, _, rfl, ?_, ⟨_, rfl⟩, hW.wide, hW.no_new_pair _, hsame.mono (by decide) (by decide)⟩
    · exact retN X175 hx (t := .boolean) Bd.returns (by simp) (hb hby at_306) hr
    · exact ⟨rfl, N175⟩
  · have k178 : ∀ t, Steps p.tables e below (T14.setTop (mkF m 54 #[.val (.int p1), .val (.int p2), .val (.int p3), .val (.int p4), .val (.int p5), .val (.int p6), .val (.int (4 : Int32)), .val (.int (own_most p1 p6)), .val (.int (own_vdr p2)), .val (.int (own_vdr p3)), .val (.int (own_vdr p4)), .val (.int (own_vdr p5)), .unset, .unset, .unset, .unset, .unset] [])) t → Steps p.tables e below (s₁.setTop (entryFrame m #[(.int p1), (.int p2), (.int p3), (.int p4), (.int p5), (.int p6)] maxLocals)) t := by have z := k16; rw [he] at z; exact z
    have k179 : ∀ t, Steps p.tables e below (T14.setTop (mkF m 140 #[.val (.int p1), .val (.int p2), .val (.int p3), .val (.int p4), .val (.int p5), .val (.int p6), .val (.int (4 : Int32)), .val (.int (own_most p1 p6)), .val (.int (own_vdr p2)), .val (.int (own_vdr p3)), .val (.int (own_vdr p4)), .val (.int (own_vdr p5)), .unset, .unset, .unset, .unset, .unset] [(.int (4 : Int32))])) t → Steps p.tables e below (s₁.setTop (entryFrame m #[(.int p1), (.int p2), (.int p3), (.int p4), (.int p5), (.int p6)] maxLocals)) t := by
      intro t k
      refine k178 t ?_
      show Steps p.tables e below (T14.setTop (mkF m 54 #[.val (.int p1), .val (.int p2), .val (.int p3), .val (.int p4), .val (.int p5), .val (.int p6), .val (.int (4 : Int32)), .val (.int (own_most p1 p6)), .val (.int (own_vdr p2)), .val (.int (own_vdr p3)), .val (.int (own_vdr p4)), .val (.int (own_vdr p5)), .unset, .unset, .unset, .unset, .unset] [])) _
      refine XS.iload X14.here hx rfl (hb hby at_54) rfl ?_
      show Steps p.tables e below (T14.setTop (mkF m 56 #[.val (.int p1), .val (.int p2), .val (.int p3), .val (.int p4), .val (.int p5), .val (.int p6), .val (.int (4 : Int32)), .val (.int (own_most p1 p6)), .val (.int (own_vdr p2)), .val (.int (own_vdr p3)), .val (.int (own_vdr p4)), .val (.int (own_vdr p5)), .unset, .unset, .unset, .unset, .unset] [(.int (4 : Int32))])) _
      refine XS.ifYes X14.here hx rfl (pc0 := 56) (pc' := 67) rfl (hb hby at_56) rfl ((if0 _ _).trans (feq (by decide : ¬ ((4 : Int32) = (0 : Int32)))).2) (by decide) (by decide) ?_
      show Steps p.tables e below (T14.setTop (mkF m 67 #[.val (.int p1), .val (.int p2), .val (.int p3), .val (.int p4), .val (.int p5), .val (.int p6), .val (.int (4 : Int32)), .val (.int (own_most p1 p6)), .val (.int (own_vdr p2)), .val (.int (own_vdr p3)), .val (.int (own_vdr p4)), .val (.int (own_vdr p5)), .unset, .unset, .unset, .unset, .unset] [])) _
      refine XS.iload X14.here hx rfl (hb hby at_67) rfl ?_
      show Steps p.tables e below (T14.setTop (mkF m 69 #[.val (.int p1), .val (.int p2), .val (.int p3), .val (.int p4), .val (.int p5), .val (.int p6), .val (.int (4 : Int32)), .val (.int (own_most p1 p6)), .val (.int (own_vdr p2)), .val (.int (own_vdr p3)), .val (.int (own_vdr p4)), .val (.int (own_vdr p5)), .unset, .unset, .unset, .unset, .unset] [(.int (4 : Int32))])) _
      refine XS.iconst X14.here hx rfl (hb hby at_69) ?_
      show Steps p.tables e below (T14.setTop (mkF m 70 #[.val (.int p1), .val (.int p2), .val (.int p3), .val (.int p4), .val (.int p5), .val (.int p6), .val (.int (4 : Int32)), .val (.int (own_most p1 p6)), .val (.int (own_vdr p2)), .val (.int (own_vdr p3)), .val (.int (own_vdr p4)), .val (.int (own_vdr p5)), .unset, .unset, .unset, .unset, .unset] [(.int (1 : Int32)), (.int (4 : Int32))])) _
      refine XS.icmpYes X14.here hx rfl (pc0 := 70) (pc' := 86) rfl (hb hby at_70) rfl (feq (by decide : ¬ ((4 : Int32) = (1 : Int32)))).2 (by decide) (by decide) ?_
      show Steps p.tables e below (T14.setTop (mkF m 86 #[.val (.int p1), .val (.int p2), .val (.int p3), .val (.int p4), .val (.int p5), .val (.int p6), .val (.int (4 : Int32)), .val (.int (own_most p1 p6)), .val (.int (own_vdr p2)), .val (.int (own_vdr p3)), .val (.int (own_vdr p4)), .val (.int (own_vdr p5)), .unset, .unset, .unset, .unset, .unset] [])) _
      refine XS.iload X14.here hx rfl (hb hby at_86) rfl ?_
      show Steps p.tables e below (T14.setTop (mkF m 88 #[.val (.int p1), .val (.int p2), .val (.int p3), .val (.int p4), .val (.int p5), .val (.int p6), .val (.int (4 : Int32)), .val (.int (own_most p1 p6)), .val (.int (own_vdr p2)), .val (.int (own_vdr p3)), .val (.int (own_vdr p4)), .val (.int (own_vdr p5)), .unset, .unset, .unset, .unset, .unset] [(.int (4 : Int32))])) _
      refine XS.iconst X14.here hx rfl (hb hby at_88) ?_
      show Steps p.tables e below (T14.setTop (mkF m 89 #[.val (.int p1), .val (.int p2), .val (.int p3), .val (.int p4), .val (.int p5), .val (.int p6), .val (.int (4 : Int32)), .val (.int (own_most p1 p6)), .val (.int (own_vdr p2)), .val (.int (own_vdr p3)), .val (.int (own_vdr p4)), .val (.int (own_vdr p5)), .unset, .unset, .unset, .unset, .unset] [(.int (2 : Int32)), (.int (4 : Int32))])) _
      refine XS.icmpYes X14.here hx rfl (pc0 := 89) (pc' := 110) rfl (hb hby at_89) rfl (feq (by decide : ¬ ((4 : Int32) = (2 : Int32)))).2 (by decide) (by decide) ?_
      show Steps p.tables e below (T14.setTop (mkF m 110 #[.val (.int p1), .val (.int p2), .val (.int p3), .val (.int p4), .val (.int p5), .val (.int p6), .val (.int (4 : Int32)), .val (.int (own_most p1 p6)), .val (.int (own_vdr p2)), .val (.int (own_vdr p3)), .val (.int (own_vdr p4)), .val (.int (own_vdr p5)), .unset, .unset, .unset, .unset, .unset] [])) _
      refine XS.iload X14.here hx rfl (hb hby at_110) rfl ?_
      show Steps p.tables e below (T14.setTop (mkF m 112 #[.val (.int p1), .val (.int p2), .val (.int p3), .val (.int p4), .val (.int p5), .val (.int p6), .val (.int (4 : Int32)), .val (.int (own_most p1 p6)), .val (.int (own_vdr p2)), .val (.int (own_vdr p3)), .val (.int (own_vdr p4)), .val (.int (own_vdr p5)), .unset, .unset, .unset, .unset, .unset] [(.int (4 : Int32))])) _
      refine XS.iconst X14.here hx rfl (hb hby at_112) ?_
      show Steps p.tables e below (T14.setTop (mkF m 113 #[.val (.int p1), .val (.int p2), .val (.int p3), .val (.int p4), .val (.int p5), .val (.int p6), .val (.int (4 : Int32)), .val (.int (own_most p1 p6)), .val (.int (own_vdr p2)), .val (.int (own_vdr p3)), .val (.int (own_vdr p4)), .val (.int (own_vdr p5)), .unset, .unset, .unset, .unset, .unset] [(.int (3 : Int32)), (.int (4 : Int32))])) _
      refine XS.icmpYes X14.here hx rfl (pc0 := 113) (pc' := 139) rfl (hb hby at_113) rfl (feq (by decide : ¬ ((4 : Int32) = (3 : Int32)))).2 (by decide) (by decide) ?_
      show Steps p.tables e below (T14.setTop (mkF m 139 #[.val (.int p1), .val (.int p2), .val (.int p3), .val (.int p4), .val (.int p5), .val (.int p6), .val (.int (4 : Int32)), .val (.int (own_most p1 p6)), .val (.int (own_vdr p2)), .val (.int (own_vdr p3)), .val (.int (own_vdr p4)), .val (.int (own_vdr p5)), .unset, .unset, .unset, .unset, .unset] [])) _
      refine XS.iconst X14.here hx rfl (hb hby at_139) ?_
      exact k
    obtain ⟨T180, h180, c180, X180, e180, E180, A180, st180⟩ := newP X14 hx hZ (hw _ (List.mem_of_getElem? (i := 7) rfl)) e14 (g := (mkF m 140 #[.val (.int p1), .val (.int p2), .val (.int p3), .val (.int p4), .val (.int p5), .val (.int p6), .val (.int (4 : Int32)), .val (.int (own_most p1 p6)), .val (.int (own_vdr p2)), .val (.int (own_vdr p3)), .val (.int (own_vdr p4)), .val (.int (own_vdr p5)), .unset, .unset, .unset, .unset, .unset] [(.int (4 : Int32))])) rfl (hb hby at_140) rfl (by decide) (cap := 4) (by decide) (by decide) (by decide) (by decide)
    obtain ⟨b180, g180⟩ : ∃ z, z = h0.size := ⟨_, rfl⟩
    rw [← g180] at A180 st180
    have ge180 : n0 ≤ b180 := Nat.le_trans Z0 (Nat.le_of_eq g180.symm)
    have bo180 : h0.size ≤ b180 := Nat.le_trans (Keep.refl h0 []).1 (Nat.le_of_eq g180.symm)
    have Z180 : n0 ≤ h180.size := Nat.le_trans Z0 E180.1
    have K180 : Keep h0 h180 [] := (Keep.refl h0 []).ext E180
    have Xo180 := Xo.ext E180
    have V180 : Arv Z h180 b180 c180 .char (4 : Int32) [(.int (0 : Int32)), (.int (0 : Int32)), (.int (0 : Int32)), (.int (0 : Int32))] (.int (0 : Int32)) := (Arv.new A180 (by decide)).pad (pad_rep [] (.int (0 : Int32)) 4)
    have k181 : ∀ t, Steps p.tables e below (T180.setTop (mkF m 142 #[.val (.int p1), .val (.int p2), .val (.int p3), .val (.int p4), .val (.int p5), .val (.int p6), .val (.int (4 : Int32)), .val (.int (own_most p1 p6)), .val (.int (own_vdr p2)), .val (.int (own_vdr p3)), .val (.int (own_vdr p4)), .val (.int (own_vdr p5)), .unset, .unset, .unset, .unset, .unset] [(.ref b180)])) t → Steps p.tables e below (s₁.setTop (entryFrame m #[(.int p1), (.int p2), (.int p3), (.int p4), (.int p5), (.int p6)] maxLocals)) t := fun t k => k179 t (st180 t k)
    have k182 : ∀ t, Steps p.tables e below (T180.setTop (mkF m 146 #[.val (.int p1), .val (.int p2), .val (.int p3), .val (.int p4), .val (.int p5), .val (.int p6), .val (.int (4 : Int32)), .val (.int (own_most p1 p6)), .val (.int (own_vdr p2)), .val (.int (own_vdr p3)), .val (.int (own_vdr p4)), .val (.int (own_vdr p5)), .unset, .unset, .unset, .unset, .unset] [(.int (own_vdr p2)), (.int (0 : Int32)), (.ref b180), (.ref b180)])) t → Steps p.tables e below (s₁.setTop (entryFrame m #[(.int p1), (.int p2), (.int p3), (.int p4), (.int p5), (.int p6)] maxLocals)) t := by
      intro t k
      refine k181 t ?_
      show Steps p.tables e below (T180.setTop (mkF m 142 #[.val (.int p1), .val (.int p2), .val (.int p3), .val (.int p4), .val (.int p5), .val (.int p6), .val (.int (4 : Int32)), .val (.int (own_most p1 p6)), .val (.int (own_vdr p2)), .val (.int (own_vdr p3)), .val (.int (own_vdr p4)), .val (.int (own_vdr p5)), .unset, .unset, .unset, .unset, .unset] [(.ref b180)])) _
      refine XS.dup X180.here hx rfl (hb hby at_142) rfl rfl ?_
      show Steps p.tables e below (T180.setTop (mkF m 143 #[.val (.int p1), .val (.int p2), .val (.int p3), .val (.int p4), .val (.int p5), .val (.int p6), .val (.int (4 : Int32)), .val (.int (own_most p1 p6)), .val (.int (own_vdr p2)), .val (.int (own_vdr p3)), .val (.int (own_vdr p4)), .val (.int (own_vdr p5)), .unset, .unset, .unset, .unset, .unset] [(.ref b180), (.ref b180)])) _
      refine XS.iconst X180.here hx rfl (hb hby at_143) ?_
      show Steps p.tables e below (T180.setTop (mkF m 144 #[.val (.int p1), .val (.int p2), .val (.int p3), .val (.int p4), .val (.int p5), .val (.int p6), .val (.int (4 : Int32)), .val (.int (own_most p1 p6)), .val (.int (own_vdr p2)), .val (.int (own_vdr p3)), .val (.int (own_vdr p4)), .val (.int (own_vdr p5)), .unset, .unset, .unset, .unset, .unset] [(.int (0 : Int32)), (.ref b180), (.ref b180)])) _
      refine XS.iload X180.here hx rfl (hb hby at_144) rfl ?_
      exact k
    obtain ⟨cl183, Ar183, qa183, Sa183, Na183, Ha183, Ga183⟩ := id V180
    have hin184 : ¬ ((0 : Int32) < 0 ∨ cl183.slots.size ≤ ((0 : Int32)).toNatClampNeg) := inb_of Sa183 ⟨by decide, by decide⟩
    obtain ⟨T185, h185, X185, e185, W185, st185⟩ := stC X180 hx hZ e180 Ar183 (j := (0 : Int32)) hin184 (g := (mkF m 146 #[.val (.int p1), .val (.int p2), .val (.int p3), .val (.int p4), .val (.int p5), .val (.int p6), .val (.int (4 : Int32)), .val (.int (own_most p1 p6)), .val (.int (own_vdr p2)), .val (.int (own_vdr p3)), .val (.int (own_vdr p4)), .val (.int (own_vdr p5)), .unset, .unset, .unset, .unset, .unset] [(.int (own_vdr p2)), (.int (0 : Int32)), (.ref b180), (.ref b180)])) rfl rfl (hb hby at_146)
    have V185 : Arv Z h185 b180 c180 .char (4 : Int32) [(.int (nar .char (own_vdr p2))), (.int (0 : Int32)), (.int (0 : Int32)), (.int (0 : Int32))] (.int (0 : Int32)) := Arv.set Ar183 qa183 Sa183 Na183 Ha183 Ga183 (fits_nar_char _) W185 0 rfl (Nat.le_of_ble_eq_true rfl)
    have N185 := Fr.snoc X185 N14 ge180
    have K185 : Keep h0 h185 [] := K180.wr W185 (Or.inr bo180)
    have Z185 : n0 ≤ h185.size := Nat.le_trans Z180 (Keep.of_wr W185).1
    have Xo185 := Xo180.wr W185 ge180
    have k186 : ∀ t, Steps p.tables e below (T185.setTop (mkF m 147 #[.val (.int p1), .val (.int p2), .val (.int p3), .val (.int p4), .val (.int p5), .val (.int p6), .val (.int (4 : Int32)), .val (.int (own_most p1 p6)), .val (.int (own_vdr p2)), .val (.int (own_vdr p3)), .val (.int (own_vdr p4)), .val (.int (own_vdr p5)), .unset, .unset, .unset, .unset, .unset] [(.ref b180)])) t → Steps p.tables e below (s₁.setTop (entryFrame m #[(.int p1), (.int p2), (.int p3), (.int p4), (.int p5), (.int p6)] maxLocals)) t := fun t k => k182 t (st185 t k)
    have k187 : ∀ t, Steps p.tables e below (T185.setTop (mkF m 151 #[.val (.int p1), .val (.int p2), .val (.int p3), .val (.int p4), .val (.int p5), .val (.int p6), .val (.int (4 : Int32)), .val (.int (own_most p1 p6)), .val (.int (own_vdr p2)), .val (.int (own_vdr p3)), .val (.int (own_vdr p4)), .val (.int (own_vdr p5)), .unset, .unset, .unset, .unset, .unset] [(.int (own_vdr p3)), (.int (1 : Int32)), (.ref b180), (.ref b180)])) t → Steps p.tables e below (s₁.setTop (entryFrame m #[(.int p1), (.int p2), (.int p3), (.int p4), (.int p5), (.int p6)] maxLocals)) t := by
      intro t k
      refine k186 t ?_
      show Steps p.tables e below (T185.setTop (mkF m 147 #[.val (.int p1), .val (.int p2), .val (.int p3), .val (.int p4), .val (.int p5), .val (.int p6), .val (.int (4 : Int32)), .val (.int (own_most p1 p6)), .val (.int (own_vdr p2)), .val (.int (own_vdr p3)), .val (.int (own_vdr p4)), .val (.int (own_vdr p5)), .unset, .unset, .unset, .unset, .unset] [(.ref b180)])) _
      refine XS.dup X185.here hx rfl (hb hby at_147) rfl rfl ?_
      show Steps p.tables e below (T185.setTop (mkF m 148 #[.val (.int p1), .val (.int p2), .val (.int p3), .val (.int p4), .val (.int p5), .val (.int p6), .val (.int (4 : Int32)), .val (.int (own_most p1 p6)), .val (.int (own_vdr p2)), .val (.int (own_vdr p3)), .val (.int (own_vdr p4)), .val (.int (own_vdr p5)), .unset, .unset, .unset, .unset, .unset] [(.ref b180), (.ref b180)])) _
      refine XS.iconst X185.here hx rfl (hb hby at_148) ?_
      show Steps p.tables e below (T185.setTop (mkF m 149 #[.val (.int p1), .val (.int p2), .val (.int p3), .val (.int p4), .val (.int p5), .val (.int p6), .val (.int (4 : Int32)), .val (.int (own_most p1 p6)), .val (.int (own_vdr p2)), .val (.int (own_vdr p3)), .val (.int (own_vdr p4)), .val (.int (own_vdr p5)), .unset, .unset, .unset, .unset, .unset] [(.int (1 : Int32)), (.ref b180), (.ref b180)])) _
      refine XS.iload X185.here hx rfl (hb hby at_149) rfl ?_
      exact k
    obtain ⟨cl188, Ar188, qa188, Sa188, Na188, Ha188, Ga188⟩ := id V185
    have hin189 : ¬ ((1 : Int32) < 0 ∨ cl188.slots.size ≤ ((1 : Int32)).toNatClampNeg) := inb_of Sa188 ⟨by decide, by decide⟩
    obtain ⟨T190, h190, X190, e190, W190, st190⟩ := stC X185 hx hZ e185 Ar188 (j := (1 : Int32)) hin189 (g := (mkF m 151 #[.val (.int p1), .val (.int p2), .val (.int p3), .val (.int p4), .val (.int p5), .val (.int p6), .val (.int (4 : Int32)), .val (.int (own_most p1 p6)), .val (.int (own_vdr p2)), .val (.int (own_vdr p3)), .val (.int (own_vdr p4)), .val (.int (own_vdr p5)), .unset, .unset, .unset, .unset, .unset] [(.int (own_vdr p3)), (.int (1 : Int32)), (.ref b180), (.ref b180)])) rfl rfl (hb hby at_151)
    have V190 : Arv Z h190 b180 c180 .char (4 : Int32) [(.int (nar .char (own_vdr p2))), (.int (nar .char (own_vdr p3))), (.int (0 : Int32)), (.int (0 : Int32))] (.int (0 : Int32)) := Arv.set Ar188 qa188 Sa188 Na188 Ha188 Ga188 (fits_nar_char _) W190 1 rfl (Nat.le_of_ble_eq_true rfl)
    have N190 := Fr.snoc X190 N185 ge180
    have K190 : Keep h0 h190 [] := K185.wr W190 (Or.inr bo180)
    have Z190 : n0 ≤ h190.size := Nat.le_trans Z185 (Keep.of_wr W190).1
    have Xo190 := Xo185.wr W190 ge180
    have k191 : ∀ t, Steps p.tables e below (T190.setTop (mkF m 152 #[.val (.int p1), .val (.int p2), .val (.int p3), .val (.int p4), .val (.int p5), .val (.int p6), .val (.int (4 : Int32)), .val (.int (own_most p1 p6)), .val (.int (own_vdr p2)), .val (.int (own_vdr p3)), .val (.int (own_vdr p4)), .val (.int (own_vdr p5)), .unset, .unset, .unset, .unset, .unset] [(.ref b180)])) t → Steps p.tables e below (s₁.setTop (entryFrame m #[(.int p1), (.int p2), (.int p3), (.int p4), (.int p5), (.int p6)] maxLocals)) t := fun t k => k187 t (st190 t k)
    have k192 : ∀ t, Steps p.tables e below (T190.setTop (mkF m 156 #[.val (.int p1), .val (.int p2), .val (.int p3), .val (.int p4), .val (.int p5), .val (.int p6), .val (.int (4 : Int32)), .val (.int (own_most p1 p6)), .val (.int (own_vdr p2)), .val (.int (own_vdr p3)), .val (.int (own_vdr p4)), .val (.int (own_vdr p5)), .unset, .unset, .unset, .unset, .unset] [(.int (own_vdr p4)), (.int (2 : Int32)), (.ref b180), (.ref b180)])) t → Steps p.tables e below (s₁.setTop (entryFrame m #[(.int p1), (.int p2), (.int p3), (.int p4), (.int p5), (.int p6)] maxLocals)) t := by
      intro t k
      refine k191 t ?_
      show Steps p.tables e below (T190.setTop (mkF m 152 #[.val (.int p1), .val (.int p2), .val (.int p3), .val (.int p4), .val (.int p5), .val (.int p6), .val (.int (4 : Int32)), .val (.int (own_most p1 p6)), .val (.int (own_vdr p2)), .val (.int (own_vdr p3)), .val (.int (own_vdr p4)), .val (.int (own_vdr p5)), .unset, .unset, .unset, .unset, .unset] [(.ref b180)])) _
      refine XS.dup X190.here hx rfl (hb hby at_152) rfl rfl ?_
      show Steps p.tables e below (T190.setTop (mkF m 153 #[.val (.int p1), .val (.int p2), .val (.int p3), .val (.int p4), .val (.int p5), .val (.int p6), .val (.int (4 : Int32)), .val (.int (own_most p1 p6)), .val (.int (own_vdr p2)), .val (.int (own_vdr p3)), .val (.int (own_vdr p4)), .val (.int (own_vdr p5)), .unset, .unset, .unset, .unset, .unset] [(.ref b180), (.ref b180)])) _
      refine XS.iconst X190.here hx rfl (hb hby at_153) ?_
      show Steps p.tables e below (T190.setTop (mkF m 154 #[.val (.int p1), .val (.int p2), .val (.int p3), .val (.int p4), .val (.int p5), .val (.int p6), .val (.int (4 : Int32)), .val (.int (own_most p1 p6)), .val (.int (own_vdr p2)), .val (.int (own_vdr p3)), .val (.int (own_vdr p4)), .val (.int (own_vdr p5)), .unset, .unset, .unset, .unset, .unset] [(.int (2 : Int32)), (.ref b180), (.ref b180)])) _
      refine XS.iload X190.here hx rfl (hb hby at_154) rfl ?_
      exact k
    obtain ⟨cl193, Ar193, qa193, Sa193, Na193, Ha193, Ga193⟩ := id V190
    have hin194 : ¬ ((2 : Int32) < 0 ∨ cl193.slots.size ≤ ((2 : Int32)).toNatClampNeg) := inb_of Sa193 ⟨by decide, by decide⟩
    obtain ⟨T195, h195, X195, e195, W195, st195⟩ := stC X190 hx hZ e190 Ar193 (j := (2 : Int32)) hin194 (g := (mkF m 156 #[.val (.int p1), .val (.int p2), .val (.int p3), .val (.int p4), .val (.int p5), .val (.int p6), .val (.int (4 : Int32)), .val (.int (own_most p1 p6)), .val (.int (own_vdr p2)), .val (.int (own_vdr p3)), .val (.int (own_vdr p4)), .val (.int (own_vdr p5)), .unset, .unset, .unset, .unset, .unset] [(.int (own_vdr p4)), (.int (2 : Int32)), (.ref b180), (.ref b180)])) rfl rfl (hb hby at_156)
    have V195 : Arv Z h195 b180 c180 .char (4 : Int32) [(.int (nar .char (own_vdr p2))), (.int (nar .char (own_vdr p3))), (.int (nar .char (own_vdr p4))), (.int (0 : Int32))] (.int (0 : Int32)) := Arv.set Ar193 qa193 Sa193 Na193 Ha193 Ga193 (fits_nar_char _) W195 2 rfl (Nat.le_of_ble_eq_true rfl)
    have N195 := Fr.snoc X195 N190 ge180
    have K195 : Keep h0 h195 [] := K190.wr W195 (Or.inr bo180)
    have Z195 : n0 ≤ h195.size := Nat.le_trans Z190 (Keep.of_wr W195).1
    have Xo195 := Xo190.wr W195 ge180
    have k196 : ∀ t, Steps p.tables e below (T195.setTop (mkF m 157 #[.val (.int p1), .val (.int p2), .val (.int p3), .val (.int p4), .val (.int p5), .val (.int p6), .val (.int (4 : Int32)), .val (.int (own_most p1 p6)), .val (.int (own_vdr p2)), .val (.int (own_vdr p3)), .val (.int (own_vdr p4)), .val (.int (own_vdr p5)), .unset, .unset, .unset, .unset, .unset] [(.ref b180)])) t → Steps p.tables e below (s₁.setTop (entryFrame m #[(.int p1), (.int p2), (.int p3), (.int p4), (.int p5), (.int p6)] maxLocals)) t := fun t k => k192 t (st195 t k)
    have k197 : ∀ t, Steps p.tables e below (T195.setTop (mkF m 161 #[.val (.int p1), .val (.int p2), .val (.int p3), .val (.int p4), .val (.int p5), .val (.int p6), .val (.int (4 : Int32)), .val (.int (own_most p1 p6)), .val (.int (own_vdr p2)), .val (.int (own_vdr p3)), .val (.int (own_vdr p4)), .val (.int (own_vdr p5)), .unset, .unset, .unset, .unset, .unset] [(.int (own_vdr p5)), (.int (3 : Int32)), (.ref b180), (.ref b180)])) t → Steps p.tables e below (s₁.setTop (entryFrame m #[(.int p1), (.int p2), (.int p3), (.int p4), (.int p5), (.int p6)] maxLocals)) t := by
      intro t k
      refine k196 t ?_
      show Steps p.tables e below (T195.setTop (mkF m 157 #[.val (.int p1), .val (.int p2), .val (.int p3), .val (.int p4), .val (.int p5), .val (.int p6), .val (.int (4 : Int32)), .val (.int (own_most p1 p6)), .val (.int (own_vdr p2)), .val (.int (own_vdr p3)), .val (.int (own_vdr p4)), .val (.int (own_vdr p5)), .unset, .unset, .unset, .unset, .unset] [(.ref b180)])) _
      refine XS.dup X195.here hx rfl (hb hby at_157) rfl rfl ?_
      show Steps p.tables e below (T195.setTop (mkF m 158 #[.val (.int p1), .val (.int p2), .val (.int p3), .val (.int p4), .val (.int p5), .val (.int p6), .val (.int (4 : Int32)), .val (.int (own_most p1 p6)), .val (.int (own_vdr p2)), .val (.int (own_vdr p3)), .val (.int (own_vdr p4)), .val (.int (own_vdr p5)), .unset, .unset, .unset, .unset, .unset] [(.ref b180), (.ref b180)])) _
      refine XS.iconst X195.here hx rfl (hb hby at_158) ?_
      show Steps p.tables e below (T195.setTop (mkF m 159 #[.val (.int p1), .val (.int p2), .val (.int p3), .val (.int p4), .val (.int p5), .val (.int p6), .val (.int (4 : Int32)), .val (.int (own_most p1 p6)), .val (.int (own_vdr p2)), .val (.int (own_vdr p3)), .val (.int (own_vdr p4)), .val (.int (own_vdr p5)), .unset, .unset, .unset, .unset, .unset] [(.int (3 : Int32)), (.ref b180), (.ref b180)])) _
      refine XS.iload X195.here hx rfl (hb hby at_159) rfl ?_
      exact k
    obtain ⟨cl198, Ar198, qa198, Sa198, Na198, Ha198, Ga198⟩ := id V195
    have hin199 : ¬ ((3 : Int32) < 0 ∨ cl198.slots.size ≤ ((3 : Int32)).toNatClampNeg) := inb_of Sa198 ⟨by decide, by decide⟩
    obtain ⟨T200, h200, X200, e200, W200, st200⟩ := stC X195 hx hZ e195 Ar198 (j := (3 : Int32)) hin199 (g := (mkF m 161 #[.val (.int p1), .val (.int p2), .val (.int p3), .val (.int p4), .val (.int p5), .val (.int p6), .val (.int (4 : Int32)), .val (.int (own_most p1 p6)), .val (.int (own_vdr p2)), .val (.int (own_vdr p3)), .val (.int (own_vdr p4)), .val (.int (own_vdr p5)), .unset, .unset, .unset, .unset, .unset] [(.int (own_vdr p5)), (.int (3 : Int32)), (.ref b180), (.ref b180)])) rfl rfl (hb hby at_161)
    have V200 : Arv Z h200 b180 c180 .char (4 : Int32) [(.int (nar .char (own_vdr p2))), (.int (nar .char (own_vdr p3))), (.int (nar .char (own_vdr p4))), (.int (nar .char (own_vdr p5)))] (.int (0 : Int32)) := Arv.set Ar198 qa198 Sa198 Na198 Ha198 Ga198 (fits_nar_char _) W200 3 rfl (Nat.le_of_ble_eq_true rfl)
    have N200 := Fr.snoc X200 N195 ge180
    have K200 : Keep h0 h200 [] := K195.wr W200 (Or.inr bo180)
    have Z200 : n0 ≤ h200.size := Nat.le_trans Z195 (Keep.of_wr W200).1
    have Xo200 := Xo195.wr W200 ge180
    have k201 : ∀ t, Steps p.tables e below (T200.setTop (mkF m 162 #[.val (.int p1), .val (.int p2), .val (.int p3), .val (.int p4), .val (.int p5), .val (.int p6), .val (.int (4 : Int32)), .val (.int (own_most p1 p6)), .val (.int (own_vdr p2)), .val (.int (own_vdr p3)), .val (.int (own_vdr p4)), .val (.int (own_vdr p5)), .unset, .unset, .unset, .unset, .unset] [(.ref b180)])) t → Steps p.tables e below (s₁.setTop (entryFrame m #[(.int p1), (.int p2), (.int p3), (.int p4), (.int p5), (.int p6)] maxLocals)) t := fun t k => k197 t (st200 t k)
    have k202 : ∀ t, Steps p.tables e below (T200.setTop (mkF m 164 #[.val (.int p1), .val (.int p2), .val (.int p3), .val (.int p4), .val (.int p5), .val (.int p6), .val (.int (4 : Int32)), .val (.int (own_most p1 p6)), .val (.int (own_vdr p2)), .val (.int (own_vdr p3)), .val (.int (own_vdr p4)), .val (.int (own_vdr p5)), .val (.ref b180), .unset, .unset, .unset, .unset] [])) t → Steps p.tables e below (s₁.setTop (entryFrame m #[(.int p1), (.int p2), (.int p3), (.int p4), (.int p5), (.int p6)] maxLocals)) t := by
      intro t k
      refine k201 t ?_
      show Steps p.tables e below (T200.setTop (mkF m 162 #[.val (.int p1), .val (.int p2), .val (.int p3), .val (.int p4), .val (.int p5), .val (.int p6), .val (.int (4 : Int32)), .val (.int (own_most p1 p6)), .val (.int (own_vdr p2)), .val (.int (own_vdr p3)), .val (.int (own_vdr p4)), .val (.int (own_vdr p5)), .unset, .unset, .unset, .unset, .unset] [(.ref b180)])) _
      refine XS.astore X200.here hx rfl (hb hby at_162) rfl rfl (l' := #[.val (.int p1), .val (.int p2), .val (.int p3), .val (.int p4), .val (.int p5), .val (.int p6), .val (.int (4 : Int32)), .val (.int (own_most p1 p6)), .val (.int (own_vdr p2)), .val (.int (own_vdr p3)), .val (.int (own_vdr p4)), .val (.int (own_vdr p5)), .val (.ref b180), .unset, .unset, .unset, .unset]) rfl ?_
      exact k
    rw [own_drn p2, own_drn p3, own_drn p4, own_drn p5] at V200
    have GA4 : own_G Z h200 b180 .char 4 (own_of [(own_vdr p2), (own_vdr p3), (own_vdr p4), (own_vdr p5)]) := own_G.ofV (vs := [(own_vdr p2), (own_vdr p3), (own_vdr p4), (own_vdr p5)]) (n := 4) V200 rfl
    have hch : ∀ i, i < 4 → own_ch ((own_of [(own_vdr p2), (own_vdr p3), (own_vdr p4), (own_vdr p5)]) (0 + i)) := own_chL (vs := [(own_vdr p2), (own_vdr p3), (own_vdr p4), (own_vdr p5)]) (fun v hv => by simp only [List.mem_cons, List.not_mem_nil, or_false] at hv; rcases hv with rfl | rfl | rfl | rfl <;> exact own_drb _)
    obtain ⟨T203, h203, X203, e203, E203, A203, D203, -, st203⟩ := newO X200 hx hZ hown (hw _ (List.mem_of_getElem? (i := 8) rfl)) (hw _ (List.mem_of_getElem? (i := 9) rfl)) (hw _ (List.mem_of_getElem? (i := 10) rfl)) e200 (g := (mkF m 164 #[.val (.int p1), .val (.int p2), .val (.int p3), .val (.int p4), .val (.int p5), .val (.int p6), .val (.int (4 : Int32)), .val (.int (own_most p1 p6)), .val (.int (own_vdr p2)), .val (.int (own_vdr p3)), .val (.int (own_vdr p4)), .val (.int (own_vdr p5)), .val (.ref b180), .unset, .unset, .unset, .unset] [])) rfl (hb hby at_164) (by decide) (by decide)
    obtain ⟨b203, g203⟩ : ∃ z, z = h200.size := ⟨_, rfl⟩
    rw [← g203] at A203 D203 st203
    have ge203 : n0 ≤ b203 := Nat.le_trans Z200 (Nat.le_of_eq g203.symm)
    have bo203 : h0.size ≤ b203 := Nat.le_trans K200.1 (Nat.le_of_eq g203.symm)
    have ne204 : b180 ≠ b203 := Nat.ne_of_lt (Nat.lt_of_lt_of_le GA4.lt (Nat.le_of_eq g203.symm))
    have Z203 : n0 ≤ h203.size := Nat.le_trans Z200 E203.1
    have K203 : Keep h0 h203 [] := K200.ext E203
    have Xo203 := Xo200.ext E203
    have f205 := GA4.ext E203
    have f206 : Fld Z h203 b203 "java/lang/String" "value" "[B" .null := D203 (Or.inr (hw _ (List.mem_of_getElem? (i := 23) rfl))) (ty := (.array .byte)) (by decide)
    have f207 : Fld Z h203 b203 "java/lang/String" "coder" "B" (.int (0 : Int32)) := D203 (Or.inr (hw _ (List.mem_of_getElem? (i := 24) rfl))) (ty := .byte) (by decide)
    have k208 : ∀ t, Steps p.tables e below (T203.setTop (mkF m 167 #[.val (.int p1), .val (.int p2), .val (.int p3), .val (.int p4), .val (.int p5), .val (.int p6), .val (.int (4 : Int32)), .val (.int (own_most p1 p6)), .val (.int (own_vdr p2)), .val (.int (own_vdr p3)), .val (.int (own_vdr p4)), .val (.int (own_vdr p5)), .val (.ref b180), .unset, .unset, .unset, .unset] [(.ref b203)])) t → Steps p.tables e below (s₁.setTop (entryFrame m #[(.int p1), (.int p2), (.int p3), (.int p4), (.int p5), (.int p6)] maxLocals)) t := fun t k => k202 t (st203 t k)
    have k209 : ∀ t, Steps p.tables e below (T203.setTop (mkF m 170 #[.val (.int p1), .val (.int p2), .val (.int p3), .val (.int p4), .val (.int p5), .val (.int p6), .val (.int (4 : Int32)), .val (.int (own_most p1 p6)), .val (.int (own_vdr p2)), .val (.int (own_vdr p3)), .val (.int (own_vdr p4)), .val (.int (own_vdr p5)), .val (.ref b180), .unset, .unset, .unset, .unset] [(.ref b180), (.ref b203), (.ref b203)])) t → Steps p.tables e below (s₁.setTop (entryFrame m #[(.int p1), (.int p2), (.int p3), (.int p4), (.int p5), (.int p6)] maxLocals)) t := by
      intro t k
      refine k208 t ?_
      show Steps p.tables e below (T203.setTop (mkF m 167 #[.val (.int p1), .val (.int p2), .val (.int p3), .val (.int p4), .val (.int p5), .val (.int p6), .val (.int (4 : Int32)), .val (.int (own_most p1 p6)), .val (.int (own_vdr p2)), .val (.int (own_vdr p3)), .val (.int (own_vdr p4)), .val (.int (own_vdr p5)), .val (.ref b180), .unset, .unset, .unset, .unset] [(.ref b203)])) _
      refine XS.dup X203.here hx rfl (hb hby at_167) rfl rfl ?_
      show Steps p.tables e below (T203.setTop (mkF m 168 #[.val (.int p1), .val (.int p2), .val (.int p3), .val (.int p4), .val (.int p5), .val (.int p6), .val (.int (4 : Int32)), .val (.int (own_most p1 p6)), .val (.int (own_vdr p2)), .val (.int (own_vdr p3)), .val (.int (own_vdr p4)), .val (.int (own_vdr p5)), .val (.ref b180), .unset, .unset, .unset, .unset] [(.ref b203), (.ref b203)])) _
      refine XS.aload X203.here hx rfl (hb hby at_168) rfl rfl ?_
      exact k
    obtain ⟨_, _, ⟨T210, L210, k210c, n210⟩, -, X210, ⟨Lc210, hQ210, l210, y210, z210⟩, st210⟩ := X203.specialBack hx (y := (⟨"java/lang/String", "<init>", "([C)V"⟩ : MethodName)) rfl hown (mvT hZ (hw _ (List.mem_of_getElem? (i := 11) rfl))) (mvT hZ (hw _ (List.mem_of_getElem? (i := 12) rfl))) (mvT hZ (hw _ (List.mem_of_getElem? (i := 13) rfl))) (by decide) (backOf (W := 1) (own_rms1 l Z a0 hw [] b203 b180 .null (.int (0 : Int32)) 4 (own_of [ (own_vdr p2) , (own_vdr p3) , (own_vdr p4) , (own_vdr p5) ]) cs h203 n0 Z203 A203 f206 f207 f205 ge203 ne204 Xo203 SC SA SH SL hcs (by omega) (by omega) hch) hZ (hw _ (List.mem_of_getElem? (i := 13) rfl)) (hw _ (List.mem_of_getElem? (i := 10) rfl)) (by decide) (by decide)) (g := (mkF m 170 #[.val (.int p1), .val (.int p2), .val (.int p3), .val (.int p4), .val (.int p5), .val (.int p6), .val (.int (4 : Int32)), .val (.int (own_most p1 p6)), .val (.int (own_vdr p2)), .val (.int (own_vdr p3)), .val (.int (own_vdr p4)), .val (.int (own_vdr p5)), .val (.ref b180), .unset, .unset, .unset, .unset] [(.ref b180), (.ref b203), (.ref b203)])) rfl (by rw [hml]; rfl) (Steps.refl _) (a := b203) (argsL := [(.ref b180)]) (rest := [(.ref b203)]) (lenOf own_pd18 rfl) rfl (by show 2 * 0 + _ ≤ _; exact Nat.le_of_eq rfl) (hb hby at_170) (fun _ _ => ⟨rfl, e203, (by decide : 2 + 2 ≤ _), (by decide : 8 + 12 ≤ _)⟩)
    dsimp only [Pt.U, Pt.locs, Pt.cells, Pt.slots] at X210 l210 y210 z210 st210 hQ210
    subst l210 y210 z210
    obtain ⟨rfl, N210q, Kq210, fq210_0⟩ := hQ210
    have N210 := Fr.app N200 N210q
    have f211 := f205.keep Kq210 (List.not_mem_cons_of_ne_of_not_mem ne204 List.not_mem_nil)
    have f212 := A203.keep Kq210
    have Z210 : n0 ≤ T210.heap.size := Nat.le_trans Z203 Kq210.1
    have K210 : Keep h0 T210.heap [] := K203.trans Kq210 (fun x hx => by rcases List.mem_cons.mp hx with rfl | hx; exact Or.inr bo203; exact nomatch hx)
    have Xo210 := Xo203.keep Kq210 (allS ge203 all0)
    have k213 : ∀ t, Steps p.tables e below (T210.setTop (mkF m 173 #[.val (.int p1), .val (.int p2), .val (.int p3), .val (.int p4), .val (.int p5), .val (.int p6), .val (.int (4 : Int32)), .val (.int (own_most p1 p6)), .val (.int (own_vdr p2)), .val (.int (own_vdr p3)), .val (.int (own_vdr p4)), .val (.int (own_vdr p5)), .val (.ref b180), .unset, .unset, .unset, .unset] [(.ref b203)])) t → Steps p.tables e below (s₁.setTop (entryFrame m #[(.int p1), (.int p2), (.int p3), (.int p4), (.int p5), (.int p6)] maxLocals)) t := fun t k => k209 t (st210.trans k)
    have k214 : ∀ t, Steps p.tables e below (T210.setTop (mkF m 178 #[.val (.int p1), .val (.int p2), .val (.int p3), .val (.int p4), .val (.int p5), .val (.int p6), .val (.int (4 : Int32)), .val (.int (own_most p1 p6)), .val (.int (own_vdr p2)), .val (.int (own_vdr p3)), .val (.int (own_vdr p4)), .val (.int (own_vdr p5)), .val (.ref b180), .val (.ref b203), .val (.int (0 : Int32)), .unset, .unset] [])) t → Steps p.tables e below (s₁.setTop (entryFrame m #[(.int p1), (.int p2), (.int p3), (.int p4), (.int p5), (.int p6)] maxLocals)) t := by
      intro t k
      refine k213 t ?_
      show Steps p.tables e below (T210.setTop (mkF m 173 #[.val (.int p1), .val (.int p2), .val (.int p3), .val (.int p4), .val (.int p5), .val (.int p6), .val (.int (4 : Int32)), .val (.int (own_most p1 p6)), .val (.int (own_vdr p2)), .val (.int (own_vdr p3)), .val (.int (own_vdr p4)), .val (.int (own_vdr p5)), .val (.ref b180), .unset, .unset, .unset, .unset] [(.ref b203)])) _
      refine XS.astore X210.here hx rfl (hb hby at_173) rfl rfl (l' := #[.val (.int p1), .val (.int p2), .val (.int p3), .val (.int p4), .val (.int p5), .val (.int p6), .val (.int (4 : Int32)), .val (.int (own_most p1 p6)), .val (.int (own_vdr p2)), .val (.int (own_vdr p3)), .val (.int (own_vdr p4)), .val (.int (own_vdr p5)), .val (.ref b180), .val (.ref b203), .unset, .unset, .unset]) rfl ?_
      show Steps p.tables e below (T210.setTop (mkF m 175 #[.val (.int p1), .val (.int p2), .val (.int p3), .val (.int p4), .val (.int p5), .val (.int p6), .val (.int (4 : Int32)), .val (.int (own_most p1 p6)), .val (.int (own_vdr p2)), .val (.int (own_vdr p3)), .val (.int (own_vdr p4)), .val (.int (own_vdr p5)), .val (.ref b180), .val (.ref b203), .unset, .unset, .unset] [])) _
      refine XS.iconst X210.here hx rfl (hb hby at_175) ?_
      show Steps p.tables e below (T210.setTop (mkF m 176 #[.val (.int p1), .val (.int p2), .val (.int p3), .val (.int p4), .val (.int p5), .val (.int p6), .val (.int (4 : Int32)), .val (.int (own_most p1 p6)), .val (.int (own_vdr p2)), .val (.int (own_vdr p3)), .val (.int (own_vdr p4)), .val (.int (own_vdr p5)), .val (.ref b180), .val (.ref b203), .unset, .unset, .unset] [(.int (0 : Int32))])) _
      refine XS.istore X210.here hx rfl (hb hby at_176) rfl (l' := #[.val (.int p1), .val (.int p2), .val (.int p3), .val (.int p4), .val (.int p5), .val (.int p6), .val (.int (4 : Int32)), .val (.int (own_most p1 p6)), .val (.int (own_vdr p2)), .val (.int (own_vdr p3)), .val (.int (own_vdr p4)), .val (.int (own_vdr p5)), .val (.ref b180), .val (.ref b203), .val (.int (0 : Int32)), .unset, .unset]) rfl ?_
      exact k
    have sg215 : ∃ (T' : State) (L' : List Loc), Stand p l e room_1 s m #[(.int p1), (.int p2), (.int p3), (.int p4), (.int p5), (.int p6)] below meth c T' L' 4 20 ∧ T'.heap = T210.heap ∧ Fr n0 L' ∧ ∀ t, Steps p.tables e below (T'.setTop (mkF m 206 #[.val (.int p1), .val (.int p2), .val (.int p3), .val (.int p4), .val (.int p5), .val (.int p6), .val (.int (4 : Int32)), .val (.int (own_most p1 p6)), .val (.int (own_vdr p2)), .val (.int (own_vdr p3)), .val (.int (own_vdr p4)), .val (.int (own_vdr p5)), .val (.ref b180), .val (.ref b203), .val (.int (own_qa4 p2 p3)), .unset, .unset] [])) t → Steps p.tables e below (s₁.setTop (entryFrame m #[(.int p1), (.int p2), (.int p3), (.int p4), (.int p5), (.int p6)] maxLocals)) t := by
      have k216 : ∀ t, Steps p.tables e below (T210.setTop (mkF m 186 #[.val (.int p1), .val (.int p2), .val (.int p3), .val (.int p4), .val (.int p5), .val (.int p6), .val (.int (4 : Int32)), .val (.int (own_most p1 p6)), .val (.int (own_vdr p2)), .val (.int (own_vdr p3)), .val (.int (own_vdr p4)), .val (.int (own_vdr p5)), .val (.ref b180), .val (.ref b203), .val (.int (0 : Int32)), .unset, .unset] [(.int (own_vdr p2))])) t → Steps p.tables e below (s₁.setTop (entryFrame m #[(.int p1), (.int p2), (.int p3), (.int p4), (.int p5), (.int p6)] maxLocals)) t := by
        intro t k
        refine k214 t ?_
        show Steps p.tables e below (T210.setTop (mkF m 178 #[.val (.int p1), .val (.int p2), .val (.int p3), .val (.int p4), .val (.int p5), .val (.int p6), .val (.int (4 : Int32)), .val (.int (own_most p1 p6)), .val (.int (own_vdr p2)), .val (.int (own_vdr p3)), .val (.int (own_vdr p4)), .val (.int (own_vdr p5)), .val (.ref b180), .val (.ref b203), .val (.int (0 : Int32)), .unset, .unset] [])) _
        refine XS.iload X210.here hx rfl (hb hby at_178) rfl ?_
        show Steps p.tables e below (T210.setTop (mkF m 180 #[.val (.int p1), .val (.int p2), .val (.int p3), .val (.int p4), .val (.int p5), .val (.int p6), .val (.int (4 : Int32)), .val (.int (own_most p1 p6)), .val (.int (own_vdr p2)), .val (.int (own_vdr p3)), .val (.int (own_vdr p4)), .val (.int (own_vdr p5)), .val (.ref b180), .val (.ref b203), .val (.int (0 : Int32)), .unset, .unset] [(.int (4 : Int32))])) _
        refine XS.iconst X210.here hx rfl (hb hby at_180) ?_
        show Steps p.tables e below (T210.setTop (mkF m 181 #[.val (.int p1), .val (.int p2), .val (.int p3), .val (.int p4), .val (.int p5), .val (.int p6), .val (.int (4 : Int32)), .val (.int (own_most p1 p6)), .val (.int (own_vdr p2)), .val (.int (own_vdr p3)), .val (.int (own_vdr p4)), .val (.int (own_vdr p5)), .val (.ref b180), .val (.ref b203), .val (.int (0 : Int32)), .unset, .unset] [(.int (2 : Int32)), (.int (4 : Int32))])) _
        refine XS.icmpNo X210.here hx rfl (hb hby at_181) rfl (flt (by decide : ¬ ((4 : Int32) < (2 : Int32)))).1 ?_
        show Steps p.tables e below (T210.setTop (mkF m 184 #[.val (.int p1), .val (.int p2), .val (.int p3), .val (.int p4), .val (.int p5), .val (.int p6), .val (.int (4 : Int32)), .val (.int (own_most p1 p6)), .val (.int (own_vdr p2)), .val (.int (own_vdr p3)), .val (.int (own_vdr p4)), .val (.int (own_vdr p5)), .val (.ref b180), .val (.ref b203), .val (.int (0 : Int32)), .unset, .unset] [])) _
        refine XS.iload X210.here hx rfl (hb hby at_184) rfl ?_
        exact k
      obtain ⟨_, _, ⟨T217, L217, k217c, n217⟩, -, X217, ⟨Lc217, hQ217, l217, y217, z217⟩, st217⟩ := Jvm.LawKit.callS X210 hx (y := (⟨"com/example/daftar/daftar/model/CharactersIsOneToPinLaw", "hi", "(C)Z"⟩ : MethodName)) hown (mvT hZ (hw _ (List.mem_of_getElem? (i := 92) rfl))) (mvT hZ (hw _ (List.mem_of_getElem? (i := 93) rfl))) (mvT hZ (hw _ (List.mem_of_getElem? (i := 2) rfl))) (mvT hZ (hw _ (List.mem_of_getElem? (i := 94) rfl))) (by decide) (backOf (W := 0) (own_rmhi l Z a0 hw [] (own_vdr p2) T210.heap n0 Z210) hZ (hw _ (List.mem_of_getElem? (i := 94) rfl)) (hw _ (List.mem_of_getElem? (i := 2) rfl)) (by decide) (by decide)) (g := (mkF m 186 #[.val (.int p1), .val (.int p2), .val (.int p3), .val (.int p4), .val (.int p5), .val (.int p6), .val (.int (4 : Int32)), .val (.int (own_most p1 p6)), .val (.int (own_vdr p2)), .val (.int (own_vdr p3)), .val (.int (own_vdr p4)), .val (.int (own_vdr p5)), .val (.ref b180), .val (.ref b203), .val (.int (0 : Int32)), .unset, .unset] [(.int (own_vdr p2))])) rfl (by rw [hml]; rfl) (argsL := [(.int (own_vdr p2))]) (rest := []) (lenOf own_pd10 rfl) rfl (by show 2 * 0 + _ ≤ _; exact Nat.le_of_eq rfl) (hb hby at_186) (fun _ _ => ⟨rfl, rfl, (by decide : 4 + 0 ≤ _), (by decide : 20 + 0 ≤ _)⟩)
      dsimp only [Pt.U, Pt.locs, Pt.cells, Pt.slots] at X217 l217 y217 z217 st217 hQ217
      subst l217 y217 z217
      obtain ⟨rfl, N217q, e217⟩ := hQ217
      have N217 := Fr.app N210 N217q
      have k218 : ∀ t, Steps p.tables e below (T217.setTop (mkF m 189 #[.val (.int p1), .val (.int p2), .val (.int p3), .val (.int p4), .val (.int p5), .val (.int p6), .val (.int (4 : Int32)), .val (.int (own_most p1 p6)), .val (.int (own_vdr p2)), .val (.int (own_vdr p3)), .val (.int (own_vdr p4)), .val (.int (own_vdr p5)), .val (.ref b180), .val (.ref b203), .val (.int (0 : Int32)), .unset, .unset] [(.int (own_vhi (own_vdr p2)))])) t → Steps p.tables e below (s₁.setTop (entryFrame m #[(.int p1), (.int p2), (.int p3), (.int p4), (.int p5), (.int p6)] maxLocals)) t := fun t k => k216 t (st217 t k)
      by_cases hc189_219 : (own_vhi (own_vdr p2)) = (0 : Int32)
      · have k220 : ∀ t, Steps p.tables e below (T217.setTop (mkF m 206 #[.val (.int p1), .val (.int p2), .val (.int p3), .val (.int p4), .val (.int p5), .val (.int p6), .val (.int (4 : Int32)), .val (.int (own_most p1 p6)), .val (.int (own_vdr p2)), .val (.int (own_vdr p3)), .val (.int (own_vdr p4)), .val (.int (own_vdr p5)), .val (.ref b180), .val (.ref b203), .val (.int (0 : Int32)), .unset, .unset] [])) t → Steps p.tables e below (s₁.setTop (entryFrame m #[(.int p1), (.int p2), (.int p3), (.int p4), (.int p5), (.int p6)] maxLocals)) t := by
          intro t k
          refine k218 t ?_
          show Steps p.tables e below (T217.setTop (mkF m 189 #[.val (.int p1), .val (.int p2), .val (.int p3), .val (.int p4), .val (.int p5), .val (.int p6), .val (.int (4 : Int32)), .val (.int (own_most p1 p6)), .val (.int (own_vdr p2)), .val (.int (own_vdr p3)), .val (.int (own_vdr p4)), .val (.int (own_vdr p5)), .val (.ref b180), .val (.ref b203), .val (.int (0 : Int32)), .unset, .unset] [(.int (own_vhi (own_vdr p2)))])) _
          refine XS.ifYes X217.here hx rfl (pc0 := 189) (pc' := 206) rfl (hb hby at_189) rfl ((if0 _ _).trans (teq hc189_219).1) (by decide) (by decide) ?_
          exact k
        have q0 : (own_qa4 p2 p3) = (0 : Int32) := (if_pos hc189_219)
        exact ⟨_, _, X217, e217, N217, fun t k => k220 t (by rw [q0] at k; exact k)⟩
      · have k221 : ∀ t, Steps p.tables e below (T217.setTop (mkF m 194 #[.val (.int p1), .val (.int p2), .val (.int p3), .val (.int p4), .val (.int p5), .val (.int p6), .val (.int (4 : Int32)), .val (.int (own_most p1 p6)), .val (.int (own_vdr p2)), .val (.int (own_vdr p3)), .val (.int (own_vdr p4)), .val (.int (own_vdr p5)), .val (.ref b180), .val (.ref b203), .val (.int (0 : Int32)), .unset, .unset] [(.int (own_vdr p3))])) t → Steps p.tables e below (s₁.setTop (entryFrame m #[(.int p1), (.int p2), (.int p3), (.int p4), (.int p5), (.int p6)] maxLocals)) t := by
          intro t k
          refine k218 t ?_
          show Steps p.tables e below (T217.setTop (mkF m 189 #[.val (.int p1), .val (.int p2), .val (.int p3), .val (.int p4), .val (.int p5), .val (.int p6), .val (.int (4 : Int32)), .val (.int (own_most p1 p6)), .val (.int (own_vdr p2)), .val (.int (own_vdr p3)), .val (.int (own_vdr p4)), .val (.int (own_vdr p5)), .val (.ref b180), .val (.ref b203), .val (.int (0 : Int32)), .unset, .unset] [(.int (own_vhi (own_vdr p2)))])) _
          refine XS.ifNo X217.here hx rfl (hb hby at_189) rfl ((if0 _ _).trans (feq hc189_219).1) ?_
          show Steps p.tables e below (T217.setTop (mkF m 192 #[.val (.int p1), .val (.int p2), .val (.int p3), .val (.int p4), .val (.int p5), .val (.int p6), .val (.int (4 : Int32)), .val (.int (own_most p1 p6)), .val (.int (own_vdr p2)), .val (.int (own_vdr p3)), .val (.int (own_vdr p4)), .val (.int (own_vdr p5)), .val (.ref b180), .val (.ref b203), .val (.int (0 : Int32)), .unset, .unset] [])) _
          refine XS.iload X217.here hx rfl (hb hby at_192) rfl ?_
          exact k
        obtain ⟨_, _, ⟨T222, L222, k222c, n222⟩, -, X222, ⟨Lc222, hQ222, l222, y222, z222⟩, st222⟩ := Jvm.LawKit.callS X217 hx (y := (⟨"com/example/daftar/daftar/model/CharactersIsOneToPinLaw", "lo", "(C)Z"⟩ : MethodName)) hown (mvT hZ (hw _ (List.mem_of_getElem? (i := 108) rfl))) (mvT hZ (hw _ (List.mem_of_getElem? (i := 109) rfl))) (mvT hZ (hw _ (List.mem_of_getElem? (i := 2) rfl))) (mvT hZ (hw _ (List.mem_of_getElem? (i := 110) rfl))) (by decide) (backOf (W := 0) (own_rmlw l Z a0 hw [] (own_vdr p3) T210.heap n0 Z210) hZ (hw _ (List.mem_of_getElem? (i := 110) rfl)) (hw _ (List.mem_of_getElem? (i := 2) rfl)) (by decide) (by decide)) (g := (mkF m 194 #[.val (.int p1), .val (.int p2), .val (.int p3), .val (.int p4), .val (.int p5), .val (.int p6), .val (.int (4 : Int32)), .val (.int (own_most p1 p6)), .val (.int (own_vdr p2)), .val (.int (own_vdr p3)), .val (.int (own_vdr p4)), .val (.int (own_vdr p5)), .val (.ref b180), .val (.ref b203), .val (.int (0 : Int32)), .unset, .unset] [(.int (own_vdr p3))])) rfl (by rw [hml]; rfl) (argsL := [(.int (own_vdr p3))]) (rest := []) (lenOf own_pd10 rfl) rfl (by show 2 * 0 + _ ≤ _; exact Nat.le_of_eq rfl) (hb hby at_194) (fun _ _ => ⟨rfl, e217, (by decide : 4 + 0 ≤ _), (by decide : 20 + 0 ≤ _)⟩)
        dsimp only [Pt.U, Pt.locs, Pt.cells, Pt.slots] at X222 l222 y222 z222 st222 hQ222
        subst l222 y222 z222
        obtain ⟨rfl, N222q, e222⟩ := hQ222
        have N222 := Fr.app N217 N222q
        have k223 : ∀ t, Steps p.tables e below (T222.setTop (mkF m 197 #[.val (.int p1), .val (.int p2), .val (.int p3), .val (.int p4), .val (.int p5), .val (.int p6), .val (.int (4 : Int32)), .val (.int (own_most p1 p6)), .val (.int (own_vdr p2)), .val (.int (own_vdr p3)), .val (.int (own_vdr p4)), .val (.int (own_vdr p5)), .val (.ref b180), .val (.ref b203), .val (.int (0 : Int32)), .unset, .unset] [(.int (own_vlw (own_vdr p3)))])) t → Steps p.tables e below (s₁.setTop (entryFrame m #[(.int p1), (.int p2), (.int p3), (.int p4), (.int p5), (.int p6)] maxLocals)) t := fun t k => k221 t (st222 t k)
        by_cases hc197_224 : (own_vlw (own_vdr p3)) = (0 : Int32)
        · have k225 : ∀ t, Steps p.tables e below (T222.setTop (mkF m 206 #[.val (.int p1), .val (.int p2), .val (.int p3), .val (.int p4), .val (.int p5), .val (.int p6), .val (.int (4 : Int32)), .val (.int (own_most p1 p6)), .val (.int (own_vdr p2)), .val (.int (own_vdr p3)), .val (.int (own_vdr p4)), .val (.int (own_vdr p5)), .val (.ref b180), .val (.ref b203), .val (.int (0 : Int32)), .unset, .unset] [])) t → Steps p.tables e below (s₁.setTop (entryFrame m #[(.int p1), (.int p2), (.int p3), (.int p4), (.int p5), (.int p6)] maxLocals)) t := by
            intro t k
            refine k223 t ?_
            show Steps p.tables e below (T222.setTop (mkF m 197 #[.val (.int p1), .val (.int p2), .val (.int p3), .val (.int p4), .val (.int p5), .val (.int p6), .val (.int (4 : Int32)), .val (.int (own_most p1 p6)), .val (.int (own_vdr p2)), .val (.int (own_vdr p3)), .val (.int (own_vdr p4)), .val (.int (own_vdr p5)), .val (.ref b180), .val (.ref b203), .val (.int (0 : Int32)), .unset, .unset] [(.int (own_vlw (own_vdr p3)))])) _
            refine XS.ifYes X222.here hx rfl (pc0 := 197) (pc' := 206) rfl (hb hby at_197) rfl ((if0 _ _).trans (teq hc197_224).1) (by decide) (by decide) ?_
            exact k
          have q0 : (own_qa4 p2 p3) = (0 : Int32) := ((if_neg hc189_219).trans (if_pos hc197_224))
          exact ⟨_, _, X222, e222, N222, fun t k => k225 t (by rw [q0] at k; exact k)⟩
        · have k226 : ∀ t, Steps p.tables e below (T222.setTop (mkF m 206 #[.val (.int p1), .val (.int p2), .val (.int p3), .val (.int p4), .val (.int p5), .val (.int p6), .val (.int (4 : Int32)), .val (.int (own_most p1 p6)), .val (.int (own_vdr p2)), .val (.int (own_vdr p3)), .val (.int (own_vdr p4)), .val (.int (own_vdr p5)), .val (.ref b180), .val (.ref b203), .val (.int (1 : Int32)), .unset, .unset] [])) t → Steps p.tables e below (s₁.setTop (entryFrame m #[(.int p1), (.int p2), (.int p3), (.int p4), (.int p5), (.int p6)] maxLocals)) t := by
            intro t k
            refine k223 t ?_
            show Steps p.tables e below (T222.setTop (mkF m 197 #[.val (.int p1), .val (.int p2), .val (.int p3), .val (.int p4), .val (.int p5), .val (.int p6), .val (.int (4 : Int32)), .val (.int (own_most p1 p6)), .val (.int (own_vdr p2)), .val (.int (own_vdr p3)), .val (.int (own_vdr p4)), .val (.int (own_vdr p5)), .val (.ref b180), .val (.ref b203), .val (.int (0 : Int32)), .unset, .unset] [(.int (own_vlw (own_vdr p3)))])) _
            refine XS.ifNo X222.here hx rfl (hb hby at_197) rfl ((if0 _ _).trans (feq hc197_224).1) ?_
            show Steps p.tables e below (T222.setTop (mkF m 200 #[.val (.int p1), .val (.int p2), .val (.int p3), .val (.int p4), .val (.int p5), .val (.int p6), .val (.int (4 : Int32)), .val (.int (own_most p1 p6)), .val (.int (own_vdr p2)), .val (.int (own_vdr p3)), .val (.int (own_vdr p4)), .val (.int (own_vdr p5)), .val (.ref b180), .val (.ref b203), .val (.int (0 : Int32)), .unset, .unset] [])) _
            refine XS.iload X222.here hx rfl (hb hby at_200) rfl ?_
            show Steps p.tables e below (T222.setTop (mkF m 202 #[.val (.int p1), .val (.int p2), .val (.int p3), .val (.int p4), .val (.int p5), .val (.int p6), .val (.int (4 : Int32)), .val (.int (own_most p1 p6)), .val (.int (own_vdr p2)), .val (.int (own_vdr p3)), .val (.int (own_vdr p4)), .val (.int (own_vdr p5)), .val (.ref b180), .val (.ref b203), .val (.int (0 : Int32)), .unset, .unset] [(.int (0 : Int32))])) _
            refine XS.iconst X222.here hx rfl (hb hby at_202) ?_
            show Steps p.tables e below (T222.setTop (mkF m 203 #[.val (.int p1), .val (.int p2), .val (.int p3), .val (.int p4), .val (.int p5), .val (.int p6), .val (.int (4 : Int32)), .val (.int (own_most p1 p6)), .val (.int (own_vdr p2)), .val (.int (own_vdr p3)), .val (.int (own_vdr p4)), .val (.int (own_vdr p5)), .val (.ref b180), .val (.ref b203), .val (.int (0 : Int32)), .unset, .unset] [(.int (1 : Int32)), (.int (0 : Int32))])) _
            refine XS.iadd X222.here hx rfl (hb hby at_203) rfl ?_
            show Steps p.tables e below (T222.setTop (mkF m 204 #[.val (.int p1), .val (.int p2), .val (.int p3), .val (.int p4), .val (.int p5), .val (.int p6), .val (.int (4 : Int32)), .val (.int (own_most p1 p6)), .val (.int (own_vdr p2)), .val (.int (own_vdr p3)), .val (.int (own_vdr p4)), .val (.int (own_vdr p5)), .val (.ref b180), .val (.ref b203), .val (.int (0 : Int32)), .unset, .unset] [(.int (1 : Int32))])) _
            refine XS.istore X222.here hx rfl (hb hby at_204) rfl (l' := #[.val (.int p1), .val (.int p2), .val (.int p3), .val (.int p4), .val (.int p5), .val (.int p6), .val (.int (4 : Int32)), .val (.int (own_most p1 p6)), .val (.int (own_vdr p2)), .val (.int (own_vdr p3)), .val (.int (own_vdr p4)), .val (.int (own_vdr p5)), .val (.ref b180), .val (.ref b203), .val (.int (1 : Int32)), .unset, .unset]) rfl ?_
            exact k
          have q0 : (own_qa4 p2 p3) = (1 : Int32) := ((if_neg hc189_219).trans (if_neg hc197_224))
          exact ⟨_, _, X222, e222, N222, fun t k => k226 t (by rw [q0] at k; exact k)⟩
    obtain ⟨T215, L215, X215, e215, N215, k215⟩ := sg215
    have sg227 : ∃ (T' : State) (L' : List Loc), Stand p l e room_1 s m #[(.int p1), (.int p2), (.int p3), (.int p4), (.int p5), (.int p6)] below meth c T' L' 4 20 ∧ T'.heap = T210.heap ∧ Fr n0 L' ∧ ∀ t, Steps p.tables e below (T'.setTop (mkF m 234 #[.val (.int p1), .val (.int p2), .val (.int p3), .val (.int p4), .val (.int p5), .val (.int p6), .val (.int (4 : Int32)), .val (.int (own_most p1 p6)), .val (.int (own_vdr p2)), .val (.int (own_vdr p3)), .val (.int (own_vdr p4)), .val (.int (own_vdr p5)), .val (.ref b180), .val (.ref b203), .val (.int (own_qb4 p2 p3 p4)), .unset, .unset] [])) t → Steps p.tables e below (s₁.setTop (entryFrame m #[(.int p1), (.int p2), (.int p3), (.int p4), (.int p5), (.int p6)] maxLocals)) t := by
      have k228 : ∀ t, Steps p.tables e below (T215.setTop (mkF m 214 #[.val (.int p1), .val (.int p2), .val (.int p3), .val (.int p4), .val (.int p5), .val (.int p6), .val (.int (4 : Int32)), .val (.int (own_most p1 p6)), .val (.int (own_vdr p2)), .val (.int (own_vdr p3)), .val (.int (own_vdr p4)), .val (.int (own_vdr p5)), .val (.ref b180), .val (.ref b203), .val (.int (own_qa4 p2 p3)), .unset, .unset] [(.int (own_vdr p3))])) t → Steps p.tables e below (s₁.setTop (entryFrame m #[(.int p1), (.int p2), (.int p3), (.int p4), (.int p5), (.int p6)] maxLocals)) t := by
        intro t k
        refine k215 t ?_
        show Steps p.tables e below (T215.setTop (mkF m 206 #[.val (.int p1), .val (.int p2), .val (.int p3), .val (.int p4), .val (.int p5), .val (.int p6), .val (.int (4 : Int32)), .val (.int (own_most p1 p6)), .val (.int (own_vdr p2)), .val (.int (own_vdr p3)), .val (.int (own_vdr p4)), .val (.int (own_vdr p5)), .val (.ref b180), .val (.ref b203), .val (.int (own_qa4 p2 p3)), .unset, .unset] [])) _
        refine XS.iload X215.here hx rfl (hb hby at_206) rfl ?_
        show Steps p.tables e below (T215.setTop (mkF m 208 #[.val (.int p1), .val (.int p2), .val (.int p3), .val (.int p4), .val (.int p5), .val (.int p6), .val (.int (4 : Int32)), .val (.int (own_most p1 p6)), .val (.int (own_vdr p2)), .val (.int (own_vdr p3)), .val (.int (own_vdr p4)), .val (.int (own_vdr p5)), .val (.ref b180), .val (.ref b203), .val (.int (own_qa4 p2 p3)), .unset, .unset] [(.int (4 : Int32))])) _
        refine XS.iconst X215.here hx rfl (hb hby at_208) ?_
        show Steps p.tables e below (T215.setTop (mkF m 209 #[.val (.int p1), .val (.int p2), .val (.int p3), .val (.int p4), .val (.int p5), .val (.int p6), .val (.int (4 : Int32)), .val (.int (own_most p1 p6)), .val (.int (own_vdr p2)), .val (.int (own_vdr p3)), .val (.int (own_vdr p4)), .val (.int (own_vdr p5)), .val (.ref b180), .val (.ref b203), .val (.int (own_qa4 p2 p3)), .unset, .unset] [(.int (3 : Int32)), (.int (4 : Int32))])) _
        refine XS.icmpNo X215.here hx rfl (hb hby at_209) rfl (flt (by decide : ¬ ((4 : Int32) < (3 : Int32)))).1 ?_
        show Steps p.tables e below (T215.setTop (mkF m 212 #[.val (.int p1), .val (.int p2), .val (.int p3), .val (.int p4), .val (.int p5), .val (.int p6), .val (.int (4 : Int32)), .val (.int (own_most p1 p6)), .val (.int (own_vdr p2)), .val (.int (own_vdr p3)), .val (.int (own_vdr p4)), .val (.int (own_vdr p5)), .val (.ref b180), .val (.ref b203), .val (.int (own_qa4 p2 p3)), .unset, .unset] [])) _
        refine XS.iload X215.here hx rfl (hb hby at_212) rfl ?_
        exact k
      obtain ⟨_, _, ⟨T229, L229, k229c, n229⟩, -, X229, ⟨Lc229, hQ229, l229, y229, z229⟩, st229⟩ := Jvm.LawKit.callS X215 hx (y := (⟨"com/example/daftar/daftar/model/CharactersIsOneToPinLaw", "hi", "(C)Z"⟩ : MethodName)) hown (mvT hZ (hw _ (List.mem_of_getElem? (i := 92) rfl))) (mvT hZ (hw _ (List.mem_of_getElem? (i := 93) rfl))) (mvT hZ (hw _ (List.mem_of_getElem? (i := 2) rfl))) (mvT hZ (hw _ (List.mem_of_getElem? (i := 94) rfl))) (by decide) (backOf (W := 0) (own_rmhi l Z a0 hw [] (own_vdr p3) T210.heap n0 Z210) hZ (hw _ (List.mem_of_getElem? (i := 94) rfl)) (hw _ (List.mem_of_getElem? (i := 2) rfl)) (by decide) (by decide)) (g := (mkF m 214 #[.val (.int p1), .val (.int p2), .val (.int p3), .val (.int p4), .val (.int p5), .val (.int p6), .val (.int (4 : Int32)), .val (.int (own_most p1 p6)), .val (.int (own_vdr p2)), .val (.int (own_vdr p3)), .val (.int (own_vdr p4)), .val (.int (own_vdr p5)), .val (.ref b180), .val (.ref b203), .val (.int (own_qa4 p2 p3)), .unset, .unset] [(.int (own_vdr p3))])) rfl (by rw [hml]; rfl) (argsL := [(.int (own_vdr p3))]) (rest := []) (lenOf own_pd10 rfl) rfl (by show 2 * 0 + _ ≤ _; exact Nat.le_of_eq rfl) (hb hby at_214) (fun _ _ => ⟨rfl, e215, (by decide : 4 + 0 ≤ _), (by decide : 20 + 0 ≤ _)⟩)
      dsimp only [Pt.U, Pt.locs, Pt.cells, Pt.slots] at X229 l229 y229 z229 st229 hQ229
      subst l229 y229 z229
      obtain ⟨rfl, N229q, e229⟩ := hQ229
      have N229 := Fr.app N215 N229q
      have k230 : ∀ t, Steps p.tables e below (T229.setTop (mkF m 217 #[.val (.int p1), .val (.int p2), .val (.int p3), .val (.int p4), .val (.int p5), .val (.int p6), .val (.int (4 : Int32)), .val (.int (own_most p1 p6)), .val (.int (own_vdr p2)), .val (.int (own_vdr p3)), .val (.int (own_vdr p4)), .val (.int (own_vdr p5)), .val (.ref b180), .val (.ref b203), .val (.int (own_qa4 p2 p3)), .unset, .unset] [(.int (own_vhi (own_vdr p3)))])) t → Steps p.tables e below (s₁.setTop (entryFrame m #[(.int p1), (.int p2), (.int p3), (.int p4), (.int p5), (.int p6)] maxLocals)) t := fun t k => k228 t (st229 t k)
      by_cases hc217_231 : (own_vhi (own_vdr p3)) = (0 : Int32)
      · have k232 : ∀ t, Steps p.tables e below (T229.setTop (mkF m 234 #[.val (.int p1), .val (.int p2), .val (.int p3), .val (.int p4), .val (.int p5), .val (.int p6), .val (.int (4 : Int32)), .val (.int (own_most p1 p6)), .val (.int (own_vdr p2)), .val (.int (own_vdr p3)), .val (.int (own_vdr p4)), .val (.int (own_vdr p5)), .val (.ref b180), .val (.ref b203), .val (.int (own_qa4 p2 p3)), .unset, .unset] [])) t → Steps p.tables e below (s₁.setTop (entryFrame m #[(.int p1), (.int p2), (.int p3), (.int p4), (.int p5), (.int p6)] maxLocals)) t := by
          intro t k
          refine k230 t ?_
          show Steps p.tables e below (T229.setTop (mkF m 217 #[.val (.int p1), .val (.int p2), .val (.int p3), .val (.int p4), .val (.int p5), .val (.int p6), .val (.int (4 : Int32)), .val (.int (own_most p1 p6)), .val (.int (own_vdr p2)), .val (.int (own_vdr p3)), .val (.int (own_vdr p4)), .val (.int (own_vdr p5)), .val (.ref b180), .val (.ref b203), .val (.int (own_qa4 p2 p3)), .unset, .unset] [(.int (own_vhi (own_vdr p3)))])) _
          refine XS.ifYes X229.here hx rfl (pc0 := 217) (pc' := 234) rfl (hb hby at_217) rfl ((if0 _ _).trans (teq hc217_231).1) (by decide) (by decide) ?_
          exact k
        have q0 : (own_qb4 p2 p3 p4) = (own_qa4 p2 p3) := (if_pos hc217_231)
        exact ⟨_, _, X229, e229, N229, fun t k => k232 t (by rw [q0] at k; exact k)⟩
      · have k233 : ∀ t, Steps p.tables e below (T229.setTop (mkF m 222 #[.val (.int p1), .val (.int p2), .val (.int p3), .val (.int p4), .val (.int p5), .val (.int p6), .val (.int (4 : Int32)), .val (.int (own_most p1 p6)), .val (.int (own_vdr p2)), .val (.int (own_vdr p3)), .val (.int (own_vdr p4)), .val (.int (own_vdr p5)), .val (.ref b180), .val (.ref b203), .val (.int (own_qa4 p2 p3)), .unset, .unset] [(.int (own_vdr p4))])) t → Steps p.tables e below (s₁.setTop (entryFrame m #[(.int p1), (.int p2), (.int p3), (.int p4), (.int p5), (.int p6)] maxLocals)) t := by
          intro t k
          refine k230 t ?_
          show Steps p.tables e below (T229.setTop (mkF m 217 #[.val (.int p1), .val (.int p2), .val (.int p3), .val (.int p4), .val (.int p5), .val (.int p6), .val (.int (4 : Int32)), .val (.int (own_most p1 p6)), .val (.int (own_vdr p2)), .val (.int (own_vdr p3)), .val (.int (own_vdr p4)), .val (.int (own_vdr p5)), .val (.ref b180), .val (.ref b203), .val (.int (own_qa4 p2 p3)), .unset, .unset] [(.int (own_vhi (own_vdr p3)))])) _
          refine XS.ifNo X229.here hx rfl (hb hby at_217) rfl ((if0 _ _).trans (feq hc217_231).1) ?_
          show Steps p.tables e below (T229.setTop (mkF m 220 #[.val (.int p1), .val (.int p2), .val (.int p3), .val (.int p4), .val (.int p5), .val (.int p6), .val (.int (4 : Int32)), .val (.int (own_most p1 p6)), .val (.int (own_vdr p2)), .val (.int (own_vdr p3)), .val (.int (own_vdr p4)), .val (.int (own_vdr p5)), .val (.ref b180), .val (.ref b203), .val (.int (own_qa4 p2 p3)), .unset, .unset] [])) _
          refine XS.iload X229.here hx rfl (hb hby at_220) rfl ?_
          exact k
        obtain ⟨_, _, ⟨T234, L234, k234c, n234⟩, -, X234, ⟨Lc234, hQ234, l234, y234, z234⟩, st234⟩ := Jvm.LawKit.callS X229 hx (y := (⟨"com/example/daftar/daftar/model/CharactersIsOneToPinLaw", "lo", "(C)Z"⟩ : MethodName)) hown (mvT hZ (hw _ (List.mem_of_getElem? (i := 108) rfl))) (mvT hZ (hw _ (List.mem_of_getElem? (i := 109) rfl))) (mvT hZ (hw _ (List.mem_of_getElem? (i := 2) rfl))) (mvT hZ (hw _ (List.mem_of_getElem? (i := 110) rfl))) (by decide) (backOf (W := 0) (own_rmlw l Z a0 hw [] (own_vdr p4) T210.heap n0 Z210) hZ (hw _ (List.mem_of_getElem? (i := 110) rfl)) (hw _ (List.mem_of_getElem? (i := 2) rfl)) (by decide) (by decide)) (g := (mkF m 222 #[.val (.int p1), .val (.int p2), .val (.int p3), .val (.int p4), .val (.int p5), .val (.int p6), .val (.int (4 : Int32)), .val (.int (own_most p1 p6)), .val (.int (own_vdr p2)), .val (.int (own_vdr p3)), .val (.int (own_vdr p4)), .val (.int (own_vdr p5)), .val (.ref b180), .val (.ref b203), .val (.int (own_qa4 p2 p3)), .unset, .unset] [(.int (own_vdr p4))])) rfl (by rw [hml]; rfl) (argsL := [(.int (own_vdr p4))]) (rest := []) (lenOf own_pd10 rfl) rfl (by show 2 * 0 + _ ≤ _; exact Nat.le_of_eq rfl) (hb hby at_222) (fun _ _ => ⟨rfl, e229, (by decide : 4 + 0 ≤ _), (by decide : 20 + 0 ≤ _)⟩)
        dsimp only [Pt.U, Pt.locs, Pt.cells, Pt.slots] at X234 l234 y234 z234 st234 hQ234
        subst l234 y234 z234
        obtain ⟨rfl, N234q, e234⟩ := hQ234
        have N234 := Fr.app N229 N234q
        have k235 : ∀ t, Steps p.tables e below (T234.setTop (mkF m 225 #[.val (.int p1), .val (.int p2), .val (.int p3), .val (.int p4), .val (.int p5), .val (.int p6), .val (.int (4 : Int32)), .val (.int (own_most p1 p6)), .val (.int (own_vdr p2)), .val (.int (own_vdr p3)), .val (.int (own_vdr p4)), .val (.int (own_vdr p5)), .val (.ref b180), .val (.ref b203), .val (.int (own_qa4 p2 p3)), .unset, .unset] [(.int (own_vlw (own_vdr p4)))])) t → Steps p.tables e below (s₁.setTop (entryFrame m #[(.int p1), (.int p2), (.int p3), (.int p4), (.int p5), (.int p6)] maxLocals)) t := fun t k => k233 t (st234 t k)
        by_cases hc225_236 : (own_vlw (own_vdr p4)) = (0 : Int32)
        · have k237 : ∀ t, Steps p.tables e below (T234.setTop (mkF m 234 #[.val (.int p1), .val (.int p2), .val (.int p3), .val (.int p4), .val (.int p5), .val (.int p6), .val (.int (4 : Int32)), .val (.int (own_most p1 p6)), .val (.int (own_vdr p2)), .val (.int (own_vdr p3)), .val (.int (own_vdr p4)), .val (.int (own_vdr p5)), .val (.ref b180), .val (.ref b203), .val (.int (own_qa4 p2 p3)), .unset, .unset] [])) t → Steps p.tables e below (s₁.setTop (entryFrame m #[(.int p1), (.int p2), (.int p3), (.int p4), (.int p5), (.int p6)] maxLocals)) t := by
            intro t k
            refine k235 t ?_
            show Steps p.tables e below (T234.setTop (mkF m 225 #[.val (.int p1), .val (.int p2), .val (.int p3), .val (.int p4), .val (.int p5), .val (.int p6), .val (.int (4 : Int32)), .val (.int (own_most p1 p6)), .val (.int (own_vdr p2)), .val (.int (own_vdr p3)), .val (.int (own_vdr p4)), .val (.int (own_vdr p5)), .val (.ref b180), .val (.ref b203), .val (.int (own_qa4 p2 p3)), .unset, .unset] [(.int (own_vlw (own_vdr p4)))])) _
            refine XS.ifYes X234.here hx rfl (pc0 := 225) (pc' := 234) rfl (hb hby at_225) rfl ((if0 _ _).trans (teq hc225_236).1) (by decide) (by decide) ?_
            exact k
          have q0 : (own_qb4 p2 p3 p4) = (own_qa4 p2 p3) := ((if_neg hc217_231).trans (if_pos hc225_236))
          exact ⟨_, _, X234, e234, N234, fun t k => k237 t (by rw [q0] at k; exact k)⟩
        · have k238 : ∀ t, Steps p.tables e below (T234.setTop (mkF m 234 #[.val (.int p1), .val (.int p2), .val (.int p3), .val (.int p4), .val (.int p5), .val (.int p6), .val (.int (4 : Int32)), .val (.int (own_most p1 p6)), .val (.int (own_vdr p2)), .val (.int (own_vdr p3)), .val (.int (own_vdr p4)), .val (.int (own_vdr p5)), .val (.ref b180), .val (.ref b203), .val (.int ((own_qa4 p2 p3) + (1 : Int32))), .unset, .unset] [])) t → Steps p.tables e below (s₁.setTop (entryFrame m #[(.int p1), (.int p2), (.int p3), (.int p4), (.int p5), (.int p6)] maxLocals)) t := by
            intro t k
            refine k235 t ?_
            show Steps p.tables e below (T234.setTop (mkF m 225 #[.val (.int p1), .val (.int p2), .val (.int p3), .val (.int p4), .val (.int p5), .val (.int p6), .val (.int (4 : Int32)), .val (.int (own_most p1 p6)), .val (.int (own_vdr p2)), .val (.int (own_vdr p3)), .val (.int (own_vdr p4)), .val (.int (own_vdr p5)), .val (.ref b180), .val (.ref b203), .val (.int (own_qa4 p2 p3)), .unset, .unset] [(.int (own_vlw (own_vdr p4)))])) _
            refine XS.ifNo X234.here hx rfl (hb hby at_225) rfl ((if0 _ _).trans (feq hc225_236).1) ?_
            show Steps p.tables e below (T234.setTop (mkF m 228 #[.val (.int p1), .val (.int p2), .val (.int p3), .val (.int p4), .val (.int p5), .val (.int p6), .val (.int (4 : Int32)), .val (.int (own_most p1 p6)), .val (.int (own_vdr p2)), .val (.int (own_vdr p3)), .val (.int (own_vdr p4)), .val (.int (own_vdr p5)), .val (.ref b180), .val (.ref b203), .val (.int (own_qa4 p2 p3)), .unset, .unset] [])) _
            refine XS.iload X234.here hx rfl (hb hby at_228) rfl ?_
            show Steps p.tables e below (T234.setTop (mkF m 230 #[.val (.int p1), .val (.int p2), .val (.int p3), .val (.int p4), .val (.int p5), .val (.int p6), .val (.int (4 : Int32)), .val (.int (own_most p1 p6)), .val (.int (own_vdr p2)), .val (.int (own_vdr p3)), .val (.int (own_vdr p4)), .val (.int (own_vdr p5)), .val (.ref b180), .val (.ref b203), .val (.int (own_qa4 p2 p3)), .unset, .unset] [(.int (own_qa4 p2 p3))])) _
            refine XS.iconst X234.here hx rfl (hb hby at_230) ?_
            show Steps p.tables e below (T234.setTop (mkF m 231 #[.val (.int p1), .val (.int p2), .val (.int p3), .val (.int p4), .val (.int p5), .val (.int p6), .val (.int (4 : Int32)), .val (.int (own_most p1 p6)), .val (.int (own_vdr p2)), .val (.int (own_vdr p3)), .val (.int (own_vdr p4)), .val (.int (own_vdr p5)), .val (.ref b180), .val (.ref b203), .val (.int (own_qa4 p2 p3)), .unset, .unset] [(.int (1 : Int32)), (.int (own_qa4 p2 p3))])) _
            refine XS.iadd X234.here hx rfl (hb hby at_231) rfl ?_
            show Steps p.tables e below (T234.setTop (mkF m 232 #[.val (.int p1), .val (.int p2), .val (.int p3), .val (.int p4), .val (.int p5), .val (.int p6), .val (.int (4 : Int32)), .val (.int (own_most p1 p6)), .val (.int (own_vdr p2)), .val (.int (own_vdr p3)), .val (.int (own_vdr p4)), .val (.int (own_vdr p5)), .val (.ref b180), .val (.ref b203), .val (.int (own_qa4 p2 p3)), .unset, .unset] [(.int ((own_qa4 p2 p3) + (1 : Int32)))])) _
            refine XS.istore X234.here hx rfl (hb hby at_232) rfl (l' := #[.val (.int p1), .val (.int p2), .val (.int p3), .val (.int p4), .val (.int p5), .val (.int p6), .val (.int (4 : Int32)), .val (.int (own_most p1 p6)), .val (.int (own_vdr p2)), .val (.int (own_vdr p3)), .val (.int (own_vdr p4)), .val (.int (own_vdr p5)), .val (.ref b180), .val (.ref b203), .val (.int ((own_qa4 p2 p3) + (1 : Int32))), .unset, .unset]) rfl ?_
            exact k
          have q0 : (own_qb4 p2 p3 p4) = ((own_qa4 p2 p3) + (1 : Int32)) := ((if_neg hc217_231).trans (if_neg hc225_236))
          exact ⟨_, _, X234, e234, N234, fun t k => k238 t (by rw [q0] at k; exact k)⟩
    obtain ⟨T227, L227, X227, e227, N227, k227⟩ := sg227
    have sg239 : ∃ (T' : State) (L' : List Loc), Stand p l e room_1 s m #[(.int p1), (.int p2), (.int p3), (.int p4), (.int p5), (.int p6)] below meth c T' L' 4 20 ∧ T'.heap = T210.heap ∧ Fr n0 L' ∧ ∀ t, Steps p.tables e below (T'.setTop (mkF m 262 #[.val (.int p1), .val (.int p2), .val (.int p3), .val (.int p4), .val (.int p5), .val (.int p6), .val (.int (4 : Int32)), .val (.int (own_most p1 p6)), .val (.int (own_vdr p2)), .val (.int (own_vdr p3)), .val (.int (own_vdr p4)), .val (.int (own_vdr p5)), .val (.ref b180), .val (.ref b203), .val (.int (own_qc4 p2 p3 p4 p5)), .unset, .unset] [])) t → Steps p.tables e below (s₁.setTop (entryFrame m #[(.int p1), (.int p2), (.int p3), (.int p4), (.int p5), (.int p6)] maxLocals)) t := by
      have k240 : ∀ t, Steps p.tables e below (T227.setTop (mkF m 242 #[.val (.int p1), .val (.int p2), .val (.int p3), .val (.int p4), .val (.int p5), .val (.int p6), .val (.int (4 : Int32)), .val (.int (own_most p1 p6)), .val (.int (own_vdr p2)), .val (.int (own_vdr p3)), .val (.int (own_vdr p4)), .val (.int (own_vdr p5)), .val (.ref b180), .val (.ref b203), .val (.int (own_qb4 p2 p3 p4)), .unset, .unset] [(.int (own_vdr p4))])) t → Steps p.tables e below (s₁.setTop (entryFrame m #[(.int p1), (.int p2), (.int p3), (.int p4), (.int p5), (.int p6)] maxLocals)) t := by
        intro t k
        refine k227 t ?_
        show Steps p.tables e below (T227.setTop (mkF m 234 #[.val (.int p1), .val (.int p2), .val (.int p3), .val (.int p4), .val (.int p5), .val (.int p6), .val (.int (4 : Int32)), .val (.int (own_most p1 p6)), .val (.int (own_vdr p2)), .val (.int (own_vdr p3)), .val (.int (own_vdr p4)), .val (.int (own_vdr p5)), .val (.ref b180), .val (.ref b203), .val (.int (own_qb4 p2 p3 p4)), .unset, .unset] [])) _
        refine XS.iload X227.here hx rfl (hb hby at_234) rfl ?_
        show Steps p.tables e below (T227.setTop (mkF m 236 #[.val (.int p1), .val (.int p2), .val (.int p3), .val (.int p4), .val (.int p5), .val (.int p6), .val (.int (4 : Int32)), .val (.int (own_most p1 p6)), .val (.int (own_vdr p2)), .val (.int (own_vdr p3)), .val (.int (own_vdr p4)), .val (.int (own_vdr p5)), .val (.ref b180), .val (.ref b203), .val (.int (own_qb4 p2 p3 p4)), .unset, .unset] [(.int (4 : Int32))])) _
        refine XS.iconst X227.here hx rfl (hb hby at_236) ?_
        show Steps p.tables e below (T227.setTop (mkF m 237 #[.val (.int p1), .val (.int p2), .val (.int p3), .val (.int p4), .val (.int p5), .val (.int p6), .val (.int (4 : Int32)), .val (.int (own_most p1 p6)), .val (.int (own_vdr p2)), .val (.int (own_vdr p3)), .val (.int (own_vdr p4)), .val (.int (own_vdr p5)), .val (.ref b180), .val (.ref b203), .val (.int (own_qb4 p2 p3 p4)), .unset, .unset] [(.int (4 : Int32)), (.int (4 : Int32))])) _
        refine XS.icmpNo X227.here hx rfl (hb hby at_237) rfl (flt (Int32.lt_irrefl : ¬ ((4 : Int32) < (4 : Int32)))).1 ?_
        show Steps p.tables e below (T227.setTop (mkF m 240 #[.val (.int p1), .val (.int p2), .val (.int p3), .val (.int p4), .val (.int p5), .val (.int p6), .val (.int (4 : Int32)), .val (.int (own_most p1 p6)), .val (.int (own_vdr p2)), .val (.int (own_vdr p3)), .val (.int (own_vdr p4)), .val (.int (own_vdr p5)), .val (.ref b180), .val (.ref b203), .val (.int (own_qb4 p2 p3 p4)), .unset, .unset] [])) _
        refine XS.iload X227.here hx rfl (hb hby at_240) rfl ?_
        exact k
      obtain ⟨_, _, ⟨T241, L241, k241c, n241⟩, -, X241, ⟨Lc241, hQ241, l241, y241, z241⟩, st241⟩ := Jvm.LawKit.callS X227 hx (y := (⟨"com/example/daftar/daftar/model/CharactersIsOneToPinLaw", "hi", "(C)Z"⟩ : MethodName)) hown (mvT hZ (hw _ (List.mem_of_getElem? (i := 92) rfl))) (mvT hZ (hw _ (List.mem_of_getElem? (i := 93) rfl))) (mvT hZ (hw _ (List.mem_of_getElem? (i := 2) rfl))) (mvT hZ (hw _ (List.mem_of_getElem? (i := 94) rfl))) (by decide) (backOf (W := 0) (own_rmhi l Z a0 hw [] (own_vdr p4) T210.heap n0 Z210) hZ (hw _ (List.mem_of_getElem? (i := 94) rfl)) (hw _ (List.mem_of_getElem? (i := 2) rfl)) (by decide) (by decide)) (g := (mkF m 242 #[.val (.int p1), .val (.int p2), .val (.int p3), .val (.int p4), .val (.int p5), .val (.int p6), .val (.int (4 : Int32)), .val (.int (own_most p1 p6)), .val (.int (own_vdr p2)), .val (.int (own_vdr p3)), .val (.int (own_vdr p4)), .val (.int (own_vdr p5)), .val (.ref b180), .val (.ref b203), .val (.int (own_qb4 p2 p3 p4)), .unset, .unset] [(.int (own_vdr p4))])) rfl (by rw [hml]; rfl) (argsL := [(.int (own_vdr p4))]) (rest := []) (lenOf own_pd10 rfl) rfl (by show 2 * 0 + _ ≤ _; exact Nat.le_of_eq rfl) (hb hby at_242) (fun _ _ => ⟨rfl, e227, (by decide : 4 + 0 ≤ _), (by decide : 20 + 0 ≤ _)⟩)
      dsimp only [Pt.U, Pt.locs, Pt.cells, Pt.slots] at X241 l241 y241 z241 st241 hQ241
      subst l241 y241 z241
      obtain ⟨rfl, N241q, e241⟩ := hQ241
      have N241 := Fr.app N227 N241q
      have k242 : ∀ t, Steps p.tables e below (T241.setTop (mkF m 245 #[.val (.int p1), .val (.int p2), .val (.int p3), .val (.int p4), .val (.int p5), .val (.int p6), .val (.int (4 : Int32)), .val (.int (own_most p1 p6)), .val (.int (own_vdr p2)), .val (.int (own_vdr p3)), .val (.int (own_vdr p4)), .val (.int (own_vdr p5)), .val (.ref b180), .val (.ref b203), .val (.int (own_qb4 p2 p3 p4)), .unset, .unset] [(.int (own_vhi (own_vdr p4)))])) t → Steps p.tables e below (s₁.setTop (entryFrame m #[(.int p1), (.int p2), (.int p3), (.int p4), (.int p5), (.int p6)] maxLocals)) t := fun t k => k240 t (st241 t k)
      by_cases hc245_243 : (own_vhi (own_vdr p4)) = (0 : Int32)
      · have k244 : ∀ t, Steps p.tables e below (T241.setTop (mkF m 262 #[.val (.int p1), .val (.int p2), .val (.int p3), .val (.int p4), .val (.int p5), .val (.int p6), .val (.int (4 : Int32)), .val (.int (own_most p1 p6)), .val (.int (own_vdr p2)), .val (.int (own_vdr p3)), .val (.int (own_vdr p4)), .val (.int (own_vdr p5)), .val (.ref b180), .val (.ref b203), .val (.int (own_qb4 p2 p3 p4)), .unset, .unset] [])) t → Steps p.tables e below (s₁.setTop (entryFrame m #[(.int p1), (.int p2), (.int p3), (.int p4), (.int p5), (.int p6)] maxLocals)) t := by
          intro t k
          refine k242 t ?_
          show Steps p.tables e below (T241.setTop (mkF m 245 #[.val (.int p1), .val (.int p2), .val (.int p3), .val (.int p4), .val (.int p5), .val (.int p6), .val (.int (4 : Int32)), .val (.int (own_most p1 p6)), .val (.int (own_vdr p2)), .val (.int (own_vdr p3)), .val (.int (own_vdr p4)), .val (.int (own_vdr p5)), .val (.ref b180), .val (.ref b203), .val (.int (own_qb4 p2 p3 p4)), .unset, .unset] [(.int (own_vhi (own_vdr p4)))])) _
          refine XS.ifYes X241.here hx rfl (pc0 := 245) (pc' := 262) rfl (hb hby at_245) rfl ((if0 _ _).trans (teq hc245_243).1) (by decide) (by decide) ?_
          exact k
        have q0 : (own_qc4 p2 p3 p4 p5) = (own_qb4 p2 p3 p4) := (if_pos hc245_243)
        exact ⟨_, _, X241, e241, N241, fun t k => k244 t (by rw [q0] at k; exact k)⟩
      · have k245 : ∀ t, Steps p.tables e below (T241.setTop (mkF m 250 #[.val (.int p1), .val (.int p2), .val (.int p3), .val (.int p4), .val (.int p5), .val (.int p6), .val (.int (4 : Int32)), .val (.int (own_most p1 p6)), .val (.int (own_vdr p2)), .val (.int (own_vdr p3)), .val (.int (own_vdr p4)), .val (.int (own_vdr p5)), .val (.ref b180), .val (.ref b203), .val (.int (own_qb4 p2 p3 p4)), .unset, .unset] [(.int (own_vdr p5))])) t → Steps p.tables e below (s₁.setTop (entryFrame m #[(.int p1), (.int p2), (.int p3), (.int p4), (.int p5), (.int p6)] maxLocals)) t := by
          intro t k
          refine k242 t ?_
          show Steps p.tables e below (T241.setTop (mkF m 245 #[.val (.int p1), .val (.int p2), .val (.int p3), .val (.int p4), .val (.int p5), .val (.int p6), .val (.int (4 : Int32)), .val (.int (own_most p1 p6)), .val (.int (own_vdr p2)), .val (.int (own_vdr p3)), .val (.int (own_vdr p4)), .val (.int (own_vdr p5)), .val (.ref b180), .val (.ref b203), .val (.int (own_qb4 p2 p3 p4)), .unset, .unset] [(.int (own_vhi (own_vdr p4)))])) _
          refine XS.ifNo X241.here hx rfl (hb hby at_245) rfl ((if0 _ _).trans (feq hc245_243).1) ?_
          show Steps p.tables e below (T241.setTop (mkF m 248 #[.val (.int p1), .val (.int p2), .val (.int p3), .val (.int p4), .val (.int p5), .val (.int p6), .val (.int (4 : Int32)), .val (.int (own_most p1 p6)), .val (.int (own_vdr p2)), .val (.int (own_vdr p3)), .val (.int (own_vdr p4)), .val (.int (own_vdr p5)), .val (.ref b180), .val (.ref b203), .val (.int (own_qb4 p2 p3 p4)), .unset, .unset] [])) _
          refine XS.iload X241.here hx rfl (hb hby at_248) rfl ?_
          exact k
        obtain ⟨_, _, ⟨T246, L246, k246c, n246⟩, -, X246, ⟨Lc246, hQ246, l246, y246, z246⟩, st246⟩ := Jvm.LawKit.callS X241 hx (y := (⟨"com/example/daftar/daftar/model/CharactersIsOneToPinLaw", "lo", "(C)Z"⟩ : MethodName)) hown (mvT hZ (hw _ (List.mem_of_getElem? (i := 108) rfl))) (mvT hZ (hw _ (List.mem_of_getElem? (i := 109) rfl))) (mvT hZ (hw _ (List.mem_of_getElem? (i := 2) rfl))) (mvT hZ (hw _ (List.mem_of_getElem? (i := 110) rfl))) (by decide) (backOf (W := 0) (own_rmlw l Z a0 hw [] (own_vdr p5) T210.heap n0 Z210) hZ (hw _ (List.mem_of_getElem? (i := 110) rfl)) (hw _ (List.mem_of_getElem? (i := 2) rfl)) (by decide) (by decide)) (g := (mkF m 250 #[.val (.int p1), .val (.int p2), .val (.int p3), .val (.int p4), .val (.int p5), .val (.int p6), .val (.int (4 : Int32)), .val (.int (own_most p1 p6)), .val (.int (own_vdr p2)), .val (.int (own_vdr p3)), .val (.int (own_vdr p4)), .val (.int (own_vdr p5)), .val (.ref b180), .val (.ref b203), .val (.int (own_qb4 p2 p3 p4)), .unset, .unset] [(.int (own_vdr p5))])) rfl (by rw [hml]; rfl) (argsL := [(.int (own_vdr p5))]) (rest := []) (lenOf own_pd10 rfl) rfl (by show 2 * 0 + _ ≤ _; exact Nat.le_of_eq rfl) (hb hby at_250) (fun _ _ => ⟨rfl, e241, (by decide : 4 + 0 ≤ _), (by decide : 20 + 0 ≤ _)⟩)
        dsimp only [Pt.U, Pt.locs, Pt.cells, Pt.slots] at X246 l246 y246 z246 st246 hQ246
        subst l246 y246 z246
        obtain ⟨rfl, N246q, e246⟩ := hQ246
        have N246 := Fr.app N241 N246q
        have k247 : ∀ t, Steps p.tables e below (T246.setTop (mkF m 253 #[.val (.int p1), .val (.int p2), .val (.int p3), .val (.int p4), .val (.int p5), .val (.int p6), .val (.int (4 : Int32)), .val (.int (own_most p1 p6)), .val (.int (own_vdr p2)), .val (.int (own_vdr p3)), .val (.int (own_vdr p4)), .val (.int (own_vdr p5)), .val (.ref b180), .val (.ref b203), .val (.int (own_qb4 p2 p3 p4)), .unset, .unset] [(.int (own_vlw (own_vdr p5)))])) t → Steps p.tables e below (s₁.setTop (entryFrame m #[(.int p1), (.int p2), (.int p3), (.int p4), (.int p5), (.int p6)] maxLocals)) t := fun t k => k245 t (st246 t k)
        by_cases hc253_248 : (own_vlw (own_vdr p5)) = (0 : Int32)
        · have k249 : ∀ t, Steps p.tables e below (T246.setTop (mkF m 262 #[.val (.int p1), .val (.int p2), .val (.int p3), .val (.int p4), .val (.int p5), .val (.int p6), .val (.int (4 : Int32)), .val (.int (own_most p1 p6)), .val (.int (own_vdr p2)), .val (.int (own_vdr p3)), .val (.int (own_vdr p4)), .val (.int (own_vdr p5)), .val (.ref b180), .val (.ref b203), .val (.int (own_qb4 p2 p3 p4)), .unset, .unset] [])) t → Steps p.tables e below (s₁.setTop (entryFrame m #[(.int p1), (.int p2), (.int p3), (.int p4), (.int p5), (.int p6)] maxLocals)) t := by
            intro t k
            refine k247 t ?_
            show Steps p.tables e below (T246.setTop (mkF m 253 #[.val (.int p1), .val (.int p2), .val (.int p3), .val (.int p4), .val (.int p5), .val (.int p6), .val (.int (4 : Int32)), .val (.int (own_most p1 p6)), .val (.int (own_vdr p2)), .val (.int (own_vdr p3)), .val (.int (own_vdr p4)), .val (.int (own_vdr p5)), .val (.ref b180), .val (.ref b203), .val (.int (own_qb4 p2 p3 p4)), .unset, .unset] [(.int (own_vlw (own_vdr p5)))])) _
            refine XS.ifYes X246.here hx rfl (pc0 := 253) (pc' := 262) rfl (hb hby at_253) rfl ((if0 _ _).trans (teq hc253_248).1) (by decide) (by decide) ?_
            exact k
          have q0 : (own_qc4 p2 p3 p4 p5) = (own_qb4 p2 p3 p4) := ((if_neg hc245_243).trans (if_pos hc253_248))
          exact ⟨_, _, X246, e246, N246, fun t k => k249 t (by rw [q0] at k; exact k)⟩
        · have k250 : ∀ t, Steps p.tables e below (T246.setTop (mkF m 262 #[.val (.int p1), .val (.int p2), .val (.int p3), .val (.int p4), .val (.int p5), .val (.int p6), .val (.int (4 : Int32)), .val (.int (own_most p1 p6)), .val (.int (own_vdr p2)), .val (.int (own_vdr p3)), .val (.int (own_vdr p4)), .val (.int (own_vdr p5)), .val (.ref b180), .val (.ref b203), .val (.int ((own_qb4 p2 p3 p4) + (1 : Int32))), .unset, .unset] [])) t → Steps p.tables e below (s₁.setTop (entryFrame m #[(.int p1), (.int p2), (.int p3), (.int p4), (.int p5), (.int p6)] maxLocals)) t := by
            intro t k
            refine k247 t ?_
            show Steps p.tables e below (T246.setTop (mkF m 253 #[.val (.int p1), .val (.int p2), .val (.int p3), .val (.int p4), .val (.int p5), .val (.int p6), .val (.int (4 : Int32)), .val (.int (own_most p1 p6)), .val (.int (own_vdr p2)), .val (.int (own_vdr p3)), .val (.int (own_vdr p4)), .val (.int (own_vdr p5)), .val (.ref b180), .val (.ref b203), .val (.int (own_qb4 p2 p3 p4)), .unset, .unset] [(.int (own_vlw (own_vdr p5)))])) _
            refine XS.ifNo X246.here hx rfl (hb hby at_253) rfl ((if0 _ _).trans (feq hc253_248).1) ?_
            show Steps p.tables e below (T246.setTop (mkF m 256 #[.val (.int p1), .val (.int p2), .val (.int p3), .val (.int p4), .val (.int p5), .val (.int p6), .val (.int (4 : Int32)), .val (.int (own_most p1 p6)), .val (.int (own_vdr p2)), .val (.int (own_vdr p3)), .val (.int (own_vdr p4)), .val (.int (own_vdr p5)), .val (.ref b180), .val (.ref b203), .val (.int (own_qb4 p2 p3 p4)), .unset, .unset] [])) _
            refine XS.iload X246.here hx rfl (hb hby at_256) rfl ?_
            show Steps p.tables e below (T246.setTop (mkF m 258 #[.val (.int p1), .val (.int p2), .val (.int p3), .val (.int p4), .val (.int p5), .val (.int p6), .val (.int (4 : Int32)), .val (.int (own_most p1 p6)), .val (.int (own_vdr p2)), .val (.int (own_vdr p3)), .val (.int (own_vdr p4)), .val (.int (own_vdr p5)), .val (.ref b180), .val (.ref b203), .val (.int (own_qb4 p2 p3 p4)), .unset, .unset] [(.int (own_qb4 p2 p3 p4))])) _
            refine XS.iconst X246.here hx rfl (hb hby at_258) ?_
            show Steps p.tables e below (T246.setTop (mkF m 259 #[.val (.int p1), .val (.int p2), .val (.int p3), .val (.int p4), .val (.int p5), .val (.int p6), .val (.int (4 : Int32)), .val (.int (own_most p1 p6)), .val (.int (own_vdr p2)), .val (.int (own_vdr p3)), .val (.int (own_vdr p4)), .val (.int (own_vdr p5)), .val (.ref b180), .val (.ref b203), .val (.int (own_qb4 p2 p3 p4)), .unset, .unset] [(.int (1 : Int32)), (.int (own_qb4 p2 p3 p4))])) _
            refine XS.iadd X246.here hx rfl (hb hby at_259) rfl ?_
            show Steps p.tables e below (T246.setTop (mkF m 260 #[.val (.int p1), .val (.int p2), .val (.int p3), .val (.int p4), .val (.int p5), .val (.int p6), .val (.int (4 : Int32)), .val (.int (own_most p1 p6)), .val (.int (own_vdr p2)), .val (.int (own_vdr p3)), .val (.int (own_vdr p4)), .val (.int (own_vdr p5)), .val (.ref b180), .val (.ref b203), .val (.int (own_qb4 p2 p3 p4)), .unset, .unset] [(.int ((own_qb4 p2 p3 p4) + (1 : Int32)))])) _
            refine XS.istore X246.here hx rfl (hb hby at_260) rfl (l' := #[.val (.int p1), .val (.int p2), .val (.int p3), .val (.int p4), .val (.int p5), .val (.int p6), .val (.int (4 : Int32)), .val (.int (own_most p1 p6)), .val (.int (own_vdr p2)), .val (.int (own_vdr p3)), .val (.int (own_vdr p4)), .val (.int (own_vdr p5)), .val (.ref b180), .val (.ref b203), .val (.int ((own_qb4 p2 p3 p4) + (1 : Int32))), .unset, .unset]) rfl ?_
            exact k
          have q0 : (own_qc4 p2 p3 p4 p5) = ((own_qb4 p2 p3 p4) + (1 : Int32)) := ((if_neg hc245_243).trans (if_neg hc253_248))
          exact ⟨_, _, X246, e246, N246, fun t k => k250 t (by rw [q0] at k; exact k)⟩
    obtain ⟨T239, L239, X239, e239, N239, k239⟩ := sg239
    have k251 : ∀ t, Steps p.tables e below (T239.setTop (mkF m 269 #[.val (.int p1), .val (.int p2), .val (.int p3), .val (.int p4), .val (.int p5), .val (.int p6), .val (.int (4 : Int32)), .val (.int (own_most p1 p6)), .val (.int (own_vdr p2)), .val (.int (own_vdr p3)), .val (.int (own_vdr p4)), .val (.int (own_vdr p5)), .val (.ref b180), .val (.ref b203), .val (.int (own_qc4 p2 p3 p4 p5)), .val (.int ((4 : Int32) - (own_qc4 p2 p3 p4 p5))), .unset] [])) t → Steps p.tables e below (s₁.setTop (entryFrame m #[(.int p1), (.int p2), (.int p3), (.int p4), (.int p5), (.int p6)] maxLocals)) t := by
      intro t k
      refine k239 t ?_
      show Steps p.tables e below (T239.setTop (mkF m 262 #[.val (.int p1), .val (.int p2), .val (.int p3), .val (.int p4), .val (.int p5), .val (.int p6), .val (.int (4 : Int32)), .val (.int (own_most p1 p6)), .val (.int (own_vdr p2)), .val (.int (own_vdr p3)), .val (.int (own_vdr p4)), .val (.int (own_vdr p5)), .val (.ref b180), .val (.ref b203), .val (.int (own_qc4 p2 p3 p4 p5)), .unset, .unset] [])) _
      refine XS.iload X239.here hx rfl (hb hby at_262) rfl ?_
      show Steps p.tables e below (T239.setTop (mkF m 264 #[.val (.int p1), .val (.int p2), .val (.int p3), .val (.int p4), .val (.int p5), .val (.int p6), .val (.int (4 : Int32)), .val (.int (own_most p1 p6)), .val (.int (own_vdr p2)), .val (.int (own_vdr p3)), .val (.int (own_vdr p4)), .val (.int (own_vdr p5)), .val (.ref b180), .val (.ref b203), .val (.int (own_qc4 p2 p3 p4 p5)), .unset, .unset] [(.int (4 : Int32))])) _
      refine XS.iload X239.here hx rfl (hb hby at_264) rfl ?_
      show Steps p.tables e below (T239.setTop (mkF m 266 #[.val (.int p1), .val (.int p2), .val (.int p3), .val (.int p4), .val (.int p5), .val (.int p6), .val (.int (4 : Int32)), .val (.int (own_most p1 p6)), .val (.int (own_vdr p2)), .val (.int (own_vdr p3)), .val (.int (own_vdr p4)), .val (.int (own_vdr p5)), .val (.ref b180), .val (.ref b203), .val (.int (own_qc4 p2 p3 p4 p5)), .unset, .unset] [(.int (own_qc4 p2 p3 p4 p5)), (.int (4 : Int32))])) _
      refine XS.isub X239.here hx rfl (hb hby at_266) rfl ?_
      show Steps p.tables e below (T239.setTop (mkF m 267 #[.val (.int p1), .val (.int p2), .val (.int p3), .val (.int p4), .val (.int p5), .val (.int p6), .val (.int (4 : Int32)), .val (.int (own_most p1 p6)), .val (.int (own_vdr p2)), .val (.int (own_vdr p3)), .val (.int (own_vdr p4)), .val (.int (own_vdr p5)), .val (.ref b180), .val (.ref b203), .val (.int (own_qc4 p2 p3 p4 p5)), .unset, .unset] [(.int ((4 : Int32) - (own_qc4 p2 p3 p4 p5)))])) _
      refine XS.istore X239.here hx rfl (hb hby at_267) rfl (l' := #[.val (.int p1), .val (.int p2), .val (.int p3), .val (.int p4), .val (.int p5), .val (.int p6), .val (.int (4 : Int32)), .val (.int (own_most p1 p6)), .val (.int (own_vdr p2)), .val (.int (own_vdr p3)), .val (.int (own_vdr p4)), .val (.int (own_vdr p5)), .val (.ref b180), .val (.ref b203), .val (.int (own_qc4 p2 p3 p4 p5)), .val (.int ((4 : Int32) - (own_qc4 p2 p3 p4 p5))), .unset]) rfl ?_
      exact k
    have k252 : ∀ t, Steps p.tables e below (T239.setTop (mkF m 289 #[.val (.int p1), .val (.int p2), .val (.int p3), .val (.int p4), .val (.int p5), .val (.int p6), .val (.int (4 : Int32)), .val (.int (own_most p1 p6)), .val (.int (own_vdr p2)), .val (.int (own_vdr p3)), .val (.int (own_vdr p4)), .val (.int (own_vdr p5)), .val (.ref b180), .val (.ref b203), .val (.int (own_qc4 p2 p3 p4 p5)), .val (.int ((4 : Int32) - (own_qc4 p2 p3 p4 p5))), .val (.int (own_ex4 p1 p2 p3 p4 p5 p6))] [])) t → Steps p.tables e below (s₁.setTop (entryFrame m #[(.int p1), (.int p2), (.int p3), (.int p4), (.int p5), (.int p6)] maxLocals)) t := by
      intro t k
      refine k251 t ?_
      show Steps p.tables e below (T239.setTop (mkF m 269 #[.val (.int p1), .val (.int p2), .val (.int p3), .val (.int p4), .val (.int p5), .val (.int p6), .val (.int (4 : Int32)), .val (.int (own_most p1 p6)), .val (.int (own_vdr p2)), .val (.int (own_vdr p3)), .val (.int (own_vdr p4)), .val (.int (own_vdr p5)), .val (.ref b180), .val (.ref b203), .val (.int (own_qc4 p2 p3 p4 p5)), .val (.int ((4 : Int32) - (own_qc4 p2 p3 p4 p5))), .unset] [])) _
      refine XS.iload X239.here hx rfl (hb hby at_269) rfl ?_
      show Steps p.tables e below (T239.setTop (mkF m 271 #[.val (.int p1), .val (.int p2), .val (.int p3), .val (.int p4), .val (.int p5), .val (.int p6), .val (.int (4 : Int32)), .val (.int (own_most p1 p6)), .val (.int (own_vdr p2)), .val (.int (own_vdr p3)), .val (.int (own_vdr p4)), .val (.int (own_vdr p5)), .val (.ref b180), .val (.ref b203), .val (.int (own_qc4 p2 p3 p4 p5)), .val (.int ((4 : Int32) - (own_qc4 p2 p3 p4 p5))), .unset] [(.int ((4 : Int32) - (own_qc4 p2 p3 p4 p5)))])) _
      refine XS.iconst X239.here hx rfl (hb hby at_271) ?_
      by_cases hc272_253 : ((4 : Int32) - (own_qc4 p2 p3 p4 p5)) < (1 : Int32)
      · show Steps p.tables e below (T239.setTop (mkF m 272 #[.val (.int p1), .val (.int p2), .val (.int p3), .val (.int p4), .val (.int p5), .val (.int p6), .val (.int (4 : Int32)), .val (.int (own_most p1 p6)), .val (.int (own_vdr p2)), .val (.int (own_vdr p3)), .val (.int (own_vdr p4)), .val (.int (own_vdr p5)), .val (.ref b180), .val (.ref b203), .val (.int (own_qc4 p2 p3 p4 p5)), .val (.int ((4 : Int32) - (own_qc4 p2 p3 p4 p5))), .unset] [(.int (1 : Int32)), (.int ((4 : Int32) - (own_qc4 p2 p3 p4 p5)))])) _
        refine XS.icmpYes X239.here hx rfl (pc0 := 272) (pc' := 286) rfl (hb hby at_272) rfl (tlt hc272_253).1 (by decide) (by decide) ?_
        show Steps p.tables e below (T239.setTop (mkF m 286 #[.val (.int p1), .val (.int p2), .val (.int p3), .val (.int p4), .val (.int p5), .val (.int p6), .val (.int (4 : Int32)), .val (.int (own_most p1 p6)), .val (.int (own_vdr p2)), .val (.int (own_vdr p3)), .val (.int (own_vdr p4)), .val (.int (own_vdr p5)), .val (.ref b180), .val (.ref b203), .val (.int (own_qc4 p2 p3 p4 p5)), .val (.int ((4 : Int32) - (own_qc4 p2 p3 p4 p5))), .unset] [])) _
        refine XS.iconst X239.here hx rfl (hb hby at_286) ?_
        show Steps p.tables e below (T239.setTop (mkF m 287 #[.val (.int p1), .val (.int p2), .val (.int p3), .val (.int p4), .val (.int p5), .val (.int p6), .val (.int (4 : Int32)), .val (.int (own_most p1 p6)), .val (.int (own_vdr p2)), .val (.int (own_vdr p3)), .val (.int (own_vdr p4)), .val (.int (own_vdr p5)), .val (.ref b180), .val (.ref b203), .val (.int (own_qc4 p2 p3 p4 p5)), .val (.int ((4 : Int32) - (own_qc4 p2 p3 p4 p5))), .unset] [(.int (0 : Int32))])) _
        refine XS.istore X239.here hx rfl (hb hby at_287) rfl (l' := #[.val (.int p1), .val (.int p2), .val (.int p3), .val (.int p4), .val (.int p5), .val (.int p6), .val (.int (4 : Int32)), .val (.int (own_most p1 p6)), .val (.int (own_vdr p2)), .val (.int (own_vdr p3)), .val (.int (own_vdr p4)), .val (.int (own_vdr p5)), .val (.ref b180), .val (.ref b203), .val (.int (own_qc4 p2 p3 p4 p5)), .val (.int ((4 : Int32) - (own_qc4 p2 p3 p4 p5))), .val (.int (0 : Int32))]) rfl ?_
        have q0 : (own_ex4 p1 p2 p3 p4 p5 p6) = (0 : Int32) := (if_pos hc272_253)
        rw [q0] at k
        exact k
      · show Steps p.tables e below (T239.setTop (mkF m 272 #[.val (.int p1), .val (.int p2), .val (.int p3), .val (.int p4), .val (.int p5), .val (.int p6), .val (.int (4 : Int32)), .val (.int (own_most p1 p6)), .val (.int (own_vdr p2)), .val (.int (own_vdr p3)), .val (.int (own_vdr p4)), .val (.int (own_vdr p5)), .val (.ref b180), .val (.ref b203), .val (.int (own_qc4 p2 p3 p4 p5)), .val (.int ((4 : Int32) - (own_qc4 p2 p3 p4 p5))), .unset] [(.int (1 : Int32)), (.int ((4 : Int32) - (own_qc4 p2 p3 p4 p5)))])) _
        refine XS.icmpNo X239.here hx rfl (hb hby at_272) rfl (flt hc272_253).1 ?_
        show Steps p.tables e below (T239.setTop (mkF m 275 #[.val (.int p1), .val (.int p2), .val (.int p3), .val (.int p4), .val (.int p5), .val (.int p6), .val (.int (4 : Int32)), .val (.int (own_most p1 p6)), .val (.int (own_vdr p2)), .val (.int (own_vdr p3)), .val (.int (own_vdr p4)), .val (.int (own_vdr p5)), .val (.ref b180), .val (.ref b203), .val (.int (own_qc4 p2 p3 p4 p5)), .val (.int ((4 : Int32) - (own_qc4 p2 p3 p4 p5))), .unset] [])) _
        refine XS.iload X239.here hx rfl (hb hby at_275) rfl ?_
        show Steps p.tables e below (T239.setTop (mkF m 277 #[.val (.int p1), .val (.int p2), .val (.int p3), .val (.int p4), .val (.int p5), .val (.int p6), .val (.int (4 : Int32)), .val (.int (own_most p1 p6)), .val (.int (own_vdr p2)), .val (.int (own_vdr p3)), .val (.int (own_vdr p4)), .val (.int (own_vdr p5)), .val (.ref b180), .val (.ref b203), .val (.int (own_qc4 p2 p3 p4 p5)), .val (.int ((4 : Int32) - (own_qc4 p2 p3 p4 p5))), .unset] [(.int ((4 : Int32) - (own_qc4 p2 p3 p4 p5)))])) _
        refine XS.iload X239.here hx rfl (hb hby at_277) rfl ?_
        by_cases hc279_254 : (own_most p1 p6) < ((4 : Int32) - (own_qc4 p2 p3 p4 p5))
        · show Steps p.tables e below (T239.setTop (mkF m 279 #[.val (.int p1), .val (.int p2), .val (.int p3), .val (.int p4), .val (.int p5), .val (.int p6), .val (.int (4 : Int32)), .val (.int (own_most p1 p6)), .val (.int (own_vdr p2)), .val (.int (own_vdr p3)), .val (.int (own_vdr p4)), .val (.int (own_vdr p5)), .val (.ref b180), .val (.ref b203), .val (.int (own_qc4 p2 p3 p4 p5)), .val (.int ((4 : Int32) - (own_qc4 p2 p3 p4 p5))), .unset] [(.int (own_most p1 p6)), (.int ((4 : Int32) - (own_qc4 p2 p3 p4 p5)))])) _
          refine XS.icmpYes X239.here hx rfl (pc0 := 279) (pc' := 286) rfl (hb hby at_279) rfl (tlt hc279_254).2.2.1 (by decide) (by decide) ?_
          show Steps p.tables e below (T239.setTop (mkF m 286 #[.val (.int p1), .val (.int p2), .val (.int p3), .val (.int p4), .val (.int p5), .val (.int p6), .val (.int (4 : Int32)), .val (.int (own_most p1 p6)), .val (.int (own_vdr p2)), .val (.int (own_vdr p3)), .val (.int (own_vdr p4)), .val (.int (own_vdr p5)), .val (.ref b180), .val (.ref b203), .val (.int (own_qc4 p2 p3 p4 p5)), .val (.int ((4 : Int32) - (own_qc4 p2 p3 p4 p5))), .unset] [])) _
          refine XS.iconst X239.here hx rfl (hb hby at_286) ?_
          show Steps p.tables e below (T239.setTop (mkF m 287 #[.val (.int p1), .val (.int p2), .val (.int p3), .val (.int p4), .val (.int p5), .val (.int p6), .val (.int (4 : Int32)), .val (.int (own_most p1 p6)), .val (.int (own_vdr p2)), .val (.int (own_vdr p3)), .val (.int (own_vdr p4)), .val (.int (own_vdr p5)), .val (.ref b180), .val (.ref b203), .val (.int (own_qc4 p2 p3 p4 p5)), .val (.int ((4 : Int32) - (own_qc4 p2 p3 p4 p5))), .unset] [(.int (0 : Int32))])) _
          refine XS.istore X239.here hx rfl (hb hby at_287) rfl (l' := #[.val (.int p1), .val (.int p2), .val (.int p3), .val (.int p4), .val (.int p5), .val (.int p6), .val (.int (4 : Int32)), .val (.int (own_most p1 p6)), .val (.int (own_vdr p2)), .val (.int (own_vdr p3)), .val (.int (own_vdr p4)), .val (.int (own_vdr p5)), .val (.ref b180), .val (.ref b203), .val (.int (own_qc4 p2 p3 p4 p5)), .val (.int ((4 : Int32) - (own_qc4 p2 p3 p4 p5))), .val (.int (0 : Int32))]) rfl ?_
          have q0 : (own_ex4 p1 p2 p3 p4 p5 p6) = (0 : Int32) := ((if_neg hc272_253).trans (if_pos hc279_254))
          rw [q0] at k
          exact k
        · show Steps p.tables e below (T239.setTop (mkF m 279 #[.val (.int p1), .val (.int p2), .val (.int p3), .val (.int p4), .val (.int p5), .val (.int p6), .val (.int (4 : Int32)), .val (.int (own_most p1 p6)), .val (.int (own_vdr p2)), .val (.int (own_vdr p3)), .val (.int (own_vdr p4)), .val (.int (own_vdr p5)), .val (.ref b180), .val (.ref b203), .val (.int (own_qc4 p2 p3 p4 p5)), .val (.int ((4 : Int32) - (own_qc4 p2 p3 p4 p5))), .unset] [(.int (own_most p1 p6)), (.int ((4 : Int32) - (own_qc4 p2 p3 p4 p5)))])) _
          refine XS.icmpNo X239.here hx rfl (hb hby at_279) rfl (flt hc279_254).2.2.1 ?_
          show Steps p.tables e below (T239.setTop (mkF m 282 #[.val (.int p1), .val (.int p2), .val (.int p3), .val (.int p4), .val (.int p5), .val (.int p6), .val (.int (4 : Int32)), .val (.int (own_most p1 p6)), .val (.int (own_vdr p2)), .val (.int (own_vdr p3)), .val (.int (own_vdr p4)), .val (.int (own_vdr p5)), .val (.ref b180), .val (.ref b203), .val (.int (own_qc4 p2 p3 p4 p5)), .val (.int ((4 : Int32) - (own_qc4 p2 p3 p4 p5))), .unset] [])) _
          refine XS.iconst X239.here hx rfl (hb hby at_282) ?_
          show Steps p.tables e below (T239.setTop (mkF m 283 #[.val (.int p1), .val (.int p2), .val (.int p3), .val (.int p4), .val (.int p5), .val (.int p6), .val (.int (4 : Int32)), .val (.int (own_most p1 p6)), .val (.int (own_vdr p2)), .val (.int (own_vdr p3)), .val (.int (own_vdr p4)), .val (.int (own_vdr p5)), .val (.ref b180), .val (.ref b203), .val (.int (own_qc4 p2 p3 p4 p5)), .val (.int ((4 : Int32) - (own_qc4 p2 p3 p4 p5))), .unset] [(.int (1 : Int32))])) _
          refine XS.goto X239.here hx rfl (pc0 := 283) (pc' := 287) rfl (hb hby at_283) (by decide) (by decide) ?_
          show Steps p.tables e below (T239.setTop (mkF m 287 #[.val (.int p1), .val (.int p2), .val (.int p3), .val (.int p4), .val (.int p5), .val (.int p6), .val (.int (4 : Int32)), .val (.int (own_most p1 p6)), .val (.int (own_vdr p2)), .val (.int (own_vdr p3)), .val (.int (own_vdr p4)), .val (.int (own_vdr p5)), .val (.ref b180), .val (.ref b203), .val (.int (own_qc4 p2 p3 p4 p5)), .val (.int ((4 : Int32) - (own_qc4 p2 p3 p4 p5))), .unset] [(.int (1 : Int32))])) _
          refine XS.istore X239.here hx rfl (hb hby at_287) rfl (l' := #[.val (.int p1), .val (.int p2), .val (.int p3), .val (.int p4), .val (.int p5), .val (.int p6), .val (.int (4 : Int32)), .val (.int (own_most p1 p6)), .val (.int (own_vdr p2)), .val (.int (own_vdr p3)), .val (.int (own_vdr p4)), .val (.int (own_vdr p5)), .val (.ref b180), .val (.ref b203), .val (.int (own_qc4 p2 p3 p4 p5)), .val (.int ((4 : Int32) - (own_qc4 p2 p3 p4 p5))), .val (.int (1 : Int32))]) rfl ?_
          have q0 : (own_ex4 p1 p2 p3 p4 p5 p6) = (1 : Int32) := ((if_neg hc272_253).trans (if_neg hc279_254))
          rw [q0] at k
          exact k
    have k255 : ∀ t, Steps p.tables e below (T239.setTop (mkF m 293 #[.val (.int p1), .val (.int p2), .val (.int p3), .val (.int p4), .val (.int p5), .val (.int p6), .val (.int (4 : Int32)), .val (.int (own_most p1 p6)), .val (.int (own_vdr p2)), .val (.int (own_vdr p3)), .val (.int (own_vdr p4)), .val (.int (own_vdr p5)), .val (.ref b180), .val (.ref b203), .val (.int (own_qc4 p2 p3 p4 p5)), .val (.int ((4 : Int32) - (own_qc4 p2 p3 p4 p5))), .val (.int (own_ex4 p1 p2 p3 p4 p5 p6))] [(.int (own_most p1 p6)), (.ref b203)])) t → Steps p.tables e below (s₁.setTop (entryFrame m #[(.int p1), (.int p2), (.int p3), (.int p4), (.int p5), (.int p6)] maxLocals)) t := by
      intro t k
      refine k252 t ?_
      show Steps p.tables e below (T239.setTop (mkF m 289 #[.val (.int p1), .val (.int p2), .val (.int p3), .val (.int p4), .val (.int p5), .val (.int p6), .val (.int (4 : Int32)), .val (.int (own_most p1 p6)), .val (.int (own_vdr p2)), .val (.int (own_vdr p3)), .val (.int (own_vdr p4)), .val (.int (own_vdr p5)), .val (.ref b180), .val (.ref b203), .val (.int (own_qc4 p2 p3 p4 p5)), .val (.int ((4 : Int32) - (own_qc4 p2 p3 p4 p5))), .val (.int (own_ex4 p1 p2 p3 p4 p5 p6))] [])) _
      refine XS.aload X239.here hx rfl (hb hby at_289) rfl rfl ?_
      show Steps p.tables e below (T239.setTop (mkF m 291 #[.val (.int p1), .val (.int p2), .val (.int p3), .val (.int p4), .val (.int p5), .val (.int p6), .val (.int (4 : Int32)), .val (.int (own_most p1 p6)), .val (.int (own_vdr p2)), .val (.int (own_vdr p3)), .val (.int (own_vdr p4)), .val (.int (own_vdr p5)), .val (.ref b180), .val (.ref b203), .val (.int (own_qc4 p2 p3 p4 p5)), .val (.int ((4 : Int32) - (own_qc4 p2 p3 p4 p5))), .val (.int (own_ex4 p1 p2 p3 p4 p5 p6))] [(.ref b203)])) _
      refine XS.iload X239.here hx rfl (hb hby at_291) rfl ?_
      exact k
    obtain ⟨_, _, ⟨T256, L256, k256c, n256⟩, -, X256, ⟨Lc256, hQ256, l256, y256, z256⟩, st256⟩ := Jvm.LawKit.callS X239 hx (y := (⟨"com/example/daftar/daftar/model/Characters", "isOneTo", "(Ljava/lang/String;I)Z"⟩ : MethodName)) hown (mvT hZ (hw _ (List.mem_of_getElem? (i := 29) rfl))) (mvT hZ (hw _ (List.mem_of_getElem? (i := 30) rfl))) (mvT hZ (hw _ (List.mem_of_getElem? (i := 31) rfl))) (mvT hZ (hw _ (List.mem_of_getElem? (i := 32) rfl))) (by decide) (backOf (W := 0) (own_rmio l Z a0 hw [] b203 (own_most p1 p6) 4 0 (own_of [ (own_vdr p2) , (own_vdr p3) , (own_vdr p4) , (own_vdr p5) ]) cs T210.heap n0 Z210 f212 fq210_0 Xo210 SC SA SH SL hcs) hZ (hw _ (List.mem_of_getElem? (i := 32) rfl)) (hw _ (List.mem_of_getElem? (i := 31) rfl)) (by decide) (by decide)) (g := (mkF m 293 #[.val (.int p1), .val (.int p2), .val (.int p3), .val (.int p4), .val (.int p5), .val (.int p6), .val (.int (4 : Int32)), .val (.int (own_most p1 p6)), .val (.int (own_vdr p2)), .val (.int (own_vdr p3)), .val (.int (own_vdr p4)), .val (.int (own_vdr p5)), .val (.ref b180), .val (.ref b203), .val (.int (own_qc4 p2 p3 p4 p5)), .val (.int ((4 : Int32) - (own_qc4 p2 p3 p4 p5))), .val (.int (own_ex4 p1 p2 p3 p4 p5 p6))] [(.int (own_most p1 p6)), (.ref b203)])) rfl (by rw [hml]; rfl) (argsL := [(.ref b203), (.int (own_most p1 p6))]) (rest := []) (lenOf own_pd19 rfl) rfl (by show 2 * 0 + _ ≤ _; exact Nat.le_of_eq rfl) (hb hby at_293) (fun _ _ => ⟨rfl, e239, (by decide : 4 + 0 ≤ _), (by decide : 20 + 0 ≤ _)⟩)
    dsimp only [Pt.U, Pt.locs, Pt.cells, Pt.slots] at X256 l256 y256 z256 st256 hQ256
    subst l256 y256 z256
    obtain ⟨r_256, rfl, N256q, e256, hq256_hr⟩ := hQ256
    have N256 := Fr.app N239 N256q
    have k257 : ∀ t, Steps p.tables e below (T256.setTop (mkF m 296 #[.val (.int p1), .val (.int p2), .val (.int p3), .val (.int p4), .val (.int p5), .val (.int p6), .val (.int (4 : Int32)), .val (.int (own_most p1 p6)), .val (.int (own_vdr p2)), .val (.int (own_vdr p3)), .val (.int (own_vdr p4)), .val (.int (own_vdr p5)), .val (.ref b180), .val (.ref b203), .val (.int (own_qc4 p2 p3 p4 p5)), .val (.int ((4 : Int32) - (own_qc4 p2 p3 p4 p5))), .val (.int (own_ex4 p1 p2 p3 p4 p5 p6))] [(.int r_256)])) t → Steps p.tables e below (s₁.setTop (entryFrame m #[(.int p1), (.int p2), (.int p3), (.int p4), (.int p5), (.int p6)] maxLocals)) t := fun t k => k255 t (st256 t k)
    have k258 : ∀ t, Steps p.tables e below (T256.setTop (mkF m 306 #[.val (.int p1), .val (.int p2), .val (.int p3), .val (.int p4), .val (.int p5), .val (.int p6), .val (.int (4 : Int32)), .val (.int (own_most p1 p6)), .val (.int (own_vdr p2)), .val (.int (own_vdr p3)), .val (.int (own_vdr p4)), .val (.int (own_vdr p5)), .val (.ref b180), .val (.ref b203), .val (.int (own_qc4 p2 p3 p4 p5)), .val (.int ((4 : Int32) - (own_qc4 p2 p3 p4 p5))), .val (.int (own_ex4 p1 p2 p3 p4 p5 p6))] [(.int (1 : Int32))])) t → Steps p.tables e below (s₁.setTop (entryFrame m #[(.int p1), (.int p2), (.int p3), (.int p4), (.int p5), (.int p6)] maxLocals)) t := by
      intro t k
      refine k257 t ?_
      show Steps p.tables e below (T256.setTop (mkF m 296 #[.val (.int p1), .val (.int p2), .val (.int p3), .val (.int p4), .val (.int p5), .val (.int p6), .val (.int (4 : Int32)), .val (.int (own_most p1 p6)), .val (.int (own_vdr p2)), .val (.int (own_vdr p3)), .val (.int (own_vdr p4)), .val (.int (own_vdr p5)), .val (.ref b180), .val (.ref b203), .val (.int (own_qc4 p2 p3 p4 p5)), .val (.int ((4 : Int32) - (own_qc4 p2 p3 p4 p5))), .val (.int (own_ex4 p1 p2 p3 p4 p5 p6))] [(.int r_256)])) _
      refine XS.iload X256.here hx rfl (hb hby at_296) rfl ?_
      show Steps p.tables e below (T256.setTop (mkF m 298 #[.val (.int p1), .val (.int p2), .val (.int p3), .val (.int p4), .val (.int p5), .val (.int p6), .val (.int (4 : Int32)), .val (.int (own_most p1 p6)), .val (.int (own_vdr p2)), .val (.int (own_vdr p3)), .val (.int (own_vdr p4)), .val (.int (own_vdr p5)), .val (.ref b180), .val (.ref b203), .val (.int (own_qc4 p2 p3 p4 p5)), .val (.int ((4 : Int32) - (own_qc4 p2 p3 p4 p5))), .val (.int (own_ex4 p1 p2 p3 p4 p5 p6))] [(.int (own_ex4 p1 p2 p3 p4 p5 p6)), (.int r_256)])) _
      refine XS.icmpNo X256.here hx rfl (hb hby at_298) rfl (teq (own_fin4 p1 p2 p3 p4 p5 p6 hq256_hr)).2 ?_
      show Steps p.tables e below (T256.setTop (mkF m 301 #[.val (.int p1), .val (.int p2), .val (.int p3), .val (.int p4), .val (.int p5), .val (.int p6), .val (.int (4 : Int32)), .val (.int (own_most p1 p6)), .val (.int (own_vdr p2)), .val (.int (own_vdr p3)), .val (.int (own_vdr p4)), .val (.int (own_vdr p5)), .val (.ref b180), .val (.ref b203), .val (.int (own_qc4 p2 p3 p4 p5)), .val (.int ((4 : Int32) - (own_qc4 p2 p3 p4 p5))), .val (.int (own_ex4 p1 p2 p3 p4 p5 p6))] [])) _
      refine XS.iconst X256.here hx rfl (hb hby at_301) ?_
      show Steps p.tables e below (T256.setTop (mkF m 302 #[.val (.int p1), .val (.int p2), .val (.int p3), .val (.int p4), .val (.int p5), .val (.int p6), .val (.int (4 : Int32)), .val (.int (own_most p1 p6)), .val (.int (own_vdr p2)), .val (.int (own_vdr p3)), .val (.int (own_vdr p4)), .val (.int (own_vdr p5)), .val (.ref b180), .val (.ref b203), .val (.int (own_qc4 p2 p3 p4 p5)), .val (.int ((4 : Int32) - (own_qc4 p2 p3 p4 p5))), .val (.int (own_ex4 p1 p2 p3 p4 p5 p6))] [(.int (1 : Int32))])) _
      refine XS.goto X256.here hx rfl (pc0 := 302) (pc' := 306) rfl (hb hby at_302) (by decide) (by decide) ?_
      exact k
    obtain ⟨fs, hr, hrun, hended, hW, hsame⟩ := X256.leave (v := (some (.int (1 : Int32)))) (fun h => by rw [Bd.returns] at h; cases h)
    refine ⟨_, _, k258 _ ?_, hrun, hended, _, _, rfl, ?_, ⟨_, rfl⟩, hW.wide, hW.no_new_pair _, hsame.mono (by decide) (by decide)⟩
    · exact retN X256 hx (t := .boolean) Bd.returns (by simp) (hb hby at_306) hr
    · exact ⟨rfl, N256⟩
set_option maxRecDepth 65536 in
set_option maxHeartbeats 40000000 in
theorem comes_1 {Post : Tables → Env → Array Value → State → Outcome → State → Prop} (hpost : ∀ tb e args s v u, (limb_1_1.after args s (.returned v) u = true ∧ limb_1_2.after args s (.returned v) u = true ∧ True) → Jvm.D.FramedW s (.returned v) u (Jvm.fieldLocs frame_1_writes args s ++ Jvm.arrayLocs frame_1_arrays args s ++ Jvm.staticLocs frame_1_statics s) 24 1152 → Post tb e args s (.returned v) u) :
    ArmFor flags0 classFile x code maxLocals ret World_1 tables_1 room_1 Calls_1 rest_1 Pre_1 Post := by
  intro l hfl _ _ p e ha hc hk s m args below hf hA hF happ hP
  obtain ⟨hcalls, hrest, hpre⟩ := hP
  obtain ⟨-, -, -, hnamed, -, -, -, hat⟩ := (Spec.applies_iff hf).mp happ
  obtain ⟨hg, hn⟩ := and_e (Cond.before_iff.mp (show (Jvm.Cond.and given_1 narrow_1).before args s = true from hpre))
  obtain ⟨hg0, hg⟩ := and_e hg
  obtain ⟨hi0, hg⟩ := and_e hg
  obtain ⟨hi1, hg⟩ := and_e hg
  obtain ⟨hi2, hg⟩ := and_e hg
  obtain ⟨hi3, hg⟩ := and_e hg
  obtain ⟨hi4, hg⟩ := and_e hg
  have hi5 := hg
  obtain ⟨w0, w1, w2, w3, w4, w5, rfl⟩ : ∃ w0 w1 w2 w3 w4 w5 : Value, args = #[w0, w1, w2, w3, w4, w5] := by
    have hs : args.size = 6 := by simpa [Cond.value, given_1] using hg0
    obtain ⟨L⟩ := args
    match L, hs with
    | [w0, w1, w2, w3, w4, w5], _ => exact ⟨w0, w1, w2, w3, w4, w5, rfl⟩
  have hw := fun d (hd : d ∈ tables_1) => atoms_spec (ws := Jvm.Cond.code x code maxLocals ret :: tables_1) hat d (List.mem_cons_of_mem _ hd)
  obtain ⟨p1, ev0⟩ := is_v hi0
  obtain rfl : w0 = (.int p1) := Option.some.inj ev0
  obtain ⟨p2, ev1⟩ := is_v hi1
  obtain rfl : w1 = (.int p2) := Option.some.inj ev1
  obtain ⟨p3, ev2⟩ := is_v hi2
  obtain rfl : w2 = (.int p3) := Option.some.inj ev2
  obtain ⟨p4, ev3⟩ := is_v hi3
  obtain rfl : w3 = (.int p4) := Option.some.inj ev3
  obtain ⟨p5, ev4⟩ := is_v hi4
  obtain rfl : w4 = (.int p5) := Option.some.inj ev4
  obtain ⟨p6, ev5⟩ := is_v hi5
  obtain rfl : w5 = (.int p6) := Option.some.inj ev5
  obtain ⟨hsets, hown0⟩ := atoms_of _ (rest_1_c_eq ▸ (show rest_1_c.before _ s = true from hrest))
  have own_eqint : ∀ {A : Array Value} {t : Term} {n : Int32}, (Cond.eq t (.int n)).value A s none s [] = some true → t.eval A s none [] s = some (.int n) := by
    intro A t n h
    obtain ⟨x, y, hx, hy, k1, k2⟩ := cmp_v (Or.inl h)
    obtain rfl : y = .int n := Option.some.inj (hy.symm.trans (Term.int_eval n))
    obtain ⟨z, rfl⟩ := k2
    rw [hx, gotT (Cond.eq_ints hx (Term.int_eval n)) h]
  have hcs0 := not_v (Cond.before_iff.mp (hsets _ (List.mem_of_getElem? (i := 2) rfl)))
  obtain ⟨cs, ecs⟩ := is_v (Cond.before_iff.mp (hsets _ (List.mem_of_getElem? (i := 1) rfl)))
  have SC := Sta.start ecs (Or.inl (hsets _ (List.mem_of_getElem? (i := 0) rfl)))
  have hcs : ¬ (cs = (0 : Int32)) := gotF (Cond.eq_ints ecs (Term.int_eval (0))) hcs0
  have SA := Sta.start (own_eqint (Cond.before_iff.mp (hsets _ (List.mem_of_getElem? (i := 12) rfl)))) (Or.inl (hsets _ (List.mem_of_getElem? (i := 11) rfl)))
  have SH := Sta.start (own_eqint (Cond.before_iff.mp (hsets _ (List.mem_of_getElem? (i := 15) rfl)))) (Or.inl (hsets _ (List.mem_of_getElem? (i := 14) rfl)))
  have SL := Sta.start (own_eqint (Cond.before_iff.mp (hsets _ (List.mem_of_getElem? (i := 18) rfl)))) (Or.inl (hsets _ (List.mem_of_getElem? (i := 17) rfl)))
  have hH := CHv.start (own_EW hw) (fun p hp => hcalls.1 p hp) (hsets _ (List.mem_of_getElem? (i := 2) rfl)) (own_SA hw _ (by simp [Bundle.stringAtoms])) (own_SA hw _ (by simp [Bundle.stringAtoms, Bundle.sN]))
  obtain ⟨n, o, h1, h2, h3, _, L, rfl, ⟨rfl, N⟩, hq⟩ := own_rm0 l s _ hw tables_1 p1 p2 p3 p4 p5 p6 cs s.heap s.heap.size (Nat.le_refl _) (Old.start s) SC SA SH SL hcs  p e ha hc hk s m _ below hf ((Spec.applies_iff_loose hf).mp happ).1 ⟨rfl, State.Warmed39.refl s, rfl, hH⟩ trivial
  refine ⟨n, _, h1, h2, h3, hpost _ _ _ _ _ _ ⟨Cond.after_iff.mpr rfl, Cond.after_iff.mpr (eq_i res_at (Term.int_eval (1)) rfl), trivial⟩ ⟨hq.1, hq.2.1, hq.2.2.1, (hq.2.2.2.sift fun y hy => Or.inr (N y hy)).mono (by decide) (by decide)⟩⟩
theorem main_1_1 : Claimed_1_1 := comes_1 fun _ _ _ _ _ _ h hF => ⟨h.1, hF⟩
theorem main_1_2 : Claimed_1_2 := comes_1 fun _ _ _ _ _ _ h hF => ⟨h.2.1, hF⟩
end Jvm.Pilot.@@N@@
namespace Jvm.Pilot.@@N@@
open Jvm Jvm.ClassFile Sem Op Lib Jvm.Free Jvm.Stand Jvm.Pilot.@@N@@.Jvm.D
/-! MADE BY PROGRAM (witnessworld.py) out of the Statement's table words and the real class files: 22 classes; the members and pool entries that the words name. The judged class is class 1, her method 1. -/
namespace start1
open Jvm.ClassFile
def u (s : String) : CpInfo := .utf8 (stringToUtf16 s)
/-- a pool by its gaps: so many unusable entries, then the entry; so many at the end -/
def gap : Nat → List CpInfo → List CpInfo
  | 0, r => r
  | n + 1, r => .unusable :: gap n r
def poolList (es : List (Nat × CpInfo)) (last : Nat) : List CpInfo := es.foldr (fun e r => gap e.1 (e.2 :: r)) (gap last [])
def pool (es : List (Nat × CpInfo)) (last : Nat) : Array CpInfo := ⟨poolList es last⟩
def fileOf (pool : Array CpInfo) (this : Nat) (attrs : Array Attribute := #[]) (ms : Array MethodInfo := #[]) (fl : Nat := 33) (sup : Nat := 0) (ifs : Array Nat := #[]) (fds : Array FieldInfo := #[]) : ClassFile where
  minorVersion := 0
  majorVersion := 65
  constantPool := pool
  accessFlags := fl
  thisClass := this
  superClass := sup
  interfaces := ifs
  fields := fds
  methods := ms
  attributes := attrs
def plain (name : String) (sup : Option ClassId) : Class where
  name := name
  kind := .ordinary
  loader := none
  accessFlags := 33
  super := sup
  interfaces := #[]
  cf := none
  fields := #[]
  methods := #[]
  instanceTypes := #[]
  staticTypes := #[]
  resolved := #[]
  callSites := []
  init := .initialized
  statics := none
  mirror := none

def pool0 : Array CpInfo := pool [(5, u "<init>"), (0, u "()V"), (1, .class_ 10), (1, u "java/lang/Object")] 113

def k0c0 : Code := { maxStack := 0, maxLocals := 1, code := object_method_1_code, exceptionTable := #[], attributes := #[] }
def k0m0 : Method := { name := "<init>", desc := "()V", sig := { parameters := [], returnType := none }, accessFlags := 1, code := some k0c0 }
/-- java/lang/Object -/
def k0 : Class := { plain "java/lang/Object" none with
  accessFlags := 33
  interfaces := #[]
  cf := some (fileOf pool0 8 #[] #[{ accessFlags := 1, nameIndex := 5, descriptorIndex := 6, attributes := #[] }] 33 0 #[] #[])
  fields := #[]
  methods := #[k0m0]
  instanceTypes := #[]
  staticTypes := #[]
  resolved := Array.replicate 124 none
  statics := none }

def pool1 : Array CpInfo := pool [(2, .class_ 4), (1, u "java/lang/Object"), (0, u "<init>"), (0, u "()V"), (0, .methodref 8 9), (0, .class_ 10), (0, .nameAndType 11 12), (0, u "com/example/daftar/daftar/model/CharactersIsOneToPinLaw"), (0, u "draw"), (0, u "(I)C"), (0, .class_ 14), (0, u "java/lang/String"), (0, .methodref 13 16), (0, .nameAndType 5 17), (0, u "([C)V"), (0, .methodref 8 19), (0, .nameAndType 20 21), (0, u "hi"), (0, u "(C)Z"), (0, .methodref 8 23), (0, .nameAndType 24 21), (0, u "lo"), (0, .methodref 26 27), (0, .class_ 28), (0, .nameAndType 29 30), (0, u "com/example/daftar/daftar/model/Characters"), (0, u "isOneTo"), (0, u "(Ljava/lang/String;I)Z"), (0, .integer 55296), (0, .integer 56320), (0, .integer 65535), (0, .integer 56319), (0, .integer 57343), (2, u "law"), (0, u "(IIIIII)Z")] 5

def k1m0 : Method := { name := "<init>", desc := "()V", sig := { parameters := [], returnType := none }, accessFlags := 1, code := none }
def k1c1 : Code := { maxStack := 4, maxLocals := 17, code := code, exceptionTable := #[], attributes := #[] }
def k1m1 : Method := { name := "law", desc := "(IIIIII)Z", sig := { parameters := [.int, .int, .int, .int, .int, .int], returnType := some .boolean }, accessFlags := 9, code := some k1c1 }
def k1c2 : Code := { maxStack := 3, maxLocals := 3, code := method_3_code, exceptionTable := #[], attributes := #[] }
def k1m2 : Method := { name := "draw", desc := "(I)C", sig := { parameters := [.int], returnType := some .char }, accessFlags := 10, code := some k1c2 }
def k1c3 : Code := { maxStack := 2, maxLocals := 1, code := method_4_code, exceptionTable := #[], attributes := #[] }
def k1m3 : Method := { name := "hi", desc := "(C)Z", sig := { parameters := [.char], returnType := some .boolean }, accessFlags := 10, code := some k1c3 }
def k1c4 : Code := { maxStack := 2, maxLocals := 1, code := method_5_code, exceptionTable := #[], attributes := #[] }
def k1m4 : Method := { name := "lo", desc := "(C)Z", sig := { parameters := [.char], returnType := some .boolean }, accessFlags := 10, code := some k1c4 }
/-- com/example/daftar/daftar/model/CharactersIsOneToPinLaw -/
def k1 : Class := { plain "com/example/daftar/daftar/model/CharactersIsOneToPinLaw" (some 0) with
  accessFlags := 49
  interfaces := #[]
  cf := some (fileOf pool1 8 #[] #[{ accessFlags := 1, nameIndex := 5, descriptorIndex := 6, attributes := #[] }, { accessFlags := 9, nameIndex := 38, descriptorIndex := 39, attributes := #[] }, { accessFlags := 10, nameIndex := 11, descriptorIndex := 12, attributes := #[] }, { accessFlags := 10, nameIndex := 20, descriptorIndex := 21, attributes := #[] }, { accessFlags := 10, nameIndex := 24, descriptorIndex := 21, attributes := #[] }] 49 2 #[] #[])
  fields := #[]
  methods := #[k1m0, k1m1, k1m2, k1m3, k1m4]
  instanceTypes := #[]
  staticTypes := #[]
  resolved := Array.replicate 45 none
  statics := none }

def pool2 : Array CpInfo := pool [(1, .class_ 2), (0, u "java/io/Serializable"), (0, .class_ 4), (0, u "java/lang/Object")] 2

/-- java/io/Serializable -/
def k2 : Class := { plain "java/io/Serializable" (some 0) with
  accessFlags := 1537
  interfaces := #[]
  cf := some (fileOf pool2 1 #[] #[] 1537 3 #[] #[])
  fields := #[]
  methods := #[]
  instanceTypes := #[]
  staticTypes := #[]
  resolved := Array.replicate 7 none
  statics := none }

def pool3 : Array CpInfo := pool [(1, .class_ 2), (0, u "java/lang/Comparable"), (0, .class_ 4), (0, u "java/lang/Object")] 7

/-- java/lang/Comparable -/
def k3 : Class := { plain "java/lang/Comparable" (some 0) with
  accessFlags := 1537
  interfaces := #[]
  cf := some (fileOf pool3 1 #[] #[] 1537 3 #[] #[])
  fields := #[]
  methods := #[]
  instanceTypes := #[]
  staticTypes := #[]
  resolved := Array.replicate 12 none
  statics := none }

def pool4 : Array CpInfo := pool [(2, .class_ 4), (1, u "java/lang/CharSequence"), (42, .class_ 48), (0, u "java/lang/CharSequence$1CodePointIterator"), (10, .class_ 60), (0, u "java/lang/CharSequence$1CharIterator"), (5, .class_ 67), (0, u "java/lang/Object")] 63

/-- java/lang/CharSequence -/
def k4 : Class := { plain "java/lang/CharSequence" (some 0) with
  accessFlags := 1537
  interfaces := #[]
  cf := some (fileOf pool4 2 #[.nestMembers #[47, 59]] #[] 1537 66 #[] #[])
  fields := #[]
  methods := #[]
  instanceTypes := #[]
  staticTypes := #[]
  resolved := Array.replicate 131 none
  statics := none }

def pool5 : Array CpInfo := pool [(1, .class_ 2), (0, u "java/lang/constant/Constable"), (0, .class_ 4), (0, u "java/lang/Object")] 6

/-- java/lang/constant/Constable -/
def k5 : Class := { plain "java/lang/constant/Constable" (some 0) with
  accessFlags := 1537
  interfaces := #[]
  cf := some (fileOf pool5 1 #[] #[] 1537 3 #[] #[])
  fields := #[]
  methods := #[]
  instanceTypes := #[]
  staticTypes := #[]
  resolved := Array.replicate 11 none
  statics := none }

def pool6 : Array CpInfo := pool [(1, .class_ 2), (0, u "java/lang/constant/ConstantDesc"), (0, .class_ 4), (0, u "java/lang/Object")] 32

/-- java/lang/constant/ConstantDesc -/
def k6 : Class := { plain "java/lang/constant/ConstantDesc" (some 0) with
  accessFlags := 1537
  interfaces := #[]
  cf := some (fileOf pool6 1 #[] #[] 1537 3 #[] #[])
  fields := #[]
  methods := #[]
  instanceTypes := #[]
  staticTypes := #[]
  resolved := Array.replicate 37 none
  statics := none }

def pool7 : Array CpInfo := pool [(1, .methodref 2 3), (0, .class_ 4), (0, .nameAndType 5 6), (0, u "java/lang/Object"), (0, u "<init>"), (0, u "()V"), (0, .string 8), (0, u ""), (0, .fieldref 10 11), (0, .class_ 12), (0, .nameAndType 13 14), (0, u "java/lang/String"), (0, u "value"), (0, u "[B"), (0, .fieldref 10 16), (0, .nameAndType 17 18), (0, u "coder"), (0, u "B"), (2, u "hash"), (0, u "I"), (2, u "hashIsZero"), (0, u "Z"), (0, .methodref 10 28), (0, .nameAndType 5 29), (0, u "([CIILjava/lang/Void;)V"), (7, u "(III)I"), (0, .fieldref 10 39), (0, .nameAndType 40 26), (0, u "COMPACT_STRINGS"), (1, .class_ 44), (1, u "java/lang/StringUTF16"), (0, u "compress"), (1, .methodref 42 48), (0, .nameAndType 49 50), (0, u "coderFromArrayLen"), (0, u "([BI)B"), (28, .class_ 81), (1, u "java/util/Objects"), (15, u "([BII)I"), (44, u "()Z"), (34, .methodref 42 178), (0, .nameAndType 45 179), (0, u "([CII)[B"), (154, u "()I"), (0, .methodref 10 336), (0, .nameAndType 17 337), (0, u "()B"), (154, .methodref 10 493), (0, .nameAndType 494 142), (0, u "isLatin1"), (10, .methodref 10 506), (0, .nameAndType 507 334), (0, u "length"), (3, .methodref 79 512), (0, .nameAndType 513 37), (0, u "checkFromToIndex"), (0, .methodref 42 515), (0, .nameAndType 516 97), (0, u "codePointCount"), (58, .class_ 576), (0, u "java/lang/CharSequence"), (22, u "CASE_INSENSITIVE_ORDER"), (0, u "Ljava/util/Comparator;"), (35, u "(II)I"), (373, u "([C)V"), (90, u "serialPersistentFields"), (0, u "[Ljava/io/ObjectStreamField;"), (0, .class_ 1104), (0, u "java/lang/String$CaseInsensitiveComparator"), (1, .class_ 1107), (0, u "java/io/Serializable"), (0, .class_ 1109), (0, u "java/lang/Comparable"), (0, .class_ 1111), (0, u "java/lang/constant/Constable"), (0, .class_ 1113), (0, u "java/lang/constant/ConstantDesc"), (2, u "serialVersionUID"), (0, u "J"), (3, u "REPL"), (0, u "C"), (2, u "LATIN1"), (1, u "UTF16")] 323

def k7m0 : Method := { name := "<init>", desc := "()V", sig := { parameters := [], returnType := none }, accessFlags := 1, code := none }
def k7c1 : Code := { maxStack := 5, maxLocals := 2, code := jdk_42_method_3_code, exceptionTable := #[], attributes := #[] }
def k7m1 : Method := { name := "<init>", desc := "([C)V", sig := { parameters := [(.array .char)], returnType := none }, accessFlags := 1, code := some k7c1 }
def k7c2 : Code := { maxStack := 2, maxLocals := 1, code := jdk_42_method_54_code, exceptionTable := #[], attributes := #[] }
def k7m2 : Method := { name := "length", desc := "()I", sig := { parameters := [], returnType := some .int }, accessFlags := 1, code := some k7c2 }
def k7c3 : Code := { maxStack := 3, maxLocals := 3, code := jdk_42_method_59_code, exceptionTable := #[], attributes := #[] }
def k7m3 : Method := { name := "codePointCount", desc := "(II)I", sig := { parameters := [.int, .int], returnType := some .int }, accessFlags := 1, code := some k7c3 }
def k7c4 : Code := { maxStack := 4, maxLocals := 6, code := jdk_42_method_149_code, exceptionTable := #[], attributes := #[] }
def k7m4 : Method := { name := "<init>", desc := "([CIILjava/lang/Void;)V", sig := { parameters := [(.array .char), .int, .int, (.object "java/lang/Void")], returnType := none }, accessFlags := 2, code := some k7c4 }
def k7c5 : Code := { maxStack := 1, maxLocals := 1, code := jdk_42_method_152_code, exceptionTable := #[], attributes := #[] }
def k7m5 : Method := { name := "coder", desc := "()B", sig := { parameters := [], returnType := some .byte }, accessFlags := 0, code := some k7c5 }
def k7c6 : Code := { maxStack := 1, maxLocals := 1, code := jdk_42_method_154_code, exceptionTable := #[], attributes := #[] }
def k7m6 : Method := { name := "isLatin1", desc := "()Z", sig := { parameters := [], returnType := some .boolean }, accessFlags := 0, code := some k7c6 }
/-- java/lang/String -/
def k7 : Class := { plain "java/lang/String" (some 0) with
  accessFlags := 49
  interfaces := #[2, 3, 4, 5, 6]
  cf := some (fileOf pool7 10 #[.nestMembers #[1103]] #[{ accessFlags := 1, nameIndex := 5, descriptorIndex := 6, attributes := #[] }, { accessFlags := 1, nameIndex := 5, descriptorIndex := 1010, attributes := #[] }, { accessFlags := 1, nameIndex := 507, descriptorIndex := 334, attributes := #[] }, { accessFlags := 1, nameIndex := 516, descriptorIndex := 636, attributes := #[] }, { accessFlags := 2, nameIndex := 5, descriptorIndex := 29, attributes := #[] }, { accessFlags := 0, nameIndex := 17, descriptorIndex := 337, attributes := #[] }, { accessFlags := 0, nameIndex := 494, descriptorIndex := 142, attributes := #[] }] 49 2 #[1106, 1108, 575, 1110, 1112] #[{ accessFlags := 18, nameIndex := 13, descriptorIndex := 14, attributes := #[] }, { accessFlags := 18, nameIndex := 17, descriptorIndex := 18, attributes := #[] }, { accessFlags := 2, nameIndex := 21, descriptorIndex := 22, attributes := #[] }, { accessFlags := 2, nameIndex := 25, descriptorIndex := 26, attributes := #[] }, { accessFlags := 26, nameIndex := 1116, descriptorIndex := 1117, attributes := #[] }, { accessFlags := 24, nameIndex := 40, descriptorIndex := 26, attributes := #[] }, { accessFlags := 26, nameIndex := 1101, descriptorIndex := 1102, attributes := #[] }, { accessFlags := 26, nameIndex := 1121, descriptorIndex := 1122, attributes := #[] }, { accessFlags := 25, nameIndex := 599, descriptorIndex := 600, attributes := #[] }, { accessFlags := 24, nameIndex := 1125, descriptorIndex := 18, attributes := #[] }, { accessFlags := 24, nameIndex := 1127, descriptorIndex := 18, attributes := #[] }])
  fields := #[{ name := "value", type := (.array .byte), accessFlags := 18, slot := 0, constantValue := 0 }, { name := "coder", type := .byte, accessFlags := 18, slot := 1, constantValue := 0 }, { name := "hash", type := .int, accessFlags := 2, slot := 2, constantValue := 0 }, { name := "hashIsZero", type := .boolean, accessFlags := 2, slot := 3, constantValue := 0 }, { name := "serialVersionUID", type := .long, accessFlags := 26, slot := 0, constantValue := 0 }, { name := "COMPACT_STRINGS", type := .boolean, accessFlags := 24, slot := 1, constantValue := 0 }, { name := "serialPersistentFields", type := (.array (.object "java/io/ObjectStreamField")), accessFlags := 26, slot := 2, constantValue := 0 }, { name := "REPL", type := .char, accessFlags := 26, slot := 3, constantValue := 0 }, { name := "CASE_INSENSITIVE_ORDER", type := (.object "java/util/Comparator"), accessFlags := 25, slot := 4, constantValue := 0 }, { name := "LATIN1", type := .byte, accessFlags := 24, slot := 5, constantValue := 0 }, { name := "UTF16", type := .byte, accessFlags := 24, slot := 6, constantValue := 0 }]
  methods := #[k7m0, k7m1, k7m2, k7m3, k7m4, k7m5, k7m6]
  instanceTypes := #[(.array .byte), .byte, .int, .boolean]
  staticTypes := #[.long, .boolean, (.array (.object "java/io/ObjectStreamField")), .char, (.object "java/util/Comparator"), .byte, .byte]
  resolved := Array.replicate 1451 none
  statics := some 0 }

def pool8 : Array CpInfo := pool [(2, .class_ 4), (1, u "java/lang/Object"), (0, u "<init>"), (0, u "()V"), (1, .class_ 10), (1, u "com/example/daftar/daftar/model/Characters"), (0, u "WHITE_SPACE"), (0, u "Ljava/util/regex/Pattern;"), (13, .class_ 28), (1, u "java/lang/String"), (19, .methodref 26 49), (0, .nameAndType 50 51), (0, u "length"), (0, u "()I"), (0, .methodref 26 53), (0, .nameAndType 54 55), (0, u "codePointCount"), (0, u "(II)I"), (14, u "NOT_BLANK"), (0, u "Ljava/lang/String;"), (3, u "NO_CONTROL"), (8, u "isOneTo"), (0, u "(Ljava/lang/String;I)Z")] 37

def k8m0 : Method := { name := "<init>", desc := "()V", sig := { parameters := [], returnType := none }, accessFlags := 2, code := none }
def k8c1 : Code := { maxStack := 3, maxLocals := 3, code := prog_21_method_5_code, exceptionTable := #[], attributes := #[] }
def k8m1 : Method := { name := "isOneTo", desc := "(Ljava/lang/String;I)Z", sig := { parameters := [(.object "java/lang/String"), .int], returnType := some .boolean }, accessFlags := 9, code := some k8c1 }
/-- com/example/daftar/daftar/model/Characters -/
def k8 : Class := { plain "com/example/daftar/daftar/model/Characters" (some 0) with
  accessFlags := 33
  interfaces := #[]
  cf := some (fileOf pool8 8 #[] #[{ accessFlags := 2, nameIndex := 5, descriptorIndex := 6, attributes := #[] }, { accessFlags := 9, nameIndex := 84, descriptorIndex := 85, attributes := #[] }] 33 2 #[] #[{ accessFlags := 25, nameIndex := 70, descriptorIndex := 71, attributes := #[] }, { accessFlags := 25, nameIndex := 75, descriptorIndex := 71, attributes := #[] }, { accessFlags := 26, nameIndex := 11, descriptorIndex := 12, attributes := #[] }])
  fields := #[{ name := "NOT_BLANK", type := (.object "java/lang/String"), accessFlags := 25, slot := 0, constantValue := 0 }, { name := "NO_CONTROL", type := (.object "java/lang/String"), accessFlags := 25, slot := 1, constantValue := 0 }, { name := "WHITE_SPACE", type := (.object "java/util/regex/Pattern"), accessFlags := 26, slot := 2, constantValue := 0 }]
  methods := #[k8m0, k8m1]
  instanceTypes := #[]
  staticTypes := #[(.object "java/lang/String"), (.object "java/lang/String"), (.object "java/util/regex/Pattern")]
  resolved := Array.replicate 123 none
  statics := none }

def pool9 : Array CpInfo := pool [(2, .class_ 4), (1, u "java/lang/Object"), (0, u "<init>"), (0, u "()V"), (35, .class_ 44), (1, u "java/util/Objects"), (61, .class_ 108), (1, u "jdk/internal/util/Preconditions"), (2, .methodref 106 112), (0, .nameAndType 113 114), (0, u "checkFromToIndex"), (0, u "(IIILjava/util/function/BiFunction;)I"), (60, u "(III)I")] 8

def k9m0 : Method := { name := "<init>", desc := "()V", sig := { parameters := [], returnType := none }, accessFlags := 2, code := none }
def k9c1 : Code := { maxStack := 4, maxLocals := 3, code := jdk_31_method_18_code, exceptionTable := #[], attributes := #[] }
def k9m1 : Method := { name := "checkFromToIndex", desc := "(III)I", sig := { parameters := [.int, .int, .int], returnType := some .int }, accessFlags := 9, code := some k9c1 }
/-- java/util/Objects -/
def k9 : Class := { plain "java/util/Objects" (some 0) with
  accessFlags := 49
  interfaces := #[]
  cf := some (fileOf pool9 42 #[] #[{ accessFlags := 2, nameIndex := 5, descriptorIndex := 6, attributes := #[] }, { accessFlags := 9, nameIndex := 113, descriptorIndex := 175, attributes := #[] }] 49 2 #[] #[])
  fields := #[]
  methods := #[k9m0, k9m1]
  instanceTypes := #[]
  staticTypes := #[]
  resolved := Array.replicate 184 none
  statics := none }

def pool10 : Array CpInfo := pool [(2, .class_ 4), (1, u "java/lang/Object"), (0, u "<init>"), (0, u "()V"), (17, .class_ 26), (1, u "jdk/internal/util/Preconditions"), (20, u "checkFromToIndex"), (7, .class_ 56), (0, u "jdk/internal/util/Preconditions$4"), (57, .class_ 115), (0, u "jdk/internal/util/Preconditions$1"), (7, u "SIOOBE_FORMATTER"), (0, u "Ljava/util/function/BiFunction;"), (0, .class_ 126), (0, u "jdk/internal/util/Preconditions$2"), (3, u "AIOOBE_FORMATTER"), (0, .class_ 132), (0, u "jdk/internal/util/Preconditions$3"), (3, u "IOOBE_FORMATTER"), (46, u "(IIILjava/util/function/BiFunction;)I")] 10

def k10m0 : Method := { name := "<init>", desc := "()V", sig := { parameters := [], returnType := none }, accessFlags := 1, code := none }
def k10c1 : Code := { maxStack := 4, maxLocals := 4, code := jdk_41_method_12_code, exceptionTable := #[], attributes := #[] }
def k10m1 : Method := { name := "checkFromToIndex", desc := "(IIILjava/util/function/BiFunction;)I", sig := { parameters := [.int, .int, .int, (.object "java/util/function/BiFunction")], returnType := some .int }, accessFlags := 9, code := some k10c1 }
/-- jdk/internal/util/Preconditions -/
def k10 : Class := { plain "jdk/internal/util/Preconditions" (some 0) with
  accessFlags := 33
  interfaces := #[]
  cf := some (fileOf pool10 24 #[.nestMembers #[55, 131, 125, 114]] #[{ accessFlags := 1, nameIndex := 5, descriptorIndex := 6, attributes := #[] }, { accessFlags := 9, nameIndex := 47, descriptorIndex := 183, attributes := #[] }] 33 2 #[] #[{ accessFlags := 25, nameIndex := 123, descriptorIndex := 124, attributes := #[] }, { accessFlags := 25, nameIndex := 130, descriptorIndex := 124, attributes := #[] }, { accessFlags := 25, nameIndex := 136, descriptorIndex := 124, attributes := #[] }])
  fields := #[{ name := "SIOOBE_FORMATTER", type := (.object "java/util/function/BiFunction"), accessFlags := 25, slot := 0, constantValue := 0 }, { name := "AIOOBE_FORMATTER", type := (.object "java/util/function/BiFunction"), accessFlags := 25, slot := 1, constantValue := 0 }, { name := "IOOBE_FORMATTER", type := (.object "java/util/function/BiFunction"), accessFlags := 25, slot := 2, constantValue := 0 }]
  methods := #[k10m0, k10m1]
  instanceTypes := #[]
  staticTypes := #[(.object "java/util/function/BiFunction"), (.object "java/util/function/BiFunction"), (.object "java/util/function/BiFunction")]
  resolved := Array.replicate 194 none
  statics := some 1 }

def pool11 : Array CpInfo := pool [(6, .class_ 8), (1, u "java/lang/Object"), (0, u "<init>"), (0, u "()V"), (0, .methodref 12 13), (0, .class_ 14), (0, .nameAndType 15 16), (0, u "java/lang/StringUTF16"), (0, u "newBytesLength"), (0, u "(I)I"), (3, .integer 1073741823), (23, .fieldref 12 45), (0, .nameAndType 46 47), (0, u "$assertionsDisabled"), (0, u "Z"), (11, .fieldref 12 60), (0, .nameAndType 61 62), (0, u "HI_BYTE_SHIFT"), (0, u "I"), (0, .fieldref 12 64), (0, .nameAndType 65 62), (0, u "LO_BYTE_SHIFT"), (5, .methodref 12 72), (0, .nameAndType 73 74), (0, u "getChar"), (0, u "([BI)C"), (0, .methodref 76 77), (0, .class_ 78), (0, .nameAndType 79 80), (0, u "java/lang/Character"), (0, u "isHighSurrogate"), (0, u "(C)Z"), (0, .methodref 76 82), (0, .nameAndType 83 80), (0, u "isLowSurrogate"), (7, u "([BIIZ)I"), (8, .methodref 12 101), (0, .nameAndType 102 91), (0, u "codePointCount"), (4, .methodref 12 108), (0, .nameAndType 109 110), (0, u "newBytesFor"), (0, u "(I)[B"), (0, .methodref 12 112), (0, .nameAndType 113 114), (0, u "putChar"), (0, u "([BII)V"), (0, .methodref 12 116), (0, .nameAndType 117 118), (0, u "compress"), (0, u "([CI[BII)I"), (0, .methodref 12 120), (0, .nameAndType 121 122), (0, u "toBytes"), (0, u "([CII)[B"), (127, u "([BII)I"), (10, u "coderFromArrayLen"), (0, u "([BI)B"), (106, .class_ 371), (1, u "java/lang/StringUTF16$LinesSpliterator"), (58, u "MAX_LENGTH"), (196, .class_ 628), (0, u "java/lang/StringUTF16$CodePointsSpliterator"), (0, .class_ 630), (0, u "java/lang/StringUTF16$CharsSpliterator")] 4

def k11m0 : Method := { name := "<init>", desc := "()V", sig := { parameters := [], returnType := none }, accessFlags := 0, code := none }
def k11c1 : Code := { maxStack := 1, maxLocals := 1, code := jdk_52_method_2_code, exceptionTable := #[], attributes := #[] }
def k11m1 : Method := { name := "newBytesFor", desc := "(I)[B", sig := { parameters := [.int], returnType := some (.array .byte) }, accessFlags := 9, code := some k11c1 }
def k11c2 : Code := { maxStack := 4, maxLocals := 1, code := jdk_52_method_3_code, exceptionTable := #[], attributes := #[] }
def k11m2 : Method := { name := "newBytesLength", desc := "(I)I", sig := { parameters := [.int], returnType := some .int }, accessFlags := 9, code := some k11c2 }
def k11c3 : Code := { maxStack := 4, maxLocals := 3, code := jdk_52_method_4_code, exceptionTable := #[], attributes := #[] }
def k11m3 : Method := { name := "putChar", desc := "([BII)V", sig := { parameters := [(.array .byte), .int, .int], returnType := none }, accessFlags := 8, code := some k11c3 }
def k11c4 : Code := { maxStack := 3, maxLocals := 2, code := jdk_52_method_5_code, exceptionTable := #[], attributes := #[] }
def k11m4 : Method := { name := "getChar", desc := "([BI)C", sig := { parameters := [(.array .byte), .int], returnType := some .char }, accessFlags := 8, code := some k11c4 }
def k11c5 : Code := { maxStack := 3, maxLocals := 6, code := jdk_52_method_11_code, exceptionTable := #[], attributes := #[] }
def k11m5 : Method := { name := "codePointCount", desc := "([BIIZ)I", sig := { parameters := [(.array .byte), .int, .int, .boolean], returnType := some .int }, accessFlags := 10, code := some k11c5 }
def k11c6 : Code := { maxStack := 4, maxLocals := 3, code := jdk_52_method_12_code, exceptionTable := #[], attributes := #[] }
def k11m6 : Method := { name := "codePointCount", desc := "([BII)I", sig := { parameters := [(.array .byte), .int, .int], returnType := some .int }, accessFlags := 9, code := some k11c6 }
def k11c7 : Code := { maxStack := 4, maxLocals := 5, code := jdk_52_method_14_code, exceptionTable := #[], attributes := #[] }
def k11m7 : Method := { name := "toBytes", desc := "([CII)[B", sig := { parameters := [(.array .char), .int, .int], returnType := some (.array .byte) }, accessFlags := 9, code := some k11c7 }
def k11c8 : Code := { maxStack := 2, maxLocals := 2, code := jdk_52_method_15_code, exceptionTable := #[], attributes := #[] }
def k11m8 : Method := { name := "coderFromArrayLen", desc := "([BI)B", sig := { parameters := [(.array .byte), .int], returnType := some .byte }, accessFlags := 8, code := some k11c8 }
def k11c9 : Code := { maxStack := 5, maxLocals := 6, code := jdk_52_method_16_code, exceptionTable := #[], attributes := #[] }
def k11m9 : Method := { name := "compress", desc := "([CII)[B", sig := { parameters := [(.array .char), .int, .int], returnType := some (.array .byte) }, accessFlags := 9, code := some k11c9 }
def k11c10 : Code := { maxStack := 3, maxLocals := 7, code := jdk_52_method_21_code, exceptionTable := #[], attributes := #[] }
def k11m10 : Method := { name := "compress", desc := "([CI[BII)I", sig := { parameters := [(.array .char), .int, (.array .byte), .int, .int], returnType := some .int }, accessFlags := 9, code := some k11c10 }
/-- java/lang/StringUTF16 -/
def k11 : Class := { plain "java/lang/StringUTF16" (some 0) with
  accessFlags := 48
  interfaces := #[]
  cf := some (fileOf pool11 12 #[.nestMembers #[627, 629, 369]] #[{ accessFlags := 0, nameIndex := 9, descriptorIndex := 10, attributes := #[] }, { accessFlags := 9, nameIndex := 109, descriptorIndex := 110, attributes := #[] }, { accessFlags := 9, nameIndex := 15, descriptorIndex := 16, attributes := #[] }, { accessFlags := 8, nameIndex := 113, descriptorIndex := 114, attributes := #[] }, { accessFlags := 8, nameIndex := 73, descriptorIndex := 74, attributes := #[] }, { accessFlags := 10, nameIndex := 102, descriptorIndex := 91, attributes := #[] }, { accessFlags := 9, nameIndex := 102, descriptorIndex := 250, attributes := #[] }, { accessFlags := 9, nameIndex := 121, descriptorIndex := 122, attributes := #[] }, { accessFlags := 8, nameIndex := 261, descriptorIndex := 262, attributes := #[] }, { accessFlags := 9, nameIndex := 117, descriptorIndex := 122, attributes := #[] }, { accessFlags := 9, nameIndex := 117, descriptorIndex := 118, attributes := #[] }] 48 6 #[] #[{ accessFlags := 26, nameIndex := 61, descriptorIndex := 62, attributes := #[] }, { accessFlags := 26, nameIndex := 65, descriptorIndex := 62, attributes := #[] }, { accessFlags := 24, nameIndex := 430, descriptorIndex := 62, attributes := #[] }, { accessFlags := 4120, nameIndex := 46, descriptorIndex := 47, attributes := #[] }])
  fields := #[{ name := "HI_BYTE_SHIFT", type := .int, accessFlags := 26, slot := 0, constantValue := 0 }, { name := "LO_BYTE_SHIFT", type := .int, accessFlags := 26, slot := 1, constantValue := 0 }, { name := "MAX_LENGTH", type := .int, accessFlags := 24, slot := 2, constantValue := 0 }, { name := "$assertionsDisabled", type := .boolean, accessFlags := 4120, slot := 3, constantValue := 0 }]
  methods := #[k11m0, k11m1, k11m2, k11m3, k11m4, k11m5, k11m6, k11m7, k11m8, k11m9, k11m10]
  instanceTypes := #[]
  staticTypes := #[.int, .int, .int, .boolean]
  resolved := Array.replicate 635 none
  statics := some 2 }

def pool12 : Array CpInfo := pool [(1, .class_ 2), (0, u "java/lang/Character"), (18, u "value"), (0, u "C"), (19, .class_ 44), (1, u "java/lang/Object"), (3, .class_ 50), (1, u "java/lang/Character$CharacterCache"), (24, .integer 55296), (0, .integer 56320), (0, .integer 57344), (2, u "isHighSurrogate"), (0, u "(C)Z"), (2, u "isLowSurrogate"), (199, u "$assertionsDisabled"), (0, u "Z"), (21, .class_ 309), (1, u "java/lang/Character$UnicodeBlock"), (73, u "TYPE"), (0, u "Ljava/lang/Class;"), (0, .class_ 386), (0, u "java/io/Serializable"), (0, .class_ 388), (0, u "java/lang/Comparable"), (0, .class_ 390), (0, u "java/lang/constant/Constable"), (0, u "MIN_RADIX"), (0, u "I"), (2, u "MAX_RADIX"), (1, u "MIN_VALUE"), (1, u "MAX_VALUE"), (3, u "UNASSIGNED"), (0, u "B"), (0, u "UPPERCASE_LETTER"), (1, u "LOWERCASE_LETTER"), (0, u "TITLECASE_LETTER"), (1, u "MODIFIER_LETTER"), (1, u "OTHER_LETTER"), (1, u "NON_SPACING_MARK"), (1, u "ENCLOSING_MARK"), (1, u "COMBINING_SPACING_MARK"), (1, u "DECIMAL_DIGIT_NUMBER"), (1, u "LETTER_NUMBER"), (1, u "OTHER_NUMBER"), (1, u "SPACE_SEPARATOR"), (1, u "LINE_SEPARATOR"), (1, u "PARAGRAPH_SEPARATOR"), (1, u "CONTROL"), (1, u "FORMAT"), (1, u "PRIVATE_USE"), (1, u "SURROGATE"), (1, u "DASH_PUNCTUATION"), (1, u "START_PUNCTUATION"), (1, u "END_PUNCTUATION"), (1, u "CONNECTOR_PUNCTUATION"), (1, u "OTHER_PUNCTUATION"), (1, u "MATH_SYMBOL"), (1, u "CURRENCY_SYMBOL"), (1, u "MODIFIER_SYMBOL"), (1, u "OTHER_SYMBOL"), (1, u "INITIAL_QUOTE_PUNCTUATION"), (1, u "FINAL_QUOTE_PUNCTUATION"), (1, u "ERROR"), (1, u "DIRECTIONALITY_UNDEFINED"), (0, u "DIRECTIONALITY_LEFT_TO_RIGHT"), (0, u "DIRECTIONALITY_RIGHT_TO_LEFT"), (0, u "DIRECTIONALITY_RIGHT_TO_LEFT_ARABIC"), (0, u "DIRECTIONALITY_EUROPEAN_NUMBER"), (0, u "DIRECTIONALITY_EUROPEAN_NUMBER_SEPARATOR"), (0, u "DIRECTIONALITY_EUROPEAN_NUMBER_TERMINATOR"), (0, u "DIRECTIONALITY_ARABIC_NUMBER"), (0, u "DIRECTIONALITY_COMMON_NUMBER_SEPARATOR"), (0, u "DIRECTIONALITY_NONSPACING_MARK"), (0, u "DIRECTIONALITY_BOUNDARY_NEUTRAL"), (0, u "DIRECTIONALITY_PARAGRAPH_SEPARATOR"), (0, u "DIRECTIONALITY_SEGMENT_SEPARATOR"), (0, u "DIRECTIONALITY_WHITESPACE"), (0, u "DIRECTIONALITY_OTHER_NEUTRALS"), (0, u "DIRECTIONALITY_LEFT_TO_RIGHT_EMBEDDING"), (0, u "DIRECTIONALITY_LEFT_TO_RIGHT_OVERRIDE"), (0, u "DIRECTIONALITY_RIGHT_TO_LEFT_EMBEDDING"), (0, u "DIRECTIONALITY_RIGHT_TO_LEFT_OVERRIDE"), (1, u "DIRECTIONALITY_POP_DIRECTIONAL_FORMAT"), (0, u "DIRECTIONALITY_LEFT_TO_RIGHT_ISOLATE"), (0, u "DIRECTIONALITY_RIGHT_TO_LEFT_ISOLATE"), (0, u "DIRECTIONALITY_FIRST_STRONG_ISOLATE"), (0, u "DIRECTIONALITY_POP_DIRECTIONAL_ISOLATE"), (0, u "MIN_HIGH_SURROGATE"), (0, u "MAX_HIGH_SURROGATE"), (1, u "MIN_LOW_SURROGATE"), (0, u "MAX_LOW_SURROGATE"), (1, u "MIN_SURROGATE"), (0, u "MAX_SURROGATE"), (0, u "MIN_SUPPLEMENTARY_CODE_POINT"), (0, u "MIN_CODE_POINT"), (0, u "MAX_CODE_POINT"), (1, u "serialVersionUID"), (0, u "J"), (2, u "SIZE"), (0, u "BYTES"), (88, .class_ 596), (0, u "java/lang/Character$UnicodeScript"), (0, .class_ 598), (0, u "java/lang/Character$Subset")] 5

def k12c0 : Code := { maxStack := 2, maxLocals := 1, code := jdk_89_method_14_code, exceptionTable := #[], attributes := #[] }
def k12m0 : Method := { name := "isHighSurrogate", desc := "(C)Z", sig := { parameters := [.char], returnType := some .boolean }, accessFlags := 9, code := some k12c0 }
def k12c1 : Code := { maxStack := 2, maxLocals := 1, code := jdk_89_method_15_code, exceptionTable := #[], attributes := #[] }
def k12m1 : Method := { name := "isLowSurrogate", desc := "(C)Z", sig := { parameters := [.char], returnType := some .boolean }, accessFlags := 9, code := some k12c1 }
/-- java/lang/Character -/
def k12 : Class := { plain "java/lang/Character" (some 0) with
  accessFlags := 49
  interfaces := #[2, 3, 5]
  cf := some (fileOf pool12 1 #[.nestMembers #[48, 595, 307, 597]] #[{ accessFlags := 9, nameIndex := 80, descriptorIndex := 81, attributes := #[] }, { accessFlags := 9, nameIndex := 84, descriptorIndex := 81, attributes := #[] }] 49 42 #[385, 387, 389] #[{ accessFlags := 25, nameIndex := 391, descriptorIndex := 392, attributes := #[] }, { accessFlags := 25, nameIndex := 395, descriptorIndex := 392, attributes := #[] }, { accessFlags := 25, nameIndex := 397, descriptorIndex := 22, attributes := #[] }, { accessFlags := 25, nameIndex := 399, descriptorIndex := 22, attributes := #[] }, { accessFlags := 25, nameIndex := 383, descriptorIndex := 384, attributes := #[] }, { accessFlags := 25, nameIndex := 403, descriptorIndex := 404, attributes := #[] }, { accessFlags := 25, nameIndex := 405, descriptorIndex := 404, attributes := #[] }, { accessFlags := 25, nameIndex := 407, descriptorIndex := 404, attributes := #[] }, { accessFlags := 25, nameIndex := 408, descriptorIndex := 404, attributes := #[] }, { accessFlags := 25, nameIndex := 410, descriptorIndex := 404, attributes := #[] }, { accessFlags := 25, nameIndex := 412, descriptorIndex := 404, attributes := #[] }, { accessFlags := 25, nameIndex := 414, descriptorIndex := 404, attributes := #[] }, { accessFlags := 25, nameIndex := 416, descriptorIndex := 404, attributes := #[] }, { accessFlags := 25, nameIndex := 418, descriptorIndex := 404, attributes := #[] }, { accessFlags := 25, nameIndex := 420, descriptorIndex := 404, attributes := #[] }, { accessFlags := 25, nameIndex := 422, descriptorIndex := 404, attributes := #[] }, { accessFlags := 25, nameIndex := 424, descriptorIndex := 404, attributes := #[] }, { accessFlags := 25, nameIndex := 426, descriptorIndex := 404, attributes := #[] }, { accessFlags := 25, nameIndex := 428, descriptorIndex := 404, attributes := #[] }, { accessFlags := 25, nameIndex := 430, descriptorIndex := 404, attributes := #[] }, { accessFlags := 25, nameIndex := 432, descriptorIndex := 404, attributes := #[] }, { accessFlags := 25, nameIndex := 434, descriptorIndex := 404, attributes := #[] }, { accessFlags := 25, nameIndex := 436, descriptorIndex := 404, attributes := #[] }, { accessFlags := 25, nameIndex := 438, descriptorIndex := 404, attributes := #[] }, { accessFlags := 25, nameIndex := 440, descriptorIndex := 404, attributes := #[] }, { accessFlags := 25, nameIndex := 442, descriptorIndex := 404, attributes := #[] }, { accessFlags := 25, nameIndex := 444, descriptorIndex := 404, attributes := #[] }, { accessFlags := 25, nameIndex := 446, descriptorIndex := 404, attributes := #[] }, { accessFlags := 25, nameIndex := 448, descriptorIndex := 404, attributes := #[] }, { accessFlags := 25, nameIndex := 450, descriptorIndex := 404, attributes := #[] }, { accessFlags := 25, nameIndex := 452, descriptorIndex := 404, attributes := #[] }, { accessFlags := 25, nameIndex := 454, descriptorIndex := 404, attributes := #[] }, { accessFlags := 25, nameIndex := 456, descriptorIndex := 404, attributes := #[] }, { accessFlags := 25, nameIndex := 458, descriptorIndex := 404, attributes := #[] }, { accessFlags := 25, nameIndex := 460, descriptorIndex := 404, attributes := #[] }, { accessFlags := 24, nameIndex := 462, descriptorIndex := 392, attributes := #[] }, { accessFlags := 25, nameIndex := 464, descriptorIndex := 404, attributes := #[] }, { accessFlags := 25, nameIndex := 465, descriptorIndex := 404, attributes := #[] }, { accessFlags := 25, nameIndex := 466, descriptorIndex := 404, attributes := #[] }, { accessFlags := 25, nameIndex := 467, descriptorIndex := 404, attributes := #[] }, { accessFlags := 25, nameIndex := 468, descriptorIndex := 404, attributes := #[] }, { accessFlags := 25, nameIndex := 469, descriptorIndex := 404, attributes := #[] }, { accessFlags := 25, nameIndex := 470, descriptorIndex := 404, attributes := #[] }, { accessFlags := 25, nameIndex := 471, descriptorIndex := 404, attributes := #[] }, { accessFlags := 25, nameIndex := 472, descriptorIndex := 404, attributes := #[] }, { accessFlags := 25, nameIndex := 473, descriptorIndex := 404, attributes := #[] }, { accessFlags := 25, nameIndex := 474, descriptorIndex := 404, attributes := #[] }, { accessFlags := 25, nameIndex := 475, descriptorIndex := 404, attributes := #[] }, { accessFlags := 25, nameIndex := 476, descriptorIndex := 404, attributes := #[] }, { accessFlags := 25, nameIndex := 477, descriptorIndex := 404, attributes := #[] }, { accessFlags := 25, nameIndex := 478, descriptorIndex := 404, attributes := #[] }, { accessFlags := 25, nameIndex := 479, descriptorIndex := 404, attributes := #[] }, { accessFlags := 25, nameIndex := 480, descriptorIndex := 404, attributes := #[] }, { accessFlags := 25, nameIndex := 481, descriptorIndex := 404, attributes := #[] }, { accessFlags := 25, nameIndex := 482, descriptorIndex := 404, attributes := #[] }, { accessFlags := 25, nameIndex := 484, descriptorIndex := 404, attributes := #[] }, { accessFlags := 25, nameIndex := 485, descriptorIndex := 404, attributes := #[] }, { accessFlags := 25, nameIndex := 486, descriptorIndex := 404, attributes := #[] }, { accessFlags := 25, nameIndex := 487, descriptorIndex := 404, attributes := #[] }, { accessFlags := 25, nameIndex := 488, descriptorIndex := 404, attributes := #[] }, { accessFlags := 25, nameIndex := 489, descriptorIndex := 22, attributes := #[] }, { accessFlags := 25, nameIndex := 490, descriptorIndex := 22, attributes := #[] }, { accessFlags := 25, nameIndex := 492, descriptorIndex := 22, attributes := #[] }, { accessFlags := 25, nameIndex := 493, descriptorIndex := 22, attributes := #[] }, { accessFlags := 25, nameIndex := 495, descriptorIndex := 22, attributes := #[] }, { accessFlags := 25, nameIndex := 496, descriptorIndex := 22, attributes := #[] }, { accessFlags := 25, nameIndex := 497, descriptorIndex := 392, attributes := #[] }, { accessFlags := 25, nameIndex := 498, descriptorIndex := 392, attributes := #[] }, { accessFlags := 25, nameIndex := 499, descriptorIndex := 392, attributes := #[] }, { accessFlags := 18, nameIndex := 21, descriptorIndex := 22, attributes := #[] }, { accessFlags := 26, nameIndex := 501, descriptorIndex := 502, attributes := #[] }, { accessFlags := 25, nameIndex := 505, descriptorIndex := 392, attributes := #[] }, { accessFlags := 25, nameIndex := 506, descriptorIndex := 392, attributes := #[] }, { accessFlags := 4120, nameIndex := 284, descriptorIndex := 285, attributes := #[] }])
  fields := #[{ name := "MIN_RADIX", type := .int, accessFlags := 25, slot := 0, constantValue := 0 }, { name := "MAX_RADIX", type := .int, accessFlags := 25, slot := 1, constantValue := 0 }, { name := "MIN_VALUE", type := .char, accessFlags := 25, slot := 2, constantValue := 0 }, { name := "MAX_VALUE", type := .char, accessFlags := 25, slot := 3, constantValue := 0 }, { name := "TYPE", type := (.object "java/lang/Class"), accessFlags := 25, slot := 4, constantValue := 0 }, { name := "UNASSIGNED", type := .byte, accessFlags := 25, slot := 5, constantValue := 0 }, { name := "UPPERCASE_LETTER", type := .byte, accessFlags := 25, slot := 6, constantValue := 0 }, { name := "LOWERCASE_LETTER", type := .byte, accessFlags := 25, slot := 7, constantValue := 0 }, { name := "TITLECASE_LETTER", type := .byte, accessFlags := 25, slot := 8, constantValue := 0 }, { name := "MODIFIER_LETTER", type := .byte, accessFlags := 25, slot := 9, constantValue := 0 }, { name := "OTHER_LETTER", type := .byte, accessFlags := 25, slot := 10, constantValue := 0 }, { name := "NON_SPACING_MARK", type := .byte, accessFlags := 25, slot := 11, constantValue := 0 }, { name := "ENCLOSING_MARK", type := .byte, accessFlags := 25, slot := 12, constantValue := 0 }, { name := "COMBINING_SPACING_MARK", type := .byte, accessFlags := 25, slot := 13, constantValue := 0 }, { name := "DECIMAL_DIGIT_NUMBER", type := .byte, accessFlags := 25, slot := 14, constantValue := 0 }, { name := "LETTER_NUMBER", type := .byte, accessFlags := 25, slot := 15, constantValue := 0 }, { name := "OTHER_NUMBER", type := .byte, accessFlags := 25, slot := 16, constantValue := 0 }, { name := "SPACE_SEPARATOR", type := .byte, accessFlags := 25, slot := 17, constantValue := 0 }, { name := "LINE_SEPARATOR", type := .byte, accessFlags := 25, slot := 18, constantValue := 0 }, { name := "PARAGRAPH_SEPARATOR", type := .byte, accessFlags := 25, slot := 19, constantValue := 0 }, { name := "CONTROL", type := .byte, accessFlags := 25, slot := 20, constantValue := 0 }, { name := "FORMAT", type := .byte, accessFlags := 25, slot := 21, constantValue := 0 }, { name := "PRIVATE_USE", type := .byte, accessFlags := 25, slot := 22, constantValue := 0 }, { name := "SURROGATE", type := .byte, accessFlags := 25, slot := 23, constantValue := 0 }, { name := "DASH_PUNCTUATION", type := .byte, accessFlags := 25, slot := 24, constantValue := 0 }, { name := "START_PUNCTUATION", type := .byte, accessFlags := 25, slot := 25, constantValue := 0 }, { name := "END_PUNCTUATION", type := .byte, accessFlags := 25, slot := 26, constantValue := 0 }, { name := "CONNECTOR_PUNCTUATION", type := .byte, accessFlags := 25, slot := 27, constantValue := 0 }, { name := "OTHER_PUNCTUATION", type := .byte, accessFlags := 25, slot := 28, constantValue := 0 }, { name := "MATH_SYMBOL", type := .byte, accessFlags := 25, slot := 29, constantValue := 0 }, { name := "CURRENCY_SYMBOL", type := .byte, accessFlags := 25, slot := 30, constantValue := 0 }, { name := "MODIFIER_SYMBOL", type := .byte, accessFlags := 25, slot := 31, constantValue := 0 }, { name := "OTHER_SYMBOL", type := .byte, accessFlags := 25, slot := 32, constantValue := 0 }, { name := "INITIAL_QUOTE_PUNCTUATION", type := .byte, accessFlags := 25, slot := 33, constantValue := 0 }, { name := "FINAL_QUOTE_PUNCTUATION", type := .byte, accessFlags := 25, slot := 34, constantValue := 0 }, { name := "ERROR", type := .int, accessFlags := 24, slot := 35, constantValue := 0 }, { name := "DIRECTIONALITY_UNDEFINED", type := .byte, accessFlags := 25, slot := 36, constantValue := 0 }, { name := "DIRECTIONALITY_LEFT_TO_RIGHT", type := .byte, accessFlags := 25, slot := 37, constantValue := 0 }, { name := "DIRECTIONALITY_RIGHT_TO_LEFT", type := .byte, accessFlags := 25, slot := 38, constantValue := 0 }, { name := "DIRECTIONALITY_RIGHT_TO_LEFT_ARABIC", type := .byte, accessFlags := 25, slot := 39, constantValue := 0 }, { name := "DIRECTIONALITY_EUROPEAN_NUMBER", type := .byte, accessFlags := 25, slot := 40, constantValue := 0 }, { name := "DIRECTIONALITY_EUROPEAN_NUMBER_SEPARATOR", type := .byte, accessFlags := 25, slot := 41, constantValue := 0 }, { name := "DIRECTIONALITY_EUROPEAN_NUMBER_TERMINATOR", type := .byte, accessFlags := 25, slot := 42, constantValue := 0 }, { name := "DIRECTIONALITY_ARABIC_NUMBER", type := .byte, accessFlags := 25, slot := 43, constantValue := 0 }, { name := "DIRECTIONALITY_COMMON_NUMBER_SEPARATOR", type := .byte, accessFlags := 25, slot := 44, constantValue := 0 }, { name := "DIRECTIONALITY_NONSPACING_MARK", type := .byte, accessFlags := 25, slot := 45, constantValue := 0 }, { name := "DIRECTIONALITY_BOUNDARY_NEUTRAL", type := .byte, accessFlags := 25, slot := 46, constantValue := 0 }, { name := "DIRECTIONALITY_PARAGRAPH_SEPARATOR", type := .byte, accessFlags := 25, slot := 47, constantValue := 0 }, { name := "DIRECTIONALITY_SEGMENT_SEPARATOR", type := .byte, accessFlags := 25, slot := 48, constantValue := 0 }, { name := "DIRECTIONALITY_WHITESPACE", type := .byte, accessFlags := 25, slot := 49, constantValue := 0 }, { name := "DIRECTIONALITY_OTHER_NEUTRALS", type := .byte, accessFlags := 25, slot := 50, constantValue := 0 }, { name := "DIRECTIONALITY_LEFT_TO_RIGHT_EMBEDDING", type := .byte, accessFlags := 25, slot := 51, constantValue := 0 }, { name := "DIRECTIONALITY_LEFT_TO_RIGHT_OVERRIDE", type := .byte, accessFlags := 25, slot := 52, constantValue := 0 }, { name := "DIRECTIONALITY_RIGHT_TO_LEFT_EMBEDDING", type := .byte, accessFlags := 25, slot := 53, constantValue := 0 }, { name := "DIRECTIONALITY_RIGHT_TO_LEFT_OVERRIDE", type := .byte, accessFlags := 25, slot := 54, constantValue := 0 }, { name := "DIRECTIONALITY_POP_DIRECTIONAL_FORMAT", type := .byte, accessFlags := 25, slot := 55, constantValue := 0 }, { name := "DIRECTIONALITY_LEFT_TO_RIGHT_ISOLATE", type := .byte, accessFlags := 25, slot := 56, constantValue := 0 }, { name := "DIRECTIONALITY_RIGHT_TO_LEFT_ISOLATE", type := .byte, accessFlags := 25, slot := 57, constantValue := 0 }, { name := "DIRECTIONALITY_FIRST_STRONG_ISOLATE", type := .byte, accessFlags := 25, slot := 58, constantValue := 0 }, { name := "DIRECTIONALITY_POP_DIRECTIONAL_ISOLATE", type := .byte, accessFlags := 25, slot := 59, constantValue := 0 }, { name := "MIN_HIGH_SURROGATE", type := .char, accessFlags := 25, slot := 60, constantValue := 0 }, { name := "MAX_HIGH_SURROGATE", type := .char, accessFlags := 25, slot := 61, constantValue := 0 }, { name := "MIN_LOW_SURROGATE", type := .char, accessFlags := 25, slot := 62, constantValue := 0 }, { name := "MAX_LOW_SURROGATE", type := .char, accessFlags := 25, slot := 63, constantValue := 0 }, { name := "MIN_SURROGATE", type := .char, accessFlags := 25, slot := 64, constantValue := 0 }, { name := "MAX_SURROGATE", type := .char, accessFlags := 25, slot := 65, constantValue := 0 }, { name := "MIN_SUPPLEMENTARY_CODE_POINT", type := .int, accessFlags := 25, slot := 66, constantValue := 0 }, { name := "MIN_CODE_POINT", type := .int, accessFlags := 25, slot := 67, constantValue := 0 }, { name := "MAX_CODE_POINT", type := .int, accessFlags := 25, slot := 68, constantValue := 0 }, { name := "value", type := .char, accessFlags := 18, slot := 0, constantValue := 0 }, { name := "serialVersionUID", type := .long, accessFlags := 26, slot := 69, constantValue := 0 }, { name := "SIZE", type := .int, accessFlags := 25, slot := 70, constantValue := 0 }, { name := "BYTES", type := .int, accessFlags := 25, slot := 71, constantValue := 0 }, { name := "$assertionsDisabled", type := .boolean, accessFlags := 4120, slot := 72, constantValue := 0 }]
  methods := #[k12m0, k12m1]
  instanceTypes := #[.char]
  staticTypes := #[.int, .int, .char, .char, (.object "java/lang/Class"), .byte, .byte, .byte, .byte, .byte, .byte, .byte, .byte, .byte, .byte, .byte, .byte, .byte, .byte, .byte, .byte, .byte, .byte, .byte, .byte, .byte, .byte, .byte, .byte, .byte, .byte, .byte, .byte, .byte, .byte, .int, .byte, .byte, .byte, .byte, .byte, .byte, .byte, .byte, .byte, .byte, .byte, .byte, .byte, .byte, .byte, .byte, .byte, .byte, .byte, .byte, .byte, .byte, .byte, .byte, .char, .char, .char, .char, .char, .char, .int, .int, .int, .long, .int, .int, .boolean]
  resolved := Array.replicate 604 none
  statics := none }

def pool13 : Array CpInfo := pool [(4, .class_ 6), (1, u "java/lang/Object"), (0, u "<init>"), (0, u "()V"), (5, .class_ 16), (1, u "java/lang/StringLatin1"), (104, u "$assertionsDisabled"), (0, u "Z"), (98, .class_ 223), (1, u "java/lang/StringLatin1$LinesSpliterator"), (166, .class_ 391), (0, u "java/lang/StringLatin1$CharsSpliterator")] 3

def k13m0 : Method := { name := "<init>", desc := "()V", sig := { parameters := [], returnType := none }, accessFlags := 0, code := none }
/-- java/lang/StringLatin1 -/
def k13 : Class := { plain "java/lang/StringLatin1" (some 0) with
  accessFlags := 48
  interfaces := #[]
  cf := some (fileOf pool13 14 #[.nestMembers #[390, 221]] #[{ accessFlags := 0, nameIndex := 7, descriptorIndex := 8, attributes := #[] }] 48 4 #[] #[{ accessFlags := 4120, nameIndex := 121, descriptorIndex := 122, attributes := #[] }])
  fields := #[{ name := "$assertionsDisabled", type := .boolean, accessFlags := 4120, slot := 0, constantValue := 0 }]
  methods := #[k13m0]
  instanceTypes := #[]
  staticTypes := #[.boolean]
  resolved := Array.replicate 395 none
  statics := none }

def pool14 : Array CpInfo := pool [(9, u "<init>"), (6, .class_ 18), (1, u "java/lang/Object"), (0, u "()V"), (1, .class_ 23), (1, u "jdk/internal/util/ArraysSupport"), (0, u "LOG2_ARRAY_LONG_INDEX_SCALE"), (0, u "I"), (2, u "U"), (0, u "Ljdk/internal/misc/Unsafe;"), (8, u "BIG_ENDIAN"), (0, u "Z"), (8, u "LOG2_BYTE_BIT_SIZE"), (4, u "LOG2_ARRAY_INT_INDEX_SCALE"), (54, u "JLA"), (0, u "Ljdk/internal/access/JavaLangAccess;"), (11, u "LOG2_ARRAY_BOOLEAN_INDEX_SCALE"), (9, u "LOG2_ARRAY_BYTE_INDEX_SCALE"), (5, u "LOG2_ARRAY_CHAR_INDEX_SCALE"), (5, u "LOG2_ARRAY_SHORT_INDEX_SCALE"), (18, u "LOG2_ARRAY_FLOAT_INDEX_SCALE"), (24, u "LOG2_ARRAY_DOUBLE_INDEX_SCALE"), (89, u "T_BOOLEAN"), (2, u "T_CHAR"), (1, u "T_FLOAT"), (1, u "T_DOUBLE"), (1, u "T_BYTE"), (1, u "T_SHORT"), (1, u "T_INT"), (1, u "T_LONG"), (1, u "SOFT_MAX_ARRAY_LENGTH")] 83

def k14m0 : Method := { name := "<init>", desc := "()V", sig := { parameters := [], returnType := none }, accessFlags := 2, code := none }
/-- jdk/internal/util/ArraysSupport -/
def k14 : Class := { plain "jdk/internal/util/ArraysSupport" (some 0) with
  accessFlags := 33
  interfaces := #[]
  cf := some (fileOf pool14 21 #[] #[{ accessFlags := 2, nameIndex := 9, descriptorIndex := 19, attributes := #[] }] 33 16 #[] #[{ accessFlags := 24, nameIndex := 28, descriptorIndex := 29, attributes := #[] }, { accessFlags := 26, nameIndex := 38, descriptorIndex := 39, attributes := #[] }, { accessFlags := 25, nameIndex := 121, descriptorIndex := 25, attributes := #[] }, { accessFlags := 25, nameIndex := 131, descriptorIndex := 25, attributes := #[] }, { accessFlags := 25, nameIndex := 137, descriptorIndex := 25, attributes := #[] }, { accessFlags := 25, nameIndex := 143, descriptorIndex := 25, attributes := #[] }, { accessFlags := 25, nameIndex := 53, descriptorIndex := 25, attributes := #[] }, { accessFlags := 25, nameIndex := 24, descriptorIndex := 25, attributes := #[] }, { accessFlags := 25, nameIndex := 162, descriptorIndex := 25, attributes := #[] }, { accessFlags := 25, nameIndex := 187, descriptorIndex := 25, attributes := #[] }, { accessFlags := 26, nameIndex := 48, descriptorIndex := 25, attributes := #[] }, { accessFlags := 25, nameIndex := 277, descriptorIndex := 25, attributes := #[] }, { accessFlags := 25, nameIndex := 280, descriptorIndex := 25, attributes := #[] }, { accessFlags := 25, nameIndex := 282, descriptorIndex := 25, attributes := #[] }, { accessFlags := 25, nameIndex := 284, descriptorIndex := 25, attributes := #[] }, { accessFlags := 25, nameIndex := 286, descriptorIndex := 25, attributes := #[] }, { accessFlags := 25, nameIndex := 288, descriptorIndex := 25, attributes := #[] }, { accessFlags := 25, nameIndex := 290, descriptorIndex := 25, attributes := #[] }, { accessFlags := 25, nameIndex := 292, descriptorIndex := 25, attributes := #[] }, { accessFlags := 26, nameIndex := 108, descriptorIndex := 109, attributes := #[] }, { accessFlags := 25, nameIndex := 294, descriptorIndex := 25, attributes := #[] }])
  fields := #[{ name := "U", type := (.object "jdk/internal/misc/Unsafe"), accessFlags := 24, slot := 0, constantValue := 0 }, { name := "BIG_ENDIAN", type := .boolean, accessFlags := 26, slot := 1, constantValue := 0 }, { name := "LOG2_ARRAY_BOOLEAN_INDEX_SCALE", type := .int, accessFlags := 25, slot := 2, constantValue := 0 }, { name := "LOG2_ARRAY_BYTE_INDEX_SCALE", type := .int, accessFlags := 25, slot := 3, constantValue := 0 }, { name := "LOG2_ARRAY_CHAR_INDEX_SCALE", type := .int, accessFlags := 25, slot := 4, constantValue := 0 }, { name := "LOG2_ARRAY_SHORT_INDEX_SCALE", type := .int, accessFlags := 25, slot := 5, constantValue := 0 }, { name := "LOG2_ARRAY_INT_INDEX_SCALE", type := .int, accessFlags := 25, slot := 6, constantValue := 0 }, { name := "LOG2_ARRAY_LONG_INDEX_SCALE", type := .int, accessFlags := 25, slot := 7, constantValue := 0 }, { name := "LOG2_ARRAY_FLOAT_INDEX_SCALE", type := .int, accessFlags := 25, slot := 8, constantValue := 0 }, { name := "LOG2_ARRAY_DOUBLE_INDEX_SCALE", type := .int, accessFlags := 25, slot := 9, constantValue := 0 }, { name := "LOG2_BYTE_BIT_SIZE", type := .int, accessFlags := 26, slot := 10, constantValue := 0 }, { name := "T_BOOLEAN", type := .int, accessFlags := 25, slot := 11, constantValue := 0 }, { name := "T_CHAR", type := .int, accessFlags := 25, slot := 12, constantValue := 0 }, { name := "T_FLOAT", type := .int, accessFlags := 25, slot := 13, constantValue := 0 }, { name := "T_DOUBLE", type := .int, accessFlags := 25, slot := 14, constantValue := 0 }, { name := "T_BYTE", type := .int, accessFlags := 25, slot := 15, constantValue := 0 }, { name := "T_SHORT", type := .int, accessFlags := 25, slot := 16, constantValue := 0 }, { name := "T_INT", type := .int, accessFlags := 25, slot := 17, constantValue := 0 }, { name := "T_LONG", type := .int, accessFlags := 25, slot := 18, constantValue := 0 }, { name := "JLA", type := (.object "jdk/internal/access/JavaLangAccess"), accessFlags := 26, slot := 19, constantValue := 0 }, { name := "SOFT_MAX_ARRAY_LENGTH", type := .int, accessFlags := 25, slot := 20, constantValue := 0 }]
  methods := #[k14m0]
  instanceTypes := #[]
  staticTypes := #[(.object "jdk/internal/misc/Unsafe"), .boolean, .int, .int, .int, .int, .int, .int, .int, .int, .int, .int, .int, .int, .int, .int, .int, .int, .int, (.object "jdk/internal/access/JavaLangAccess"), .int]
  resolved := Array.replicate 378 none
  statics := none }

def pool15 : Array CpInfo := pool [(1, u "java/lang/Cloneable"), (0, .class_ 1), (0, u "java/lang/Object"), (0, .class_ 3)] 3

/-- java/lang/Cloneable -/
def k15 : Class := { plain "java/lang/Cloneable" (some 0) with
  accessFlags := 1537
  interfaces := #[]
  cf := some (fileOf pool15 2 #[] #[] 1537 4 #[] #[])
  fields := #[]
  methods := #[]
  instanceTypes := #[]
  staticTypes := #[]
  resolved := Array.replicate 8 none
  statics := none }

/-- the primitive byte -/
def k16 : Class := { plain "byte" none with kind := .primitive 'B', accessFlags := 0x411 }
/-- [B -/
def k17 : Class := { plain "[B" (some 0) with kind := .array 16 .byte, interfaces := #[15, 2], accessFlags := 1041 }

/-- the primitive char -/
def k18 : Class := { plain "char" none with kind := .primitive 'C', accessFlags := 0x411 }
/-- [C -/
def k19 : Class := { plain "[C" (some 0) with kind := .array 18 .char, interfaces := #[15, 2], accessFlags := 1041 }

/-- the primitive int -/
def k20 : Class := { plain "int" none with kind := .primitive 'I', accessFlags := 0x411 }
/-- [I -/
def k21 : Class := { plain "[I" (some 0) with kind := .array 20 .int, interfaces := #[15, 2], accessFlags := 1041 }

def heap : Heap := #[{ cls := 7, slots := #[.long 0, .int 1, .null, .int 0, .null, .int 0, .int 0], vm := .statics 7 },
  { cls := 10, slots := #[.null, .null, .null], vm := .statics 10 },
  { cls := 11, slots := #[.int 0, .int 8, .int 0, .int 1], vm := .statics 11 }]
def classes : Array Class := #[k0, k1, k2, k3, k4, k5, k6, k7, k8, k9, k10, k11, k12, k13, k14, k15, k16, k17, k18, k19, k20, k21]
def interned : List (Array UInt16 × Addr) := []
def slotsUsed : Nat := 14
def theMethod : MethodId := ⟨1, 1⟩
def args0 : Array Value := #[.int 2, .int 5, .int 6, .int 0, .int 0, .int 3]
def aboutOver (below : List Frame) : State where
  vm := { classes := classes, interned := interned.toArray }
  heap := heap
  slotsUsed := slotsUsed
  threads := #[{ frames := .invoking theMethod args0 :: below }]
def below0 : List Frame := [.native { method := ⟨0, 0⟩, args := #[] }]
def about1 : State := aboutOver below0
def p0 : Program := .bare "" "" ""
def e0 : Env := launch0.env 0 0 0
theorem w_frames : about1.frames = Frame.invoking theMethod args0 :: below0 := rfl
set_option maxRecDepth 65536 in
theorem w_args : argsFit about1.vm theMethod args0 = true := by decide +kernel
set_option maxRecDepth 65536 in
theorem w_heap : heapFits about1 = true := by decide +kernel
set_option maxRecDepth 65536 in
theorem w_runnable : about1.curStatus? = some .runnable := by decide +kernel
set_option maxRecDepth 65536 in
theorem w_alone : about1.alone = true := by decide +kernel
set_option maxRecDepth 65536 in
theorem w_named : about1.methodNamed? x = some theMethod := by decide +kernel
set_option maxRecDepth 65536 in
theorem w_hears : about1.hears theMethod below0 = true := by decide +kernel
set_option maxRecDepth 65536 in
theorem w_ripe : about1.ripe theMethod args0 below0 = true := by decide +kernel
theorem w_running : about1.status = .running := rfl
set_option maxRecDepth 65536 in
theorem w_room : about1.hasRoom e0.platform room_1 = true :=
  launch0.hasRoom_least _ room_1 (by decide +kernel) (by decide +kernel) (by decide +kernel) (by decide +kernel) (by decide +kernel) (by decide +kernel)
theorem allAtoms_all (ts : List Jvm.Cond) (a : Array Jvm.Value) (st : Jvm.State) : (allAtoms ts).before a st = ts.all (fun c => c.before a st) := by
  induction ts with
  | nil => rfl
  | cons c t ih =>
    show (Jvm.Cond.and c (allAtoms t)).before a st = _
    rw [Jvm.Cond.before_and, ih, List.all_cons]
def words1 : List Jvm.Cond := Jvm.Cond.code x code maxLocals ret :: tables_1
/-- a 'code' word, met by the world's own term for the bytes: nothing is compared byte by byte -/
theorem code_word {y : MethodName} {bytes : ByteArray} {mx : Nat} {rt : Option FieldType} {a : Array Value} {s : State} {m : MethodId} {meth : Method} {c : Code} (h1 : s.methodNamed? y = some m) (h2 : s.vm.method? m = some meth) (h3 : meth.code = some c) (h4 : c.code = bytes)
    (h5 : (c.maxLocals == mx && c.exceptionTable.isEmpty && decide (c.maxStack ≤ mostOperands) && decide (meth.sig.returnType = rt) && !meth.locks && decide (parseMethodDescriptor y.desc = some meth.sig)) = true) : (Jvm.Cond.code y bytes mx rt).before a s = true := by
  simp only [Bool.and_eq_true, beq_iff_eq, Bool.not_eq_true', decide_eq_true_eq] at h5
  obtain ⟨⟨⟨⟨⟨g1, g2⟩, g3⟩, g4⟩, g5⟩, g6⟩ := h5
  simp [Cond.before, Cond.holds, Cond.value, h1, h2, h3, h4, g1, g2, g3, g4, g5, g6]
def isCode : Jvm.Cond → Bool
  | .code _ _ _ _ => true
  | _ => false
theorem all_split {L : List Jvm.Cond} {P : Jvm.Cond → Bool} (h1 : L.all (fun c => isCode c || P c) = true) (h2 : ∀ c ∈ L.filter isCode, P c = true) : L.all P = true := by
  refine List.all_eq_true.mpr fun c hc => ?_
  have h := List.all_eq_true.mp h1 c hc
  rcases Bool.eq_false_or_eq_true (isCode c) with hi | hi
  · exact h2 c (List.mem_filter.mpr ⟨hc, hi⟩)
  · simpa [hi] using h
set_option maxRecDepth 65536 in
theorem w_c0 : (Jvm.Cond.code x code maxLocals ret).before args0 about1 = true := code_word (m := ⟨1, 1⟩) (meth := k1m1) (c := k1c1) (by decide +kernel) rfl rfl rfl (by decide +kernel)
set_option maxRecDepth 65536 in
theorem w_c1 : (Jvm.Cond.code ({ cls := "com/example/daftar/daftar/model/CharactersIsOneToPinLaw", name := "draw", desc := "(I)C" } : Jvm.MethodName) method_3_code (3 : Nat) (Option.some Jvm.ClassFile.FieldType.char)).before args0 about1 = true := code_word (m := ⟨1, 2⟩) (meth := k1m2) (c := k1c2) (by decide +kernel) rfl rfl rfl (by decide +kernel)
set_option maxRecDepth 65536 in
theorem w_c2 : (Jvm.Cond.code ({ cls := "java/lang/String", name := "<init>", desc := "([C)V" } : Jvm.MethodName) jdk_42_method_3_code (2 : Nat) (Option.none : Option Jvm.ClassFile.FieldType)).before args0 about1 = true := code_word (m := ⟨7, 1⟩) (meth := k7m1) (c := k7c1) (by decide +kernel) rfl rfl rfl (by decide +kernel)
set_option maxRecDepth 65536 in
theorem w_c3 : (Jvm.Cond.code ({ cls := "java/lang/String", name := "<init>", desc := "([CIILjava/lang/Void;)V" } : Jvm.MethodName) jdk_42_method_149_code (6 : Nat) (Option.none : Option Jvm.ClassFile.FieldType)).before args0 about1 = true := code_word (m := ⟨7, 4⟩) (meth := k7m4) (c := k7c4) (by decide +kernel) rfl rfl rfl (by decide +kernel)
set_option maxRecDepth 65536 in
theorem w_c4 : (Jvm.Cond.code ({ cls := "java/lang/Object", name := "<init>", desc := "()V" } : Jvm.MethodName) object_method_1_code (1 : Nat) (Option.none : Option Jvm.ClassFile.FieldType)).before args0 about1 = true := code_word (m := ⟨0, 0⟩) (meth := k0m0) (c := k0c0) (by decide +kernel) rfl rfl rfl (by decide +kernel)
set_option maxRecDepth 65536 in
theorem w_c5 : (Jvm.Cond.code ({ cls := "com/example/daftar/daftar/model/Characters", name := "isOneTo", desc := "(Ljava/lang/String;I)Z" } : Jvm.MethodName) prog_21_method_5_code (3 : Nat) (Option.some Jvm.ClassFile.FieldType.boolean)).before args0 about1 = true := code_word (m := ⟨8, 1⟩) (meth := k8m1) (c := k8c1) (by decide +kernel) rfl rfl rfl (by decide +kernel)
set_option maxRecDepth 65536 in
theorem w_c6 : (Jvm.Cond.code ({ cls := "java/lang/String", name := "length", desc := "()I" } : Jvm.MethodName) jdk_42_method_54_code (1 : Nat) (Option.some Jvm.ClassFile.FieldType.int)).before args0 about1 = true := code_word (m := ⟨7, 2⟩) (meth := k7m2) (c := k7c2) (by decide +kernel) rfl rfl rfl (by decide +kernel)
set_option maxRecDepth 65536 in
theorem w_c7 : (Jvm.Cond.code ({ cls := "java/lang/String", name := "coder", desc := "()B" } : Jvm.MethodName) jdk_42_method_152_code (1 : Nat) (Option.some Jvm.ClassFile.FieldType.byte)).before args0 about1 = true := code_word (m := ⟨7, 5⟩) (meth := k7m5) (c := k7c5) (by decide +kernel) rfl rfl rfl (by decide +kernel)
set_option maxRecDepth 65536 in
theorem w_c8 : (Jvm.Cond.code ({ cls := "java/lang/String", name := "codePointCount", desc := "(II)I" } : Jvm.MethodName) jdk_42_method_59_code (3 : Nat) (Option.some Jvm.ClassFile.FieldType.int)).before args0 about1 = true := code_word (m := ⟨7, 3⟩) (meth := k7m3) (c := k7c3) (by decide +kernel) rfl rfl rfl (by decide +kernel)
set_option maxRecDepth 65536 in
theorem w_c9 : (Jvm.Cond.code ({ cls := "java/util/Objects", name := "checkFromToIndex", desc := "(III)I" } : Jvm.MethodName) jdk_31_method_18_code (3 : Nat) (Option.some Jvm.ClassFile.FieldType.int)).before args0 about1 = true := code_word (m := ⟨9, 1⟩) (meth := k9m1) (c := k9c1) (by decide +kernel) rfl rfl rfl (by decide +kernel)
set_option maxRecDepth 65536 in
theorem w_c10 : (Jvm.Cond.code ({ cls := "jdk/internal/util/Preconditions", name := "checkFromToIndex", desc := "(IIILjava/util/function/BiFunction;)I" } : Jvm.MethodName) jdk_41_method_12_code (4 : Nat) (Option.some Jvm.ClassFile.FieldType.int)).before args0 about1 = true := code_word (m := ⟨10, 1⟩) (meth := k10m1) (c := k10c1) (by decide +kernel) rfl rfl rfl (by decide +kernel)
set_option maxRecDepth 65536 in
theorem w_c11 : (Jvm.Cond.code ({ cls := "java/lang/String", name := "isLatin1", desc := "()Z" } : Jvm.MethodName) jdk_42_method_154_code (1 : Nat) (Option.some Jvm.ClassFile.FieldType.boolean)).before args0 about1 = true := code_word (m := ⟨7, 6⟩) (meth := k7m6) (c := k7c6) (by decide +kernel) rfl rfl rfl (by decide +kernel)
set_option maxRecDepth 65536 in
theorem w_c12 : (Jvm.Cond.code ({ cls := "java/lang/StringUTF16", name := "compress", desc := "([CII)[B" } : Jvm.MethodName) jdk_52_method_16_code (6 : Nat) (Option.some (Jvm.ClassFile.FieldType.array Jvm.ClassFile.FieldType.byte))).before args0 about1 = true := code_word (m := ⟨11, 9⟩) (meth := k11m9) (c := k11c9) (by decide +kernel) rfl rfl rfl (by decide +kernel)
set_option maxRecDepth 65536 in
theorem w_c13 : (Jvm.Cond.code ({ cls := "java/lang/StringUTF16", name := "compress", desc := "([CI[BII)I" } : Jvm.MethodName) jdk_52_method_21_code (7 : Nat) (Option.some Jvm.ClassFile.FieldType.int)).before args0 about1 = true := code_word (m := ⟨11, 10⟩) (meth := k11m10) (c := k11c10) (by decide +kernel) rfl rfl rfl (by decide +kernel)
set_option maxRecDepth 65536 in
theorem w_c14 : (Jvm.Cond.code ({ cls := "java/lang/StringUTF16", name := "toBytes", desc := "([CII)[B" } : Jvm.MethodName) jdk_52_method_14_code (5 : Nat) (Option.some (Jvm.ClassFile.FieldType.array Jvm.ClassFile.FieldType.byte))).before args0 about1 = true := code_word (m := ⟨11, 7⟩) (meth := k11m7) (c := k11c7) (by decide +kernel) rfl rfl rfl (by decide +kernel)
set_option maxRecDepth 65536 in
theorem w_c15 : (Jvm.Cond.code ({ cls := "java/lang/StringUTF16", name := "newBytesFor", desc := "(I)[B" } : Jvm.MethodName) jdk_52_method_2_code (1 : Nat) (Option.some (Jvm.ClassFile.FieldType.array Jvm.ClassFile.FieldType.byte))).before args0 about1 = true := code_word (m := ⟨11, 1⟩) (meth := k11m1) (c := k11c1) (by decide +kernel) rfl rfl rfl (by decide +kernel)
set_option maxRecDepth 65536 in
theorem w_c16 : (Jvm.Cond.code ({ cls := "java/lang/StringUTF16", name := "newBytesLength", desc := "(I)I" } : Jvm.MethodName) jdk_52_method_3_code (1 : Nat) (Option.some Jvm.ClassFile.FieldType.int)).before args0 about1 = true := code_word (m := ⟨11, 2⟩) (meth := k11m2) (c := k11c2) (by decide +kernel) rfl rfl rfl (by decide +kernel)
set_option maxRecDepth 65536 in
theorem w_c17 : (Jvm.Cond.code ({ cls := "java/lang/StringUTF16", name := "putChar", desc := "([BII)V" } : Jvm.MethodName) jdk_52_method_4_code (3 : Nat) (Option.none : Option Jvm.ClassFile.FieldType)).before args0 about1 = true := code_word (m := ⟨11, 3⟩) (meth := k11m3) (c := k11c3) (by decide +kernel) rfl rfl rfl (by decide +kernel)
set_option maxRecDepth 65536 in
theorem w_c18 : (Jvm.Cond.code ({ cls := "java/lang/StringUTF16", name := "getChar", desc := "([BI)C" } : Jvm.MethodName) jdk_52_method_5_code (2 : Nat) (Option.some Jvm.ClassFile.FieldType.char)).before args0 about1 = true := code_word (m := ⟨11, 4⟩) (meth := k11m4) (c := k11c4) (by decide +kernel) rfl rfl rfl (by decide +kernel)
set_option maxRecDepth 65536 in
theorem w_c19 : (Jvm.Cond.code ({ cls := "java/lang/StringUTF16", name := "coderFromArrayLen", desc := "([BI)B" } : Jvm.MethodName) jdk_52_method_15_code (2 : Nat) (Option.some Jvm.ClassFile.FieldType.byte)).before args0 about1 = true := code_word (m := ⟨11, 8⟩) (meth := k11m8) (c := k11c8) (by decide +kernel) rfl rfl rfl (by decide +kernel)
set_option maxRecDepth 65536 in
theorem w_c20 : (Jvm.Cond.code ({ cls := "com/example/daftar/daftar/model/CharactersIsOneToPinLaw", name := "hi", desc := "(C)Z" } : Jvm.MethodName) method_4_code (1 : Nat) (Option.some Jvm.ClassFile.FieldType.boolean)).before args0 about1 = true := code_word (m := ⟨1, 3⟩) (meth := k1m3) (c := k1c3) (by decide +kernel) rfl rfl rfl (by decide +kernel)
set_option maxRecDepth 65536 in
theorem w_c21 : (Jvm.Cond.code ({ cls := "java/lang/StringUTF16", name := "codePointCount", desc := "([BII)I" } : Jvm.MethodName) jdk_52_method_12_code (3 : Nat) (Option.some Jvm.ClassFile.FieldType.int)).before args0 about1 = true := code_word (m := ⟨11, 6⟩) (meth := k11m6) (c := k11c6) (by decide +kernel) rfl rfl rfl (by decide +kernel)
set_option maxRecDepth 65536 in
theorem w_c22 : (Jvm.Cond.code ({ cls := "java/lang/StringUTF16", name := "codePointCount", desc := "([BIIZ)I" } : Jvm.MethodName) jdk_52_method_11_code (6 : Nat) (Option.some Jvm.ClassFile.FieldType.int)).before args0 about1 = true := code_word (m := ⟨11, 5⟩) (meth := k11m5) (c := k11c5) (by decide +kernel) rfl rfl rfl (by decide +kernel)
set_option maxRecDepth 65536 in
theorem w_c23 : (Jvm.Cond.code ({ cls := "java/lang/Character", name := "isHighSurrogate", desc := "(C)Z" } : Jvm.MethodName) jdk_89_method_14_code (1 : Nat) (Option.some Jvm.ClassFile.FieldType.boolean)).before args0 about1 = true := code_word (m := ⟨12, 0⟩) (meth := k12m0) (c := k12c0) (by decide +kernel) rfl rfl rfl (by decide +kernel)
set_option maxRecDepth 65536 in
theorem w_c24 : (Jvm.Cond.code ({ cls := "com/example/daftar/daftar/model/CharactersIsOneToPinLaw", name := "lo", desc := "(C)Z" } : Jvm.MethodName) method_5_code (1 : Nat) (Option.some Jvm.ClassFile.FieldType.boolean)).before args0 about1 = true := code_word (m := ⟨1, 4⟩) (meth := k1m4) (c := k1c4) (by decide +kernel) rfl rfl rfl (by decide +kernel)
set_option maxRecDepth 65536 in
theorem w_c25 : (Jvm.Cond.code ({ cls := "java/lang/Character", name := "isLowSurrogate", desc := "(C)Z" } : Jvm.MethodName) jdk_89_method_15_code (1 : Nat) (Option.some Jvm.ClassFile.FieldType.boolean)).before args0 about1 = true := code_word (m := ⟨12, 1⟩) (meth := k12m1) (c := k12c1) (by decide +kernel) rfl rfl rfl (by decide +kernel)
def codes1 : List Jvm.Cond := [Jvm.Cond.code x code maxLocals ret, Jvm.Cond.code ({ cls := "com/example/daftar/daftar/model/CharactersIsOneToPinLaw", name := "draw", desc := "(I)C" } : Jvm.MethodName) method_3_code (3 : Nat) (Option.some Jvm.ClassFile.FieldType.char), Jvm.Cond.code ({ cls := "java/lang/String", name := "<init>", desc := "([C)V" } : Jvm.MethodName) jdk_42_method_3_code (2 : Nat) (Option.none : Option Jvm.ClassFile.FieldType), Jvm.Cond.code ({ cls := "java/lang/String", name := "<init>", desc := "([CIILjava/lang/Void;)V" } : Jvm.MethodName) jdk_42_method_149_code (6 : Nat) (Option.none : Option Jvm.ClassFile.FieldType), Jvm.Cond.code ({ cls := "java/lang/Object", name := "<init>", desc := "()V" } : Jvm.MethodName) object_method_1_code (1 : Nat) (Option.none : Option Jvm.ClassFile.FieldType), Jvm.Cond.code ({ cls := "com/example/daftar/daftar/model/Characters", name := "isOneTo", desc := "(Ljava/lang/String;I)Z" } : Jvm.MethodName) prog_21_method_5_code (3 : Nat) (Option.some Jvm.ClassFile.FieldType.boolean), Jvm.Cond.code ({ cls := "java/lang/String", name := "length", desc := "()I" } : Jvm.MethodName) jdk_42_method_54_code (1 : Nat) (Option.some Jvm.ClassFile.FieldType.int), Jvm.Cond.code ({ cls := "java/lang/String", name := "coder", desc := "()B" } : Jvm.MethodName) jdk_42_method_152_code (1 : Nat) (Option.some Jvm.ClassFile.FieldType.byte), Jvm.Cond.code ({ cls := "java/lang/String", name := "codePointCount", desc := "(II)I" } : Jvm.MethodName) jdk_42_method_59_code (3 : Nat) (Option.some Jvm.ClassFile.FieldType.int), Jvm.Cond.code ({ cls := "java/util/Objects", name := "checkFromToIndex", desc := "(III)I" } : Jvm.MethodName) jdk_31_method_18_code (3 : Nat) (Option.some Jvm.ClassFile.FieldType.int), Jvm.Cond.code ({ cls := "jdk/internal/util/Preconditions", name := "checkFromToIndex", desc := "(IIILjava/util/function/BiFunction;)I" } : Jvm.MethodName) jdk_41_method_12_code (4 : Nat) (Option.some Jvm.ClassFile.FieldType.int), Jvm.Cond.code ({ cls := "java/lang/String", name := "isLatin1", desc := "()Z" } : Jvm.MethodName) jdk_42_method_154_code (1 : Nat) (Option.some Jvm.ClassFile.FieldType.boolean), Jvm.Cond.code ({ cls := "java/lang/StringUTF16", name := "compress", desc := "([CII)[B" } : Jvm.MethodName) jdk_52_method_16_code (6 : Nat) (Option.some (Jvm.ClassFile.FieldType.array Jvm.ClassFile.FieldType.byte)), Jvm.Cond.code ({ cls := "java/lang/StringUTF16", name := "compress", desc := "([CI[BII)I" } : Jvm.MethodName) jdk_52_method_21_code (7 : Nat) (Option.some Jvm.ClassFile.FieldType.int), Jvm.Cond.code ({ cls := "java/lang/StringUTF16", name := "toBytes", desc := "([CII)[B" } : Jvm.MethodName) jdk_52_method_14_code (5 : Nat) (Option.some (Jvm.ClassFile.FieldType.array Jvm.ClassFile.FieldType.byte)), Jvm.Cond.code ({ cls := "java/lang/StringUTF16", name := "newBytesFor", desc := "(I)[B" } : Jvm.MethodName) jdk_52_method_2_code (1 : Nat) (Option.some (Jvm.ClassFile.FieldType.array Jvm.ClassFile.FieldType.byte)), Jvm.Cond.code ({ cls := "java/lang/StringUTF16", name := "newBytesLength", desc := "(I)I" } : Jvm.MethodName) jdk_52_method_3_code (1 : Nat) (Option.some Jvm.ClassFile.FieldType.int), Jvm.Cond.code ({ cls := "java/lang/StringUTF16", name := "putChar", desc := "([BII)V" } : Jvm.MethodName) jdk_52_method_4_code (3 : Nat) (Option.none : Option Jvm.ClassFile.FieldType), Jvm.Cond.code ({ cls := "java/lang/StringUTF16", name := "getChar", desc := "([BI)C" } : Jvm.MethodName) jdk_52_method_5_code (2 : Nat) (Option.some Jvm.ClassFile.FieldType.char), Jvm.Cond.code ({ cls := "java/lang/StringUTF16", name := "coderFromArrayLen", desc := "([BI)B" } : Jvm.MethodName) jdk_52_method_15_code (2 : Nat) (Option.some Jvm.ClassFile.FieldType.byte), Jvm.Cond.code ({ cls := "com/example/daftar/daftar/model/CharactersIsOneToPinLaw", name := "hi", desc := "(C)Z" } : Jvm.MethodName) method_4_code (1 : Nat) (Option.some Jvm.ClassFile.FieldType.boolean), Jvm.Cond.code ({ cls := "java/lang/StringUTF16", name := "codePointCount", desc := "([BII)I" } : Jvm.MethodName) jdk_52_method_12_code (3 : Nat) (Option.some Jvm.ClassFile.FieldType.int), Jvm.Cond.code ({ cls := "java/lang/StringUTF16", name := "codePointCount", desc := "([BIIZ)I" } : Jvm.MethodName) jdk_52_method_11_code (6 : Nat) (Option.some Jvm.ClassFile.FieldType.int), Jvm.Cond.code ({ cls := "java/lang/Character", name := "isHighSurrogate", desc := "(C)Z" } : Jvm.MethodName) jdk_89_method_14_code (1 : Nat) (Option.some Jvm.ClassFile.FieldType.boolean), Jvm.Cond.code ({ cls := "com/example/daftar/daftar/model/CharactersIsOneToPinLaw", name := "lo", desc := "(C)Z" } : Jvm.MethodName) method_5_code (1 : Nat) (Option.some Jvm.ClassFile.FieldType.boolean), Jvm.Cond.code ({ cls := "java/lang/Character", name := "isLowSurrogate", desc := "(C)Z" } : Jvm.MethodName) jdk_89_method_15_code (1 : Nat) (Option.some Jvm.ClassFile.FieldType.boolean)]
set_option maxRecDepth 65536 in
theorem codes_eq : words1.filter isCode = codes1 := rfl
theorem w_codes : ∀ c ∈ words1.filter isCode, c.before args0 about1 = true := by
  rw [codes_eq]
  intro c hc
  simp only [codes1, List.mem_cons, List.not_mem_nil, or_false] at hc
  rcases hc with rfl | rfl | rfl | rfl | rfl | rfl | rfl | rfl | rfl | rfl | rfl | rfl | rfl | rfl | rfl | rfl | rfl | rfl | rfl | rfl | rfl | rfl | rfl | rfl | rfl | rfl
  · exact w_c0
  · exact w_c1
  · exact w_c2
  · exact w_c3
  · exact w_c4
  · exact w_c5
  · exact w_c6
  · exact w_c7
  · exact w_c8
  · exact w_c9
  · exact w_c10
  · exact w_c11
  · exact w_c12
  · exact w_c13
  · exact w_c14
  · exact w_c15
  · exact w_c16
  · exact w_c17
  · exact w_c18
  · exact w_c19
  · exact w_c20
  · exact w_c21
  · exact w_c22
  · exact w_c23
  · exact w_c24
  · exact w_c25
set_option maxRecDepth 65536 in
theorem w_t1 : (words1.take 24).all (fun c => isCode c || c.before args0 about1) = true := by decide +kernel
set_option maxRecDepth 65536 in
theorem w_t2 : ((words1.drop 24).take 24).all (fun c => isCode c || c.before args0 about1) = true := by decide +kernel
set_option maxRecDepth 65536 in
theorem w_t3 : (((words1.drop 24).drop 24).take 24).all (fun c => isCode c || c.before args0 about1) = true := by decide +kernel
set_option maxRecDepth 65536 in
theorem w_t4 : ((((words1.drop 24).drop 24).drop 24).take 24).all (fun c => isCode c || c.before args0 about1) = true := by decide +kernel
set_option maxRecDepth 65536 in
theorem w_t5 : ((((words1.drop 24).drop 24).drop 24).drop 24).all (fun c => isCode c || c.before args0 about1) = true := by decide +kernel
theorem w_tables : (allAtoms (Jvm.Cond.code x code maxLocals ret :: tables_1)).before args0 about1 = true := by
  rw [allAtoms_all]
  show words1.all (fun c => c.before args0 about1) = true
  refine all_split ?_ w_codes
  rw [← List.take_append_drop 24 words1, List.all_append, w_t1, ← List.take_append_drop 24 (words1.drop 24), List.all_append, w_t2, ← List.take_append_drop 24 ((words1.drop 24).drop 24), List.all_append, w_t3, ← List.take_append_drop 24 (((words1.drop 24).drop 24).drop 24), List.all_append, w_t4, w_t5]
  rfl
set_option maxRecDepth 65536 in
theorem w_rest : rest_1_c.before args0 about1 = true := by decide +kernel
set_option maxRecDepth 65536 in
theorem w_case : (Jvm.Cond.and given_1 narrow_1).before args0 about1 = true := by decide +kernel
set_option maxRecDepth 65536 in
theorem w_consts : constsHeld consts_1 about1 := Jvm.Lit.constsHeldB_iff.mp (by decide +kernel)
theorem w_applies : (headSpec (Jvm.Cond.code x code maxLocals ret :: tables_1) room_1).applies x e0.platform about1 = true :=
  (Spec.applies_iff w_frames).mpr ⟨w_running, w_runnable, w_alone, w_named, w_hears, w_ripe, w_room, w_tables⟩
theorem atStart : AtStart classFile x code maxLocals ret World_1 tables_1 room_1 Calls_1 rest_1 Pre_1 launch0 p0 e0 about1 theMethod args0 below0 :=
  ⟨lists_1, trivial, launch0.admits_env _ _ _, launch0.least_env, fairChoices_fair.cas, fairChoices_fair.clock, w_frames, w_args, w_heap, w_applies, ⟨w_consts, trivial⟩, w_rest, w_case⟩
end start1
theorem witness_1 : WitnessClaimed_1 := ⟨start1.p0, start1.e0, start1.about1, start1.theMethod, start1.args0, start1.below0, start1.atStart⟩
end Jvm.Pilot.@@N@@
