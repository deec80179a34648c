import JvmDerived
import JvmDerived.Pilot.@@N@@Statement
import JvmDerived.Pilot.@@N@@Code
set_option linter.unusedVariables false
set_option linter.unusedSimpArgs false
@@BLOCK:HandJ.lean.txt@@
@@BLOCK:SymMore.lean.txt@@
namespace Jvm.RoadKit
open Sem ClassFile Op Lib Jvm.Stand Jvm.Free Jvm.LawKit
section New
variable {p : Program} {l : Launch} {e : Env} {R : Room} {s : State} {m : MethodId} {args : Array Value} {below : List Frame} {meth : Method} {c : Code} {T : State} {locs : List Loc} {cells slots : Nat}
theorem retI (X : Stand p l e R s m args below meth c T locs cells slots) (hx : p.tables.exec = Jvm.exec) {pc : Nat} {Ls : Array Slot} {z : Int32} {rest : List Value} (hret : meth.sig.returnType = some .int) (hd : decode c.code pc = .ok (.ireturn, 1)) {fs : List Frame}
    (hl : ∀ (f : JFrame) (acts : List Action), f.method = m → f.locked = none → f.entered = [] → (doReturn e (T.setTop f) acts (some (.int z))).1 = T.setFrames fs) : Steps p.tables e below (T.setTop (mkF m pc Ls (.int z :: rest))) (T.setFrames fs) := by
  have hm' : T.vm.method? m = some meth := X.method'
  have hn : narrow .int (.int z) = .int z := rfl
  show Steps p.tables e below (T.setTop { method := m, pc := pc, locals := Ls, stack := _ :: rest, locked := none }) _
  jvm_step X.here [X.here.top, hx, hd, hm', hret, hn]
  first | (intro acts; rw [hl _ acts rfl rfl rfl]) | rw [hl _ _ rfl rfl rfl]
  exact Steps.refl _
end New
end Jvm.RoadKit
namespace Jvm.Pilot.@@N@@
open Jvm Jvm.ClassFile Sem Op Lib Jvm.Free Jvm.Stand Jvm.LawKit Jvm.RoadKit Bundle Jvm.Pilot.@@N@@.Jvm.D

def own_ch (v : Int32) : Prop := 0 ≤ v.toInt ∧ v.toInt < 65536
def own_lo (v : Int32) : Int32 := nar .byte ((v >>> ((0 : Int32) &&& 31)).toInt8.toInt32)
def own_hi (v : Int32) : Int32 := nar .byte ((v >>> ((8 : Int32) &&& 31)).toInt8.toInt32)
def own_upd (f : Nat → Int32) (i : Nat) (x : Int32) : Nat → Int32 := fun j => if j = i then x else f j
def own_u16 (c : Nat → Int32) (o : Nat) : Nat → Int32 := fun i => if i % 2 = 0 then own_lo (c (o + i / 2)) else own_hi (c (o + i / 2))
def own_b8 (c : Nat → Int32) (o : Nat) : Nat → Int32 := fun i => nar .byte ((c (o + i)).toInt8.toInt32)
def own_of (vs : List Int32) : Nat → Int32 := fun i => vs.getD i 0
def own_zero : Nat → Int32 := fun _ => 0
theorem own_ind {P : Prop} (I : Nat → Prop) (h0 : I 0 → P) (hS : ∀ d, I (d + 1) → (I d → P) → P) : ∀ d, I d → P
  | 0, h => h0 h
  | d + 1, h => hS d h (own_ind I h0 hS d)
theorem own_i0 : (0 : Int32).toInt = ((0 : Nat) : Int) := rfl
theorem own_i1 : (1 : Int32).toInt = ((1 : Nat) : Int) := rfl
theorem own_i2 : (2 : Int32).toInt = ((2 : Nat) : Int) := rfl
theorem own_i3 : (3 : Int32).toInt = ((3 : Nat) : Int) := rfl
theorem own_i4 : (4 : Int32).toInt = ((4 : Nat) : Int) := rfl
theorem own_i5 : (5 : Int32).toInt = ((5 : Nat) : Int) := rfl
theorem own_i6 : (6 : Int32).toInt = ((6 : Nat) : Int) := rfl
theorem own_i7 : (7 : Int32).toInt = ((7 : Nat) : Int) := rfl
theorem own_i8 : (8 : Int32).toInt = ((8 : Nat) : Int) := rfl
theorem own_inc {x : Int32} {k : Nat} (h : x.toInt = (k : Int)) (hk : k < 1073741824) : (x + (1 : Int32)).toInt = ((k + 1 : Nat) : Int) := by
  have q := c_iadd x 1; have r := rng32 (x + 1); have e : (1 : Int32).toInt = 1 := rfl
  omega
theorem own_shl1 {x : Int32} {k : Nat} (h : x.toInt = (k : Int)) (hk : k < 536870912) : (x <<< ((1 : Int32) &&& 31)).toInt = ((2 * k : Nat) : Int) := by
  have q := c_ishl x 1 1 (by decide); have r := rng32 (x <<< ((1 : Int32) &&& 31))
  omega
theorem own_cl {x : Int32} {k : Nat} (h : x.toInt = (k : Int)) : x.toNatClampNeg = k := by simp only [Int32.toNatClampNeg]; omega
theorem own_nn {x : Int32} {k : Nat} (h : x.toInt = (k : Int)) : ¬ x < (0 : Int32) := by
  rw [Int32.lt_iff_toInt_lt]; have e : (0 : Int32).toInt = 0 := rfl; omega
theorem own_lt {x y : Int32} {i k : Nat} (h : x.toInt = (i : Int)) (h' : y.toInt = (k : Int)) (q : i < k) : x < y := by
  rw [Int32.lt_iff_toInt_lt]; omega
theorem own_ltm {x : Int32} {k : Nat} (h : x.toInt = (k : Int)) (hk : k < 1073741823) : x < (1073741823 : Int32) := by
  rw [Int32.lt_iff_toInt_lt]; have e : (1073741823 : Int32).toInt = 1073741823 := rfl; omega
theorem own_ne0 {x : Int32} {k : Nat} (h : x.toInt = (k : Int)) (hk : 0 < k) : ¬ (x = (0 : Int32)) := fun e => by
  rw [e] at h; have e : (0 : Int32).toInt = 0 := rfl; omega
theorem own_eq0 {x : Int32} (h : x.toInt = ((0 : Nat) : Int)) : x = (0 : Int32) := Int32.toInt_inj.mp h
theorem own_nlt {x y : Int32} {i k : Nat} (h : x.toInt = (i : Int)) (h' : y.toInt = (k : Int)) (q : k ≤ i) : ¬ x < y := by
  rw [Int32.lt_iff_toInt_lt]; omega
theorem own_of_nat {n : Nat} (h : n < 2147483648) : (Nat.toInt32 n).toInt = (n : Int) := by
  exact len_toInt h
def own_G (Z : State) (h : Heap) (a : Addr) (ty : FieldType) (n : Nat) (f : Nat → Int32) : Prop := ∃ c : Cell, Arr Z h a c ty ∧ c.slots.size = n ∧ n < 2147483648 ∧ ∀ i, i < n → c.slots[i]? = some (.int (f i)) ∧ fits ty (.int (f i)) = true
section OwnG
variable {Z : State} {h h' : Heap} {a b : Addr} {ty : FieldType} {n : Nat} {f g : Nat → Int32} {sl : Nat} {v : Value} {ws : List Addr}
theorem own_G.lt (F : own_G Z h a ty n f) : a < h.size := by obtain ⟨c, A, -⟩ := F; exact A.lt
theorem own_G.small (F : own_G Z h a ty n f) : n < 2147483648 := by obtain ⟨c, A, -, q, -⟩ := F; exact q
theorem own_G.ext (F : own_G Z h a ty n f) (E : Ext h h') : own_G Z h' a ty n f := by obtain ⟨c, A, r⟩ := F; exact ⟨c, A.ext E, r⟩
theorem own_G.other (F : own_G Z h b ty n f) (W : Wr h h' a sl v) (q : b ≠ a) : own_G Z h' b ty n f := by obtain ⟨c, A, r⟩ := F; exact ⟨c, A.other W q, r⟩
theorem own_G.keep (F : own_G Z h a ty n f) (K : Keep h h' ws) (q : a ∉ ws) : own_G Z h' a ty n f := by obtain ⟨c, A, r⟩ := F; exact ⟨c, ⟨K.2.1 a c A.1 q, A.2⟩, r⟩
theorem own_G.congr (F : own_G Z h a ty n f) (q : ∀ i, i < n → f i = g i) : own_G Z h a ty n g := by
  obtain ⟨c, A, r1, r2, r3⟩ := F
  exact ⟨c, A, r1, r2, fun i hi => by rw [← q i hi]; exact r3 i hi⟩
theorem own_G.ofV {k : ClassId} {z : Int32} {vs : List Int32} (F : Arv Z h a k ty z (vs.map Value.int) (.int 0)) (q : z.toInt = (n : Int)) : own_G Z h a ty n (own_of vs) := by
  obtain ⟨c, A, -, r2, r3, r4, r5⟩ := F
  rw [own_cl q] at r2
  have e : ∀ i, (vs.map Value.int).getD i (.int 0) = .int (own_of vs i) := fun i => by
    simp only [own_of, List.getD_eq_getElem?_getD, List.getElem?_map]; cases vs[i]? <;> rfl
  have := rng32 z
  exact ⟨c, A, r2, by omega, fun i hi => ⟨by rw [r4 i (by omega), e], by rw [← e]; exact r5 i (by omega)⟩⟩
theorem own_G.set {x : Int32} {i : Nat} (F : own_G Z h a ty n f) (W : Wr h h' a i (.int x)) (hv : fits ty (.int x) = true) : own_G Z h' a ty n (own_upd f i x) := by
  obtain ⟨c, A, r1, r2, r3⟩ := F
  refine ⟨_, A.same W, by rw [sz_set]; exact r1, r2, fun j hj => ?_⟩
  unfold own_upd
  by_cases u : j = i
  · subst u; rw [if_pos rfl]; exact ⟨by simp [Cell.setSlot, r1, hj], hv⟩
  · rw [if_neg u]; refine ⟨?_, (r3 j hj).2⟩
    have := (r3 j hj).1
    simp only [Cell.setSlot]; rw [Array.getElem?_setIfInBounds_ne (Ne.symm u)]; exact this
end OwnG
section OwnSteps
variable {p : Program} {l : Launch} {e : Env} {R : Room} {s : State} {m : MethodId} {args : Array Value} {below : List Frame} {meth : Method} {c : Code} {T : State} {locs : List Loc} {cells slots : Nat} {Z : State} {a0 : Array Value} {h : Heap} {a : Addr} {n : Nat} {f : Nat → Int32}
theorem own_in {cl : Cell} {j : Int32} {i : Nat} (S : cl.slots.size = n) (hj : j.toInt = (i : Int)) (hi : i < n) : ¬ (j < 0 ∨ cl.slots.size ≤ j.toNatClampNeg) := by
  rw [own_cl hj, S]; intro q; rcases q with q | q
  · exact own_nn hj q
  · omega
theorem own_ldC (X : Stand p l e R s m args below meth c T locs cells slots) (hx : p.tables.exec = Jvm.exec) (hZ : Z.Warmed39 s.vm) (eT : T.heap = h) (A : own_G Z h a .char n f) {j : Int32} {i : Nat} (hj : j.toInt = (i : Int)) (hi : i < n) {g : JFrame} (hg : g.method = m) {rest : List Value} (hs : g.stack = .int j :: .ref a :: rest) (hd : decode c.code g.pc = .ok (.caload, 1)) {t : State}
    (hr : Steps p.tables e below (T.setTop { g with pc := g.pc + 1, stack := .int (f i) :: rest }) t) : Steps p.tables e below (T.setTop g) t := by
  obtain ⟨cl, Ar, S, -, H⟩ := A
  exact X.caload hx (j := j) (v := .int (f i)) (by rw [eT]; exact Ar.1) (State.isArrayOf_alike hZ.alike Ar.2.1) Ar.2.2 (own_in S hj hi) (by rw [own_cl hj]; exact (H i hi).1) hg hs hd _ hr
theorem own_ldB (X : Stand p l e R s m args below meth c T locs cells slots) (hx : p.tables.exec = Jvm.exec) (hZ : Z.Warmed39 s.vm) (eT : T.heap = h) (A : own_G Z h a .byte n f) {j : Int32} {i : Nat} (hj : j.toInt = (i : Int)) (hi : i < n) {g : JFrame} (hg : g.method = m) {rest : List Value} (hs : g.stack = .int j :: .ref a :: rest) (hd : decode c.code g.pc = .ok (.baload, 1)) {t : State}
    (hr : Steps p.tables e below (T.setTop { g with pc := g.pc + 1, stack := .int (f i) :: rest }) t) : Steps p.tables e below (T.setTop g) t := by
  obtain ⟨cl, Ar, S, -, H⟩ := A
  exact X.baloadBytes hx (j := j) (v := .int (f i)) (by rw [eT]; exact Ar.1) (State.isArrayOf_alike hZ.alike Ar.2.1) Ar.2.2 (own_in S hj hi) (by rw [own_cl hj]; exact (H i hi).1) hg hs hd _ hr
theorem own_len (X : Stand p l e R s m args below meth c T locs cells slots) (hx : p.tables.exec = Jvm.exec) (hZ : Z.Warmed39 s.vm) (eT : T.heap = h) {ty : FieldType} (A : own_G Z h a ty n f) {g : JFrame} (hg : g.method = m) {rest : List Value} (hs : g.stack = .ref a :: rest) (hd : decode c.code g.pc = .ok (.arraylength, 1)) {t : State}
    (hr : Steps p.tables e below (T.setTop { g with pc := g.pc + 1, stack := .int (Nat.toInt32 n) :: rest }) t) : Steps p.tables e below (T.setTop g) t := by
  obtain ⟨cl, Ar, S, -, H⟩ := A
  refine X.arraylength hx (by rw [eT]; exact Ar.1) (State.isArrayOf_alike hZ.alike Ar.2.1) hg hs hd _ ?_
  rw [S]; exact hr
theorem own_stB (X : Stand p l e R s m args below meth c T locs cells slots) (hx : p.tables.exec = Jvm.exec) (hZ : Z.Warmed39 s.vm) (eT : T.heap = h) (A : own_G Z h a .byte n f) {j x : Int32} {i : Nat} (hj : j.toInt = (i : Int)) (hi : i < n) {g : JFrame} (hg : g.method = m) {rest : List Value} (hs : g.stack = .int x :: .int j :: .ref a :: rest) (hd : decode c.code g.pc = .ok (.bastore, 1)) :
    ∃ T' h', Stand p l e R s m args below meth c T' (locs ++ [⟨a, i⟩]) cells slots ∧ T'.heap = h' ∧ Wr h h' a i (.int (nar .byte x)) ∧ own_G Z h' a .byte n (own_upd f i (nar .byte x)) ∧ ∀ target, Steps p.tables e below (T'.setTop { g with pc := g.pc + 1, stack := rest }) target → Steps p.tables e below (T.setTop g) target := by
  have A0 := A
  obtain ⟨cl, Ar, S, -, H⟩ := A
  obtain ⟨T', h', X', e', W, st⟩ := stB X hx hZ eT Ar (j := j) (own_in S hj hi) hg hs hd
  rw [own_cl hj] at X' W
  exact ⟨T', h', X', e', W, A0.set W (fits_nar_byte _), st⟩
theorem own_stC (X : Stand p l e R s m args below meth c T locs cells slots) (hx : p.tables.exec = Jvm.exec) (hZ : Z.Warmed39 s.vm) (eT : T.heap = h) (A : own_G Z h a .char n f) {j x : Int32} {i : Nat} (hj : j.toInt = (i : Int)) (hi : i < n) {g : JFrame} (hg : g.method = m) {rest : List Value} (hs : g.stack = .int x :: .int j :: .ref a :: rest) (hd : decode c.code g.pc = .ok (.castore, 1)) :
    ∃ T' h', Stand p l e R s m args below meth c T' (locs ++ [⟨a, i⟩]) cells slots ∧ T'.heap = h' ∧ Wr h h' a i (.int (nar .char x)) ∧ own_G Z h' a .char n (own_upd f i (nar .char x)) ∧ ∀ target, Steps p.tables e below (T'.setTop { g with pc := g.pc + 1, stack := rest }) target → Steps p.tables e below (T.setTop g) target := by
  have A0 := A
  obtain ⟨cl, Ar, S, -, H⟩ := A
  obtain ⟨T', h', X', e', W, st⟩ := stC X hx hZ eT Ar (j := j) (own_in S hj hi) hg hs hd
  rw [own_cl hj] at X' W
  exact ⟨T', h', X', e', W, A0.set W (fits_nar_char _), st⟩
theorem own_newB (X : Stand p l e R s m args below meth c T locs cells slots) (hx : p.tables.exec = Jvm.exec) (hZ : Z.Warmed39 s.vm) (w : (Cond.arrayClass .byte).before a0 Z = true) (eT : T.heap = h) {g : JFrame} (hg : g.method = m) (hd : decode c.code g.pc = .ok (.newarray .byte, 2)) {z : Int32} {rest : List Value} (hs : g.stack = .int z :: rest) (hz : z.toInt = (n : Int))
    {cap : Nat} (hcap : n ≤ cap) (hb : cap * 8 ≤ 536870912) (hc : cells + 1 ≤ R.cells) (hl : slots + cap ≤ R.slots) :
    ∃ T' h', Stand p l e R s m args below meth c T' locs (cells + 1) (slots + cap) ∧ T'.heap = h' ∧ Ext h h' ∧ own_G Z h' h.size .byte n own_zero ∧ ∀ target, Steps p.tables e below (T'.setTop { g with pc := g.pc + 2, stack := .ref h.size :: rest }) target → Steps p.tables e below (T.setTop g) target := by
  obtain ⟨T', h', k, X', e', E, A, st⟩ := newP X hx hZ (aty := .byte) w eT hg hd hs (own_nn hz) (cap := cap) (by rw [own_cl hz]; exact hcap) hb hc hl
  have V : Arv Z h' h.size k .byte z (([] : List Int32).map Value.int) (.int 0) := Arv.new A (own_nn hz)
  exact ⟨T', h', X', e', E, (own_G.ofV V hz).congr (fun i _ => rfl), st⟩
theorem own_newC (X : Stand p l e R s m args below meth c T locs cells slots) (hx : p.tables.exec = Jvm.exec) (hZ : Z.Warmed39 s.vm) (w : (Cond.arrayClass .char).before a0 Z = true) (eT : T.heap = h) {g : JFrame} (hg : g.method = m) (hd : decode c.code g.pc = .ok (.newarray .char, 2)) {z : Int32} {rest : List Value} (hs : g.stack = .int z :: rest) (hz : z.toInt = (n : Int))
    {cap : Nat} (hcap : n ≤ cap) (hb : cap * 8 ≤ 536870912) (hc : cells + 1 ≤ R.cells) (hl : slots + cap ≤ R.slots) :
    ∃ T' h', Stand p l e R s m args below meth c T' locs (cells + 1) (slots + cap) ∧ T'.heap = h' ∧ Ext h h' ∧ own_G Z h' h.size .char n own_zero ∧ ∀ target, Steps p.tables e below (T'.setTop { g with pc := g.pc + 2, stack := .ref h.size :: rest }) target → Steps p.tables e below (T.setTop g) target := by
  obtain ⟨T', h', k, X', e', E, A, st⟩ := newP X hx hZ (aty := .char) w eT hg hd hs (own_nn hz) (cap := cap) (by rw [own_cl hz]; exact hcap) hb hc hl
  have V : Arv Z h' h.size k .char z (([] : List Int32).map Value.int) (.int 0) := Arv.new A (own_nn hz)
  exact ⟨T', h', X', e', E, (own_G.ofV V hz).congr (fun i _ => rfl), st⟩
end OwnSteps

def own_EL : List (String × Nat) := consts_1
theorem own_EW {a0 : Array Value} {Z : State} (hw : ∀ d ∈ tables_1, d.before a0 Z = true) : EW Z a0 own_EL := (EW.cons (own := "com/example/domicile/domicile/tei/TeiVocabulary") (index := 13) (text := "http://www.tei-c.org/ns/1.0") (hw _ (List.mem_of_getElem? (i := 45) rfl)) (by decide +kernel) (EW.cons (own := "com/example/domicile/domicile/tei/TeiVocabulary") (index := 29) (text := "address") (hw _ (List.mem_of_getElem? (i := 51) rfl)) (by decide +kernel) (EW.cons (own := "com/example/domicile/domicile/tei/TeiVocabulary") (index := 31) (text := "residence") (hw _ (List.mem_of_getElem? (i := 57) rfl)) (by decide +kernel) (EW.cons (own := "com/example/domicile/domicile/tei/TeiVocabularyMayBeRecordPinLaw") (index := 12) (text := "http://www.tei-c.org/ns/1.0") (hw _ (List.mem_of_getElem? (i := 0) rfl)) (by decide +kernel) (EW.cons (own := "com/example/domicile/domicile/tei/TeiVocabularyMayBeRecordPinLaw") (index := 14) (text := "") (hw _ (List.mem_of_getElem? (i := 61) rfl)) (by decide +kernel) (EW.cons (own := "com/example/domicile/domicile/tei/TeiVocabularyMayBeRecordPinLaw") (index := 22) (text := "http://www.tei-c.org/ns/1.0/") (hw _ (List.mem_of_getElem? (i := 58) rfl)) (by decide +kernel) (EW.cons (own := "com/example/domicile/domicile/tei/TeiVocabularyMayBeRecordPinLaw") (index := 24) (text := "http://www.tei-c.org/ns/1.") (hw _ (List.mem_of_getElem? (i := 71) rfl)) (by decide +kernel) (EW.cons (own := "com/example/domicile/domicile/tei/TeiVocabularyMayBeRecordPinLaw") (index := 26) (text := "HTTP://WWW.TEI-C.ORG/NS/1.0") (hw _ (List.mem_of_getElem? (i := 76) rfl)) (by decide +kernel) (EW.cons (own := "com/example/domicile/domicile/tei/TeiVocabularyMayBeRecordPinLaw") (index := 28) (text := "address") (hw _ (List.mem_of_getElem? (i := 59) rfl)) (by decide +kernel) (EW.cons (own := "com/example/domicile/domicile/tei/TeiVocabularyMayBeRecordPinLaw") (index := 30) (text := "residence") (hw _ (List.mem_of_getElem? (i := 69) rfl)) (by decide +kernel) (EW.cons (own := "com/example/domicile/domicile/tei/TeiVocabularyMayBeRecordPinLaw") (index := 32) (text := "Address") (hw _ (List.mem_of_getElem? (i := 62) rfl)) (by decide +kernel) (EW.cons (own := "com/example/domicile/domicile/tei/TeiVocabularyMayBeRecordPinLaw") (index := 34) (text := "ADDRESS") (hw _ (List.mem_of_getElem? (i := 60) rfl)) (by decide +kernel) (EW.cons (own := "com/example/domicile/domicile/tei/TeiVocabularyMayBeRecordPinLaw") (index := 36) (text := "addres") (hw _ (List.mem_of_getElem? (i := 63) rfl)) (by decide +kernel) (EW.cons (own := "com/example/domicile/domicile/tei/TeiVocabularyMayBeRecordPinLaw") (index := 38) (text := "addresss") (hw _ (List.mem_of_getElem? (i := 73) rfl)) (by decide +kernel) (EW.cons (own := "com/example/domicile/domicile/tei/TeiVocabularyMayBeRecordPinLaw") (index := 40) (text := "residenc") (hw _ (List.mem_of_getElem? (i := 75) rfl)) (by decide +kernel) (EW.cons (own := "com/example/domicile/domicile/tei/TeiVocabularyMayBeRecordPinLaw") (index := 42) (text := "residences") (hw _ (List.mem_of_getElem? (i := 74) rfl)) (by decide +kernel) (EW.cons (own := "com/example/domicile/domicile/tei/TeiVocabularyMayBeRecordPinLaw") (index := 44) (text := "addrLine") (hw _ (List.mem_of_getElem? (i := 72) rfl)) (by decide +kernel) (EW.cons (own := "com/example/domicile/domicile/tei/TeiVocabularyMayBeRecordPinLaw") (index := 46) (text := "Residence") (hw _ (List.mem_of_getElem? (i := 77) rfl)) (by decide +kernel) (EW.cons (own := "com/example/domicile/domicile/tei/TeiVocabularyMayBeRecordPinLaw") (index := 48) (text := "tei:address") (hw _ (List.mem_of_getElem? (i := 70) rfl)) (by decide +kernel) (EW.cons (own := "java/lang/String") (index := 7) (text := "") (hw _ (List.mem_of_getElem? (i := 68) rfl)) (by decide +kernel) EW.nil))))))))))))))))))))
theorem own_SA {a0 : Array Value} {Z : State} (hw : ∀ d ∈ tables_1, d.before a0 Z = true) : ∀ a ∈ Bundle.stringAtoms, a.before a0 Z = true := by
  intro d hd
  simp only [Bundle.stringAtoms, Bundle.sN, List.mem_cons, List.not_mem_nil, or_false] at hd
  rcases hd with rfl | rfl | rfl | rfl | rfl | rfl | rfl
  · exact hw _ (List.mem_of_getElem? (i := 1) rfl)
  · exact hw _ (List.mem_of_getElem? (i := 2) rfl)
  · exact hw _ (List.mem_of_getElem? (i := 3) rfl)
  · exact hw _ (List.mem_of_getElem? (i := 4) rfl)
  · exact hw _ (List.mem_of_getElem? (i := 5) rfl)
  · exact hw _ (List.mem_of_getElem? (i := 6) rfl)
  · exact hw _ (List.mem_of_getElem? (i := 7) rfl)
theorem own_fld1 {Z : State} {h : Heap} {a : Addr} {C n d : String} {v w : Value} (F : Fld Z h a C n d v) (G : Fld Z h a C n d w) : v = w := by
  obtain ⟨c1, cf1, k1, i1, f1, a1, a2, -, -, -, -, a3⟩ := F
  obtain ⟨c2, cf2, k2, i2, f2, b1, b2, -, -, -, -, b3⟩ := G
  cases a1.symm.trans b1
  cases a2.symm.trans b2
  exact Option.some.inj (a3.symm.trans b3)
section OwnWide
variable {p : Program} {l : Launch} {e : Env} {R : Room} {s : State} {m : MethodId} {args : Array Value} {below : List Frame} {meth : Method} {c : Code} {T : State} {locs : List Loc} {cells slots : Nat} {Z : State} {a0 : Array Value} {h : Heap}
theorem own_since (s : State) (n : Nat) : s.Since s.vm n := (State.WarmedH.refl s).since n
theorem own_backW {y : MethodName} {bytes : ByteArray} {maxL : Nat} {ret : Option FieldType} {rm : Room} {len W : Nat} {as' : Array Value} {Q : Option Value → Heap → List Loc → Prop}
    (hM : MetFree l y (head1 [Cond.code y bytes maxL ret] rm) (fun a U => a = as' ∧ Z.Warmed39 U.vm ∧ U.heap = h ∧ CHv Z own_EL U.vm h) (fun _ _ _ _ _ => True) (fun _ U o U' => ∃ v L, o = .returned v ∧ Q v U'.heap L ∧ ReturnedEndW U o U' L rm.cells rm.slots))
    (hw : ∀ d ∈ tables_1, d.before a0 Z = true) (hZ : Z.Warmed39 s.vm) (wc : (Cond.code y bytes maxL ret).before a0 Z = true) (wz : (Cond.initialized y.cls).before a0 Z = true) (hf : rm.frames + 1 ≤ R.frames) (hl : W + (maxL + 11) + rm.locals ≤ R.locals) (H : CHv Z own_EL s.vm h) :
    BackS l R p e below s args y len W (fun A a => a = as' ∧ A.U.heap = h ∧ A.cells + rm.cells ≤ R.cells ∧ A.slots + rm.slots ≤ R.slots)
      (fun A _ v B => ∃ L, Q v B.U.heap L ∧ B.locs = A.locs ++ L ∧ B.cells = A.cells + rm.cells ∧ B.slots = A.slots + rm.slots) := by
  refine BackS.of_freeW (bytes := bytes) (maxL := maxL) (ret := ret) (E := fun _ _ o t L k n => (∃ v, o = .returned v ∧ Q v t.heap L) ∧ k = rm.cells ∧ n = rm.slots) hM hf hl ?_ ?_ (fun _ _ _ _ _ _ _ _ _ => trivial) ?_ ?_
  · intro m meth c A a Y hp
    have hU : Z.Warmed39 A.U.vm := wtrans hZ Y.warmed
    exact ⟨by show (Cond.and _ .tt).before a A.U = true; rw [Cond.before_and, mv hU wc]; rfl, mv hU wc, mv hU wz, hp.2.2.1, hp.2.2.2⟩
  · intro m meth c A a g mk Y hp
    exact ⟨hp.1, wtrans hZ Y.warmed, hp.2.1, (CHv.at (s := s) (vm0 := s.vm) Y hZ (own_EW hw) H).1⟩
  · rintro _ _ _ _ ⟨v, L, h1, h2, h3⟩
    exact ⟨L, _, _, h3, ⟨v, h1, h2⟩, rfl, rfl⟩
  · rintro m meth c A a g mk v t L k n Y hp - - ⟨⟨v', e3, e4⟩, e1, e2⟩
    cases e3; subst e1 e2; exact ⟨L, e4, rfl, rfl, rfl⟩
theorem own_callIW {own : String} {index : Nat} {y : MethodName} {bytes : ByteArray} {ml W : Nat} {rm : Room} {A : Array Value} {Q : Option Value → Heap → List Loc → Prop} (X : Stand p l e R s m args below meth c T locs cells slots) (hx : p.tables.exec = Jvm.exec) (hw : ∀ d ∈ tables_1, d.before a0 Z = true) (hZ : Z.Warmed39 s.vm) (hown : s.vm.findClass own = some m.cls) (H : CHv Z own_EL s.vm h)
    (w1 : (Cond.methodLink own index y).before a0 Z = true) (w2 : (Cond.instanceMethod y).before a0 Z = true) (w3 : (Cond.initialized y.cls).before a0 Z = true) (w4 : (Cond.code y bytes ml none).before a0 Z = true) (hy1 : y.name = "<init>") (hy : y.cls ≠ "java/lang/invoke/MethodHandle" ∧ y.cls ≠ "java/lang/invoke/VarHandle")
    (hM : MetFree l y (head1 [Cond.code y bytes ml none] rm) (fun a U => a = A ∧ Z.Warmed39 U.vm ∧ U.heap = h ∧ CHv Z own_EL U.vm h) (fun _ _ _ _ _ => True) (fun _ U o U' => ∃ v L, o = .returned v ∧ Q v U'.heap L ∧ ReturnedEndW U o U' L rm.cells rm.slots)) (hf : rm.frames + 1 ≤ R.frames) (hl : W + (ml + 11) + rm.locals ≤ R.locals) (hT : T.heap = h) {g : JFrame} (hg : g.method = m) (hsize : g.locals.size = c.maxLocals)
    {ps : List FieldType} {r : Option FieldType} (hp : parseMethodDescriptor y.desc = some ⟨ps, r⟩) {a : Addr} {argsL rest : List Value} (hlen : argsL.length = ps.length) (hstack : g.stack = argsL.reverse ++ .ref a :: rest) (hA : (.ref a :: argsL).toArray = A) (hW : 2 * g.monitorRoom + (rest.map fun v => v.category).sum ≤ W) (hd : decode c.code g.pc = .ok (.invokespecial index, 3)) (hc : cells + rm.cells ≤ R.cells) (hs : slots + rm.slots ≤ R.slots) :
    ∃ v T' L', Stand p l e R (s.setVm T'.vm) m args below meth c T' (locs ++ L') (cells + rm.cells) (slots + rm.slots) ∧ s.Since T'.vm T'.heap.size ∧ Z.Warmed39 (s.setVm T'.vm).vm ∧ (s.setVm T'.vm).vm.findClass own = some m.cls ∧ Q v T'.heap L' ∧ ∀ t, Steps p.tables e below (T'.setTop { g with pc := g.pc + 3, stack := v.toList ++ rest }) t → Steps p.tables e below (T.setTop g) t := by
  obtain ⟨v, _, ⟨T', L', k', n'⟩, -, X', hS, -, ⟨Lc, hQ, l1, l2, l3⟩, st⟩ := X.specialBackS hx hy1 hown (mvT hZ w1) (mvT hZ w2) (mvT hZ w4) hy (own_backW (W := W) hM hw hZ w4 w3 hf hl H) hg hsize (Steps.refl _) (a := a) (argsL := argsL) (rest := rest) (lenOf hp hlen) hstack hW hd (fun _ _ => ⟨hA, hT, hc, hs⟩)
  dsimp only [Pt.U, Pt.locs, Pt.cells, Pt.slots] at X' l1 l2 l3 st hQ hS
  subst l1 l2 l3
  exact ⟨v, T', Lc, X', hS, State.Warmed39.trans hZ hS.1, by rw [show (s.setVm T'.vm).vm = T'.vm from rfl, hS.1.alike.findClass]; exact hown, hQ, fun t q => st.trans q⟩
theorem own_callVW {own C : String} {index : Nat} {y : MethodName} {bytes : ByteArray} {ml W : Nat} {rt : Option FieldType} {rm : Room} {A : Array Value} {Q : Option Value → Heap → List Loc → Prop} (X : Stand p l e R s m args below meth c T locs cells slots) (hx : p.tables.exec = Jvm.exec) (hw : ∀ d ∈ tables_1, d.before a0 Z = true) (hZ : Z.Warmed39 s.vm) (hown : s.vm.findClass own = some m.cls) (H : CHv Z own_EL s.vm h)
    (w1 : (Cond.methodLink own index y).before a0 Z = true) (w2 : (Cond.declares y).before a0 Z = true) (w5 : (Cond.selects C y y).before a0 Z = true) (w6 : (Cond.instanceMethod y).before a0 Z = true) (w3 : (Cond.initialized y.cls).before a0 Z = true) (w4 : (Cond.code y bytes ml rt).before a0 Z = true) (hy : y.cls ≠ "java/lang/invoke/MethodHandle" ∧ y.cls ≠ "java/lang/invoke/VarHandle")
    (hM : MetFree l y (head1 [Cond.code y bytes ml rt] rm) (fun a U => a = A ∧ Z.Warmed39 U.vm ∧ U.heap = h ∧ CHv Z own_EL U.vm h) (fun _ _ _ _ _ => True) (fun _ U o U' => ∃ v L, o = .returned v ∧ Q v U'.heap L ∧ ReturnedEndW U o U' L rm.cells rm.slots)) (hf : rm.frames + 1 ≤ R.frames) (hl : W + (ml + 11) + rm.locals ≤ R.locals) (hT : T.heap = h) {a : Addr} (hE : Exa Z h a C) {g : JFrame} (hg : g.method = m) (hsize : g.locals.size = c.maxLocals)
    {ps : List FieldType} {r : Option FieldType} (hp : parseMethodDescriptor y.desc = some ⟨ps, r⟩) {argsL rest : List Value} (hlen : argsL.length = ps.length) (hstack : g.stack = argsL.reverse ++ .ref a :: rest) (hA : (.ref a :: argsL).toArray = A) (hW : 2 * g.monitorRoom + (rest.map fun v => v.category).sum ≤ W) (hd : decode c.code g.pc = .ok (.invokevirtual index, 3)) (hc : cells + rm.cells ≤ R.cells) (hs : slots + rm.slots ≤ R.slots) :
    ∃ v T' L', Stand p l e R (s.setVm T'.vm) m args below meth c T' (locs ++ L') (cells + rm.cells) (slots + rm.slots) ∧ s.Since T'.vm T'.heap.size ∧ Z.Warmed39 (s.setVm T'.vm).vm ∧ (s.setVm T'.vm).vm.findClass own = some m.cls ∧ Q v T'.heap L' ∧ ∀ t, Steps p.tables e below (T'.setTop { g with pc := g.pc + 3, stack := v.toList ++ rest }) t → Steps p.tables e below (T.setTop g) t := by
  obtain ⟨cq, kq, qa, qb, qc⟩ := isOf hZ hT hE
  obtain ⟨v, _, ⟨T', L', k', n'⟩, -, X', hS, -, ⟨Lc, hQ, l1, l2, l3⟩, st⟩ := X.virtualBackS hx (y := y) (z := y) hown (mvT hZ w1) (mvT hZ w2) (notFace_of_selects (args := #[]) (mvT hZ w5)) (mvT hZ w5) (mvT hZ w6) hy (own_backW (W := W) hM hw hZ w4 w3 hf hl H) qa qc hg hsize (Steps.refl _) (argsL := argsL) (rest := rest) (lenOf hp hlen) hstack hW hd (fun _ _ => ⟨hA, hT, hc, hs⟩)
  dsimp only [Pt.U, Pt.locs, Pt.cells, Pt.slots] at X' l1 l2 l3 st hQ hS
  subst l1 l2 l3
  exact ⟨v, T', Lc, X', hS, State.Warmed39.trans hZ hS.1, by rw [show (s.setVm T'.vm).vm = T'.vm from rfl, hS.1.alike.findClass]; exact hown, hQ, fun t q => st.trans q⟩
end OwnWide
section OwnLit
variable {p : Program} {l : Launch} {e : Env} {R : Room} {s : State} {m : MethodId} {args : Array Value} {below : List Frame} {meth : Method} {c : Code} {T : State} {locs : List Loc} {cells slots : Nat} {Z : State} {a0 : Array Value} {h : Heap} {vm0 : Vm} {k0 : Nat}
theorem own_ldcL {own text : String} {index : Nat} (X : Stand p l e R (s.setVm vm0) m args below meth c T locs cells slots) (hx : p.tables.exec = Jvm.exec) (hZ : Z.Warmed39 vm0) (hown : vm0.findClass own = some m.cls) (hw : ∀ d ∈ tables_1, d.before a0 Z = true) (w : (Cond.stringLink own index text).before a0 Z = true) (hmem : (own, index) ∈ own_EL) (eT : T.heap = h) (hS : s.Since vm0 k0) (hk : k0 ≤ h.size) (H : CHv Z own_EL vm0 h)
    {vs : List Int32} {n : Nat} {z : Int32} (ht1 : ∀ c ∈ text.toList, c.toNat < 256) (ht2 : text.toList.map (fun c => Value.int (Jvm.Lit.byteI c.toNat.toUInt16)) = vs.map Value.int) (hn : vs.length = n) (hz : z.toInt = (n : Int)) {g : JFrame} (hg : g.method = m) (hd : decode c.code g.pc = .ok (.ldc index, 2)) {cap : Nat} (hcap : 4 * text.toList.length ≤ cap) (hbig : cap ≤ 536870912) (hc : cells + 2 ≤ R.cells) (hl : slots + (cap + 4) ≤ R.slots) :
    ∃ (a : Addr) (T' : State) (h' : Heap) (b : Addr) (k1 : Nat), Stand p l e R (s.setVm T'.vm) m args below meth c T' locs (cells + 2) (slots + (cap + 4)) ∧ T'.heap = h' ∧ Ext h h' ∧ s.Since T'.vm k1 ∧ k1 ≤ h'.size ∧ Z.Warmed39 T'.vm ∧ T'.vm.findClass own = some m.cls ∧
      Exa Z h' a "java/lang/String" ∧ Fld Z h' a "java/lang/String" "coder" "B" (.int 0) ∧ Fld Z h' a "java/lang/String" "value" "[B" (.ref b) ∧ own_G Z h' b .byte n (own_of vs) ∧ CHr Z own_EL vm0 h T'.vm h' ∧ Lit (s.setVm T'.vm) own index a ∧
      ∀ target, Steps p.tables e below (T'.setTop { g with pc := g.pc + 2, stack := .ref a :: g.stack }) target → Steps p.tables e below (T.setTop g) target := by
  obtain ⟨a, T', h', k1, b, k, X', e', E, hS', hk', hW, hf, A, FC, FV, AV, -, -, hC, hL, -, st⟩ := ldcCH (text := text) (own := own) (index := index) X hx hZ hown w (own_SA hw) eT hS hk (own_EW hw) hmem H (vs := vs.map Value.int) (z := z) ⟨ht1, ht2⟩ (own_nn hz) (by rw [own_cl hz, List.length_map, hn]) hg hd (n := cap) hcap hbig hc hl
  exact ⟨a, T', h', b, k1, X', e', E, hS', hk', hW, hf, A, FC, FV, own_G.ofV AV hz, hC, hL, st⟩
/-- a wide callee in a walk that may have interned already -/
theorem own_callIH {own : String} {index : Nat} {y : MethodName} {bytes : ByteArray} {ml W : Nat} {rm : Room} {A : Array Value} {Q : Option Value → Heap → List Loc → Prop} (X : Stand p l e R (s.setVm vm0) m args below meth c T locs cells slots) (hx : p.tables.exec = Jvm.exec) (hw : ∀ d ∈ tables_1, d.before a0 Z = true) (hZ : Z.Warmed39 vm0) (hown : vm0.findClass own = some m.cls) (hS : s.Since vm0 k0) (hk : k0 ≤ h.size) (H : CHv Z own_EL vm0 h)
    (w1 : (Cond.methodLink own index y).before a0 Z = true) (w2 : (Cond.instanceMethod y).before a0 Z = true) (w3 : (Cond.initialized y.cls).before a0 Z = true) (w4 : (Cond.code y bytes ml none).before a0 Z = true) (hy1 : y.name = "<init>") (hy : y.cls ≠ "java/lang/invoke/MethodHandle" ∧ y.cls ≠ "java/lang/invoke/VarHandle")
    (hM : MetFree l y (head1 [Cond.code y bytes ml none] rm) (fun a U => a = A ∧ Z.Warmed39 U.vm ∧ U.heap = h ∧ CHv Z own_EL U.vm h) (fun _ _ _ _ _ => True) (fun _ U o U' => ∃ v L, o = .returned v ∧ Q v U'.heap L ∧ CHr Z own_EL U.vm U.heap U'.vm U'.heap ∧ ReturnedEndW U o U' L rm.cells rm.slots)) (hf : rm.frames + 1 ≤ R.frames) (hl : W + (ml + 11) + rm.locals ≤ R.locals) (hT : T.heap = h) {g : JFrame} (hg : g.method = m) (hsize : g.locals.size = c.maxLocals)
    {ps : List FieldType} {r : Option FieldType} (hp : parseMethodDescriptor y.desc = some ⟨ps, r⟩) {a : Addr} {argsL rest : List Value} (hlen : argsL.length = ps.length) (hstack : g.stack = argsL.reverse ++ .ref a :: rest) (hA : (.ref a :: argsL).toArray = A) (hW : 2 * g.monitorRoom + (rest.map fun v => v.category).sum ≤ W) (hd : decode c.code g.pc = .ok (.invokespecial index, 3)) (hc : cells + rm.cells ≤ R.cells) (hs : slots + rm.slots ≤ R.slots) :
    ∃ v T' L', Stand p l e R (s.setVm T'.vm) m args below meth c T' (locs ++ L') (cells + rm.cells) (slots + rm.slots) ∧ s.Since T'.vm T'.heap.size ∧ Z.Warmed39 T'.vm ∧ T'.vm.findClass own = some m.cls ∧ CHr Z own_EL vm0 h T'.vm T'.heap ∧ Q v T'.heap L' ∧ ∀ t, Steps p.tables e below (T'.setTop { g with pc := g.pc + 3, stack := v.toList ++ rest }) t → Steps p.tables e below (T.setTop g) t := by
  obtain ⟨v, _, ⟨T', L', k', n'⟩, -, X', hS', hgr, ⟨Lc, hQ, l1, l2, l3, hC⟩, st⟩ := X.specialBackS hx hy1 hown (mvT (s := s.setVm vm0) hZ w1) (mvT (s := s.setVm vm0) hZ w2) (mvT (s := s.setVm vm0) hZ w4) hy (backOfSH (W := W) hM hZ w4 w3 hf hl (own_EW hw) H) hg hsize (Steps.refl _) (a := a) (argsL := argsL) (rest := rest) (lenOf hp hlen) hstack hW hd (fun _ _ => ⟨hA, hT, hc, hs⟩)
  dsimp only [Pt.U, Pt.locs, Pt.cells, Pt.slots] at X' l1 l2 l3 st hQ hS' hC hgr
  subst l1 l2 l3
  rw [hT] at hgr
  exact ⟨v, T', Lc, X', hS.trans hS' (Nat.le_trans hk hgr), State.Warmed39.trans (t := s.setVm vm0) hZ hS'.1, by rw [hS'.1.alike.findClass]; exact hown, hC, hQ, fun t q => st.trans q⟩
/-- .. a static one -/
theorem own_callSH {own : String} {index : Nat} {y : MethodName} {bytes : ByteArray} {ml W : Nat} {rt : Option FieldType} {rm : Room} {A : Array Value} {Q : Option Value → Heap → List Loc → Prop} (X : Stand p l e R (s.setVm vm0) m args below meth c T locs cells slots) (hx : p.tables.exec = Jvm.exec) (hw : ∀ d ∈ tables_1, d.before a0 Z = true) (hZ : Z.Warmed39 vm0) (hown : vm0.findClass own = some m.cls) (hS : s.Since vm0 k0) (hk : k0 ≤ h.size) (H : CHv Z own_EL vm0 h)
    (w1 : (Cond.methodLink own index y).before a0 Z = true) (w2 : (Cond.static y).before a0 Z = true) (w3 : (Cond.initialized y.cls).before a0 Z = true) (w4 : (Cond.code y bytes ml rt).before a0 Z = true) (hy : y.cls ≠ "java/lang/invoke/MethodHandle" ∧ y.cls ≠ "java/lang/invoke/VarHandle")
    (hM : MetFree l y (head1 [Cond.code y bytes ml rt] rm) (fun a U => a = A ∧ Z.Warmed39 U.vm ∧ U.heap = h ∧ CHv Z own_EL U.vm h) (fun _ _ _ _ _ => True) (fun _ U o U' => ∃ v L, o = .returned v ∧ Q v U'.heap L ∧ CHr Z own_EL U.vm U.heap U'.vm U'.heap ∧ ReturnedEndW U o U' L rm.cells rm.slots)) (hf : rm.frames + 1 ≤ R.frames) (hl : W + (ml + 11) + rm.locals ≤ R.locals) (hT : T.heap = h) {g : JFrame} (hg : g.method = m) (hsize : g.locals.size = c.maxLocals)
    {ps : List FieldType} {r : Option FieldType} (hp : parseMethodDescriptor y.desc = some ⟨ps, r⟩) {argsL rest : List Value} (hlen : argsL.length = ps.length) (hstack : g.stack = argsL.reverse ++ rest) (hA : argsL.toArray = A) (hW : 2 * g.monitorRoom + (rest.map fun v => v.category).sum ≤ W) (hd : decode c.code g.pc = .ok (.invokestatic index, 3)) (hc : cells + rm.cells ≤ R.cells) (hs : slots + rm.slots ≤ R.slots) :
    ∃ v T' L', Stand p l e R (s.setVm T'.vm) m args below meth c T' (locs ++ L') (cells + rm.cells) (slots + rm.slots) ∧ s.Since T'.vm T'.heap.size ∧ Z.Warmed39 T'.vm ∧ T'.vm.findClass own = some m.cls ∧ CHr Z own_EL vm0 h T'.vm T'.heap ∧ Q v T'.heap L' ∧ ∀ t, Steps p.tables e below (T'.setTop { g with pc := g.pc + 3, stack := v.toList ++ rest }) t → Steps p.tables e below (T.setTop g) t := by
  obtain ⟨v, _, ⟨T', L', k', n'⟩, -, X', hS', hgr, ⟨Lc, hQ, l1, l2, l3, hC⟩, st⟩ := callSS X hx hown (mvT (s := s.setVm vm0) hZ w1) (mvT (s := s.setVm vm0) hZ w2) (mvT (s := s.setVm vm0) hZ w3) (mvT (s := s.setVm vm0) hZ w4) hy (backOfSH (W := W) hM hZ w4 w3 hf hl (own_EW hw) H) hg hsize (argsL := argsL) (rest := rest) (lenOf hp hlen) hstack hW hd (fun _ _ => ⟨hA, hT, hc, hs⟩)
  dsimp only [Pt.U, Pt.locs, Pt.cells, Pt.slots] at X' l1 l2 l3 st hQ hS' hC hgr
  subst l1 l2 l3
  rw [hT] at hgr
  exact ⟨v, T', Lc, X', hS.trans hS' (Nat.le_trans hk hgr), State.Warmed39.trans (t := s.setVm vm0) hZ hS'.1, by rw [hS'.1.alike.findClass]; exact hown, hC, hQ, fun t q => st.trans q⟩
theorem own_safe0 {EL : List (String × Nat)} {vm : Vm} {x : Addr} (hal : Z.vm.Alike vm) (E : Exa Z h x "java/lang/String") (F : Fld Z h x "java/lang/String" "value" "[B" .null) : Safe Z EL vm h x := fun B => by
  obtain ⟨p, -, u, a, -, q, -, S, rfl | rfl⟩ := B
  · obtain ⟨cS, ⟨⟨s1, s2, s3, ⟨cv, kv, iv, s4, s4'⟩, -, s6, -, s8, -⟩, -, -⟩, -⟩ := S
    obtain ⟨kv', z4⟩ := ff_back (U := Wst Z vm h) hal s4
    have G : Fld Z h q.sa "java/lang/String" "value" "[B" (.ref q.sd) := ⟨q.sC, cv, kv', iv, q.fSV, s1, z4, s6, s2, s3, by rw [← hal.assignable]; exact s4', s8⟩
    have z := own_fld1 F G
    cases z
  · obtain ⟨cell, k, e1, e2, -⟩ := E
    cases (show h[q.sd]? = some q.SA from S.hd).symm.trans e1
    obtain ⟨cS, -, -, f, -⟩ := S
    have f' : vm.findClass "[B" = some q.SA.cls := f
    rw [hal.findClass] at f'
    obtain ⟨k1, q1, q2⟩ := Vm.findClass_spec f'
    obtain ⟨k2, q3, q4⟩ := Vm.findClass_spec e2
    cases q1.symm.trans q3
    exact absurd (q2.symm.trans q4) (by decide)
theorem own_chrG {vm vm' : Vm} {hs h1 h2 : Heap} (e1 : hs = h1) (e2 : h2 = h) (C : CHr Z own_EL vm h1 vm' h) : CHr Z own_EL vm hs vm' h2 := by subst e1 e2; exact C
theorem own_neG {C : String} {kI : Nat} {x b : Addr} {ty : FieldType} {n : Nat} {f : Nat → Int32} (E : Exa Z h x C) (wi : (Cond.instantiable C kI).before a0 Z = true) (G : own_G Z h b ty n f) : x ≠ b := by
  obtain ⟨cl, A, -⟩ := G
  exact ne_arr E wi A
theorem own_chrE {vm1 : Vm} {hs : Heap} (X : Stand p l e R (s.setVm vm1) m args below meth c T locs cells slots) (hw : ∀ d ∈ tables_1, d.before a0 Z = true) (hZ : Z.Warmed39 vm1) (C : CHr Z own_EL s.vm hs vm1 h) : CHr Z own_EL s.vm hs T.vm h := C.trans (CHv.at X hZ (own_EW hw) C.1)
theorem own_chrN {hs : Heap} (X : Stand p l e R s m args below meth c T locs cells slots) (hw : ∀ d ∈ tables_1, d.before a0 Z = true) (hZ : Z.Warmed39 s.vm) (K : Keep hs h []) (H : CHv Z own_EL s.vm hs) : CHr Z own_EL s.vm hs T.vm h :=
  (CHr.keep K (fun x hx => nomatch hx) H).trans (CHv.at (s := s) (vm0 := s.vm) X hZ (own_EW hw) (H.keep K (fun x hx => nomatch hx)))
end OwnLit

theorem own_byte (y : Int32) : (nar .byte (y.toInt8.toInt32) &&& (255 : Int32)).toInt = y.toInt % 256 := by
  have h1 := c_mask (nar .byte (y.toInt8.toInt32)) 255 8 (by decide) (by decide)
  have h2 := c_i2b y
  have h3 : (((y.toInt8.toInt32).toInt8.toInt32).toInt - (y.toInt8.toInt32).toInt) % 256 = 0 := (c_i2b (y.toInt8.toInt32)).1
  have h4 : (nar .byte (y.toInt8.toInt32)).toInt = ((y.toInt8.toInt32).toInt8.toInt32).toInt := rfl
  rw [h1, h4]
  omega
theorem own_gc (v : Int32) (h : own_ch v) : (nar .char (((((own_lo v) &&& (255 : Int32)) <<< ((0 : Int32) &&& 31)) ||| (((own_hi v) &&& (255 : Int32)) <<< ((8 : Int32) &&& 31))).toUInt32.toUInt16.toUInt32.toInt32)) = v := by
  unfold own_ch at h
  have l1 : ((own_lo v) &&& (255 : Int32)).toInt = v.toInt % 256 := by
    have q := own_byte (v >>> ((0 : Int32) &&& 31)); have q2 := c_ishr v 0 0 (by decide)
    have e : (own_lo v &&& (255 : Int32)) = nar .byte ((v >>> ((0 : Int32) &&& 31)).toInt8.toInt32) &&& (255 : Int32) := rfl
    rw [e, q, q2]; omega
  have l2 : ((own_hi v) &&& (255 : Int32)).toInt = v.toInt / 256 % 256 := by
    have q := own_byte (v >>> ((8 : Int32) &&& 31)); have q2 := c_ishr v 8 8 (by decide)
    have e : (own_hi v &&& (255 : Int32)) = nar .byte ((v >>> ((8 : Int32) &&& 31)).toInt8.toInt32) &&& (255 : Int32) := rfl
    rw [e, q, q2]; omega
  generalize (own_lo v) &&& (255 : Int32) = x at *
  generalize (own_hi v) &&& (255 : Int32) = y at *
  have s1 : (x <<< ((0 : Int32) &&& 31)).toInt = x.toInt := by
    have q := c_ishl x 0 0 (by decide); have q2 := rng32 (x <<< ((0 : Int32) &&& 31)); have q3 := rng32 x; omega
  have s2 : (y <<< ((8 : Int32) &&& 31)).toInt = y.toInt * 256 := by
    have q := c_ishl y 8 8 (by decide); have q2 := rng32 (y <<< ((8 : Int32) &&& 31)); omega
  generalize x <<< ((0 : Int32) &&& 31) = x' at *
  generalize y <<< ((8 : Int32) &&& 31) = y' at *
  have s3 := c_or' x' y' 8 (by decide) 256 rfl (by omega) (by omega) (by omega)
  have s4 := rng32 (x' ||| y')
  have s5 : (x' ||| y').toInt = v.toInt := by omega
  generalize x' ||| y' = z at *
  have s6 := c_i2c z
  have s7 := c_i2c (z.toUInt32.toUInt16.toUInt32.toInt32)
  apply Int32.toInt_inj.mp
  have e : (nar .char (z.toUInt32.toUInt16.toUInt32.toInt32)).toInt = ((z.toUInt32.toUInt16.toUInt32.toInt32).toUInt32.toUInt16.toUInt32.toInt32).toInt := rfl
  rw [e]
  omega
theorem own_narb (y : Int32) : own_ch (nar .char y) := by
  have h := c_i2c y
  exact ⟨h.2.1, h.2.2⟩
theorem own_narn (y : Int32) : nar .char (nar .char y) = nar .char y := by
  have h := c_i2c y
  have h2 := c_i2c (nar .char y)
  apply Int32.toInt_inj.mp
  have e1 : (nar .char y).toInt = (y.toUInt32.toUInt16.toUInt32.toInt32).toInt := rfl
  have e2 : (nar .char (nar .char y)).toInt = ((nar .char y).toUInt32.toUInt16.toUInt32.toInt32).toInt := rfl
  omega
theorem own_gcv {x y v : Int32} (h0 : x = own_lo v) (h1 : y = own_hi v) (h : own_ch v) : (nar .char ((((x &&& (255 : Int32)) <<< ((0 : Int32) &&& 31)) ||| ((y &&& (255 : Int32)) <<< ((8 : Int32) &&& 31))).toUInt32.toUInt16.toUInt32.toInt32)) = v := by subst h0 h1; exact own_gc v h
theorem own_u16s {cf gf : Nat → Int32} {o j : Nat} (hg : ∀ i, i < 2 * j → gf i = own_u16 cf o i) : ∀ i, i < 2 * (j + 1) → own_upd (own_upd gf (2 * j) (own_lo (cf (o + j)))) (2 * j + 1) (own_hi (cf (o + j))) i = own_u16 cf o i := by
  intro i hi
  unfold own_upd
  by_cases h1 : i = 2 * j + 1
  · subst h1; rw [if_pos rfl]; unfold own_u16; rw [if_neg (by omega), show (2 * j + 1) / 2 = j by omega]
  · rw [if_neg h1]
    by_cases h2 : i = 2 * j
    · subst h2; rw [if_pos rfl]; unfold own_u16; rw [if_pos (by omega), show (2 * j) / 2 = j by omega]
    · rw [if_neg h2]; exact hg i (by omega)
theorem own_b8s {cf gf : Nat → Int32} {o j : Nat} (hg : ∀ i, i < j → ¬ ((255 : Int32) < cf (o + i)) ∧ gf i = own_b8 cf o i) (h : ¬ ((255 : Int32) < cf (o + j))) : ∀ i, i < j + 1 → ¬ ((255 : Int32) < cf (o + i)) ∧ own_upd gf j (nar .byte ((cf (o + j)).toInt8.toInt32)) i = own_b8 cf o i := by
  intro i hi
  unfold own_upd
  by_cases h1 : i = j
  · subst h1; rw [if_pos rfl]; exact ⟨h, rfl⟩
  · rw [if_neg h1]; exact hg i (by omega)
theorem own_u0 (cf : Nat → Int32) (o j : Nat) : own_u16 cf o (2 * j) = own_lo (cf (o + j)) := by unfold own_u16; rw [if_pos (by omega), show (2 * j) / 2 = j by omega]
theorem own_u1 (cf : Nat → Int32) (o j : Nat) : own_u16 cf o (2 * j + 1) = own_hi (cf (o + j)) := by unfold own_u16; rw [if_neg (by omega), show (2 * j + 1) / 2 = j by omega]
theorem own_cf0 {x : Int32} {n : Nat} (h : x.toInt = (n : Int)) (hn : n < 2147483648) : (nar .byte (((x - Nat.toInt32 n).toUInt32 >>> ((31 : Int32) &&& 31).toUInt32).toInt32.toInt8.toInt32)) = 0 := by
  have e : x = Nat.toInt32 n := Int32.toInt_inj.mp (by rw [h, own_of_nat hn])
  subst e; rw [Int32.sub_self]; rfl
theorem own_cf1 {x : Int32} {n : Nat} (h : x.toInt = (n : Int)) (hn : n < 536870912) (h0 : 0 < n) : (nar .byte (((x - Nat.toInt32 (2 * n)).toUInt32 >>> ((31 : Int32) &&& 31).toUInt32).toInt32.toInt8.toInt32)) = 1 := by
  have e := own_of_nat (n := 2 * n) (by omega)
  have q := c_isub x (Nat.toInt32 (2 * n)); have r := rng32 (x - Nat.toInt32 (2 * n))
  have u := c_iushr (x - Nat.toInt32 (2 * n)) 31 31 (by decide) (by decide)
  have z : ((x - Nat.toInt32 (2 * n)).toUInt32 >>> ((31 : Int32) &&& 31).toUInt32).toInt32 = 1 := Int32.toInt_inj.mp (by rw [u]; show _ = (1 : Int); omega)
  rw [z]; rfl
theorem own_nej {r p : Int32} {j n : Nat} (h : r.toInt = (j : Int)) (hp : p.toInt = (n : Int)) (q : j < n) : ¬ (r = p) := fun e => by rw [e] at h; omega
def own_By (Z : State) (h : Heap) (b : Addr) (n o : Nat) (cf : Nat → Int32) (cd : Int32) : Prop := (cd = 0 ∧ (∀ i, i < n → ¬ ((255 : Int32) < cf (o + i))) ∧ own_G Z h b .byte n (own_b8 cf o)) ∨ (cd = 1 ∧ (∃ i, i < n ∧ (255 : Int32) < cf (o + i)) ∧ own_G Z h b .byte (2 * n) (own_u16 cf o))
def own_Str (Z : State) (h : Heap) (a : Addr) (n o : Nat) (cf : Nat → Int32) : Prop := Exa Z h a "java/lang/String" ∧ n ≤ 28 ∧ (∀ i, i < n → own_ch (cf (o + i))) ∧ ∃ (b : Addr) (cd : Int32), Fld Z h a "java/lang/String" "value" "[B" (.ref b) ∧ Fld Z h a "java/lang/String" "coder" "B" (.int cd) ∧ own_By Z h b n o cf cd

def own_tx0 : List Int32 := [104, 116, 116, 112, 58, 47, 47, 119, 119, 119, 46, 116, 101, 105, 45, 99, 46, 111, 114, 103, 47, 110, 115, 47, 49, 46, 48]
def own_tx1 : List Int32 := [97, 100, 100, 114, 101, 115, 115]
def own_tx2 : List Int32 := [114, 101, 115, 105, 100, 101, 110, 99, 101]
def own_tx3 : List Int32 := []
def own_tx4 : List Int32 := [104, 116, 116, 112, 58, 47, 47, 119, 119, 119, 46, 116, 101, 105, 45, 99, 46, 111, 114, 103, 47, 110, 115, 47, 49, 46, 48, 47]
def own_tx5 : List Int32 := [104, 116, 116, 112, 58, 47, 47, 119, 119, 119, 46, 116, 101, 105, 45, 99, 46, 111, 114, 103, 47, 110, 115, 47, 49, 46]
def own_tx6 : List Int32 := [72, 84, 84, 80, 58, 47, 47, 87, 87, 87, 46, 84, 69, 73, 45, 67, 46, 79, 82, 71, 47, 78, 83, 47, 49, 46, 48]
def own_tx7 : List Int32 := [65, 100, 100, 114, 101, 115, 115]
def own_tx8 : List Int32 := [65, 68, 68, 82, 69, 83, 83]
def own_tx9 : List Int32 := [97, 100, 100, 114, 101, 115]
def own_tx10 : List Int32 := [97, 100, 100, 114, 101, 115, 115, 115]
def own_tx11 : List Int32 := [114, 101, 115, 105, 100, 101, 110, 99]
def own_tx12 : List Int32 := [114, 101, 115, 105, 100, 101, 110, 99, 101, 115]
def own_tx13 : List Int32 := [97, 100, 100, 114, 76, 105, 110, 101]
def own_tx14 : List Int32 := [82, 101, 115, 105, 100, 101, 110, 99, 101]
def own_tx15 : List Int32 := [116, 101, 105, 58, 97, 100, 100, 114, 101, 115, 115]
theorem own_d5_0 : decode jdk_52_method_21_code 0 = .ok (.iconst 0, 1) := by decide +kernel
theorem own_d5_1 : decode jdk_52_method_21_code 1 = .ok (.istore 5, 2) := by decide +kernel
theorem own_d5_3 : decode jdk_52_method_21_code 3 = .ok (.iload 5, 2) := by decide +kernel
theorem own_d5_5 : decode jdk_52_method_21_code 5 = .ok (.iload 4, 2) := by decide +kernel
theorem own_d5_7 : decode jdk_52_method_21_code 7 = .ok (.if_icmp .ge 37, 3) := by decide +kernel
theorem own_d5_10 : decode jdk_52_method_21_code 10 = .ok (.aload_n 0, 1) := by decide +kernel
theorem own_d5_11 : decode jdk_52_method_21_code 11 = .ok (.iload_n 1, 1) := by decide +kernel
theorem own_d5_12 : decode jdk_52_method_21_code 12 = .ok (.caload, 1) := by decide +kernel
theorem own_d5_13 : decode jdk_52_method_21_code 13 = .ok (.istore 6, 2) := by decide +kernel
theorem own_d5_15 : decode jdk_52_method_21_code 15 = .ok (.iload 6, 2) := by decide +kernel
theorem own_d5_17 : decode jdk_52_method_21_code 17 = .ok (.sipush 255, 3) := by decide +kernel
theorem own_d5_20 : decode jdk_52_method_21_code 20 = .ok (.if_icmp .le 6, 3) := by decide +kernel
theorem own_d5_23 : decode jdk_52_method_21_code 23 = .ok (.iload 5, 2) := by decide +kernel
theorem own_d5_25 : decode jdk_52_method_21_code 25 = .ok (.ireturn, 1) := by decide +kernel
theorem own_d5_26 : decode jdk_52_method_21_code 26 = .ok (.aload_n 2, 1) := by decide +kernel
theorem own_d5_27 : decode jdk_52_method_21_code 27 = .ok (.iload_n 3, 1) := by decide +kernel
theorem own_d5_28 : decode jdk_52_method_21_code 28 = .ok (.iload 6, 2) := by decide +kernel
theorem own_d5_30 : decode jdk_52_method_21_code 30 = .ok (.i2b, 1) := by decide +kernel
theorem own_d5_31 : decode jdk_52_method_21_code 31 = .ok (.bastore, 1) := by decide +kernel
theorem own_d5_32 : decode jdk_52_method_21_code 32 = .ok (.iinc 1 1, 3) := by decide +kernel
theorem own_d5_35 : decode jdk_52_method_21_code 35 = .ok (.iinc 3 1, 3) := by decide +kernel
theorem own_d5_38 : decode jdk_52_method_21_code 38 = .ok (.iinc 5 1, 3) := by decide +kernel
theorem own_d5_41 : decode jdk_52_method_21_code 41 = .ok (.goto (-38), 3) := by decide +kernel
theorem own_d5_44 : decode jdk_52_method_21_code 44 = .ok (.iload 4, 2) := by decide +kernel
theorem own_d5_46 : decode jdk_52_method_21_code 46 = .ok (.ireturn, 1) := by decide +kernel
theorem own_pn0 : plainName "java/lang/StringUTF16" = true := by first | (simp [plainName, overriddenIn]; done) | decide +kernel
theorem own_efc5 (m : MethodId) (x0 : Addr) (x1 : Int32) (x2 : Addr) (x4 : Int32) : entryFrame m #[(.ref x0), (.int x1), (.ref x2), (.int (0 : Int32)), (.int x4)] 7 = mkF m 0 #[.val (.ref x0), .val (.int x1), .val (.ref x2), .val (.int (0 : Int32)), .val (.int x4), .unset, .unset] [] := by first | (simp [entryFrame, mkF, argsToLocals, Value.category]; done) | rfl
def own_Qc5 (Z : State) (p1 : Addr) (p2 : Int32) (p3 : Addr) (p5 : Int32) (zc : Nat) (cf : Nat → Int32) (zb : Nat) (bf : Nat → Int32) (of_ : Nat) (nn : Nat) (h0 : Heap) (n0 : Nat) (v : Option Value) (h : Heap) (L : List Loc) : Prop := ∃ (r : Int32) (gf : Nat → Int32), v = some (.int r) ∧ Fr n0 L ∧ Keep h0 h [p3] ∧ own_G Z h p3 .byte zb gf ∧ ((r = p5 ∧ (∀ i, i < nn → ¬ ((255 : Int32) < cf (of_ + i))) ∧ (∀ i, i < nn → gf i = own_b8 cf of_ i)) ∨ (∃ j, j < nn ∧ r.toInt = (j : Int) ∧ (255 : Int32) < cf (of_ + j)))
def own_Rc5 : Room := { frames := 0, cells := 0, slots := 0, locals := 0 }
set_option maxRecDepth 65536 in
set_option maxHeartbeats 40000000 in
theorem own_rmc5 (l : Launch) (Z : State) (a0 : Array Value) (hw : ∀ d ∈ tables_1, d.before a0 Z = true) (ws : List Jvm.Cond) (p1 : Addr) (p2 : Int32) (p3 : Addr) (p5 : Int32) (zc : Nat) (cf : Nat → Int32) (zb : Nat) (bf : Nat → Int32) (of_ : Nat) (nn : Nat) (h0 : Heap) (n0 : Nat) (Z0 : n0 ≤ h0.size) (P0 : own_G Z h0 p1 .char zc cf) (P1 : own_G Z h0 p3 .byte zb bf) (ge_p3 : n0 ≤ p3) (ne_p1_p3 : p1 ≠ p3) (hp2 : p2.toInt = (of_ : Int)) (hp5 : p5.toInt = (nn : Int)) (hbo : of_ + nn ≤ zc) (hz : zc ≤ 1000000) (hn : nn ≤ 28) (hzb : nn ≤ zb) :
    MetFree l (⟨"java/lang/StringUTF16", "compress", "([CI[BII)I"⟩ : MethodName) (head1 (Jvm.Cond.code (⟨"java/lang/StringUTF16", "compress", "([CI[BII)I"⟩ : MethodName) jdk_52_method_21_code 7 (some .int) :: ws) own_Rc5) (fun aa U => aa = #[(.ref p1), (.int p2), (.ref p3), (.int (0 : Int32)), (.int p5)] ∧ Z.Warmed39 U.vm ∧ U.heap = h0) (fun _ _ _ _ _ => True) (fun _ U o U' => ∃ v L, o = .returned v ∧ own_Qc5 Z p1 p2 p3 p5 zc cf zb bf of_ nn h0 n0 v U'.heap L ∧ FrameEnd U o U' L own_Rc5.cells own_Rc5.slots) := by
  refine MetFree.of_bodySF (plainFor_of_name own_pn0) hisR ?_
  intro p e s m args below meth c s₁ Bd hml0 hP hK
  obtain ⟨rfl, hZ, hh⟩ := hP
  have hx := Bd.exec
  have hby := Bd.bytes
  have hml : c.maxLocals = 7 := hml0
  have hown : s.vm.findClass "java/lang/StringUTF16" = some m.cls := findClass_of_methodNamed Bd.named
  have hnm := (name_of_methodNamed Bd.named Bd.method).1
  have X0 : Stand p l e own_Rc5 s m #[(.ref p1), (.int p2), (.ref p3), (.int (0 : Int32)), (.int p5)] below meth c s₁ [] 0 0 := Stand.of_body Bd
  have e0 : s₁.heap = h0 := by rw [← hh, Bd.state]; rfl
  have N0 := Fr.nil n0
  have pre0 : ∀ t, Steps p.tables e below (s₁.setTop (mkF m 0 #[.val (.ref p1), .val (.int p2), .val (.ref p3), .val (.int (0 : Int32)), .val (.int p5), .unset, .unset] [])) t → Steps p.tables e below (s₁.setTop (entryFrame m #[(.ref p1), (.int p2), (.ref p3), (.int (0 : Int32)), (.int p5)] 7)) t := fun t k => castTop (own_efc5 m p1 p2 p3 p5) k
  have k1 : ∀ t, Steps p.tables e below (s₁.setTop (mkF m 3 #[.val (.ref p1), .val (.int p2), .val (.ref p3), .val (.int (0 : Int32)), .val (.int p5), .val (.int (0 : Int32)), .unset] [])) t → Steps p.tables e below (s₁.setTop (entryFrame m #[(.ref p1), (.int p2), (.ref p3), (.int (0 : Int32)), (.int p5)] 7)) t := by
    intro t k
    refine pre0 t ?_
    show Steps p.tables e below (s₁.setTop (mkF m 0 #[.val (.ref p1), .val (.int p2), .val (.ref p3), .val (.int (0 : Int32)), .val (.int p5), .unset, .unset] [])) _
    refine XS.iconst X0.here hx rfl (hb hby own_d5_0) ?_
    show Steps p.tables e below (s₁.setTop (mkF m 1 #[.val (.ref p1), .val (.int p2), .val (.ref p3), .val (.int (0 : Int32)), .val (.int p5), .unset, .unset] [(.int (0 : Int32))])) _
    refine XS.istore X0.here hx rfl (hb hby own_d5_1) rfl (l' := #[.val (.ref p1), .val (.int p2), .val (.ref p3), .val (.int (0 : Int32)), .val (.int p5), .val (.int (0 : Int32)), .unset]) rfl ?_
    exact k
  refine own_ind (fun dd => ∃ (jj : Nat) (i1 : Int32) (i3 : Int32) (i5 : Int32) (q6 : Slot) (gf : Nat → Int32) (Tl2 : State) (Ll2 : List Loc) (hl2 : Heap), jj + dd = nn ∧ i1.toInt = ((of_ + jj : Nat) : Int) ∧ i3.toInt = (jj : Int) ∧ i5.toInt = (jj : Int) ∧ (q6 = .unset ∨ ∃ x6, q6 = .val (.int x6)) ∧ (∀ i, i < jj → ¬ ((255 : Int32) < cf (of_ + i)) ∧ gf i = own_b8 cf of_ i) ∧ Stand p l e own_Rc5 s m #[(.ref p1), (.int p2), (.ref p3), (.int (0 : Int32)), (.int p5)] below meth c Tl2 Ll2 0 0 ∧ Tl2.heap = hl2 ∧ Fr n0 Ll2 ∧ Keep h0 hl2 [p3] ∧ n0 ≤ hl2.size ∧ own_G Z hl2 p1 .char zc cf ∧ own_G Z hl2 p3 .byte zb gf ∧ ∀ t, Steps p.tables e below (Tl2.setTop (mkF m 3 #[.val (.ref p1), .val (.int i1), .val (.ref p3), .val (.int i3), .val (.int p5), .val (.int i5), q6] [])) t → Steps p.tables e below (s₁.setTop (entryFrame m #[(.ref p1), (.int p2), (.ref p3), (.int (0 : Int32)), (.int p5)] 7)) t) ?_ ?_ (nn) ⟨0, p2, (0 : Int32), (0 : Int32), .unset, bf, _, _, _, (by omega), (by omega), rfl, rfl, Or.inl rfl, fun i hi => absurd hi (by omega), X0, e0, N0, (Keep.refl h0 [p3]), Z0, P0, P1, k1⟩
  · rintro ⟨jj, i1, i3, i5, q6, gf, Tl2, Ll2, hl2, ivj, iv1, iv3, iv5, iv6, ivg, Xl2, el2, Nl2, Kl2, Zl2, Fl2_0, Fl2_1, kl2⟩
    have k3 : ∀ t, Steps p.tables e below (Tl2.setTop (mkF m 46 #[.val (.ref p1), .val (.int i1), .val (.ref p3), .val (.int i3), .val (.int p5), .val (.int i5), q6] [(.int p5)])) t → Steps p.tables e below (s₁.setTop (entryFrame m #[(.ref p1), (.int p2), (.ref p3), (.int (0 : Int32)), (.int p5)] 7)) t := by
      intro t k
      refine kl2 t ?_
      show Steps p.tables e below (Tl2.setTop (mkF m 3 #[.val (.ref p1), .val (.int i1), .val (.ref p3), .val (.int i3), .val (.int p5), .val (.int i5), q6] [])) _
      refine XS.iload Xl2.here hx rfl (hb hby own_d5_3) rfl ?_
      show Steps p.tables e below (Tl2.setTop (mkF m 5 #[.val (.ref p1), .val (.int i1), .val (.ref p3), .val (.int i3), .val (.int p5), .val (.int i5), q6] [(.int i5)])) _
      refine XS.iload Xl2.here hx rfl (hb hby own_d5_5) rfl ?_
      show Steps p.tables e below (Tl2.setTop (mkF m 7 #[.val (.ref p1), .val (.int i1), .val (.ref p3), .val (.int i3), .val (.int p5), .val (.int i5), q6] [(.int p5), (.int i5)])) _
      refine XS.icmpYes Xl2.here hx rfl (pc0 := 7) (pc' := 44) rfl (hb hby own_d5_7) rfl (flt (own_nlt iv5 hp5 (by omega))).2.1 (by decide) (by decide) ?_
      show Steps p.tables e below (Tl2.setTop (mkF m 44 #[.val (.ref p1), .val (.int i1), .val (.ref p3), .val (.int i3), .val (.int p5), .val (.int i5), q6] [])) _
      refine XS.iload Xl2.here hx rfl (hb hby own_d5_44) rfl ?_
      exact k
    obtain ⟨fs, hr, hrun, hended, hW, hsame⟩ := Xl2.leave (v := (some (.int p5))) (fun h => by rw [Bd.returns] at h; cases h)
    refine ⟨_, _, k3 _ ?_, hrun, hended, _, _, rfl, ?_, ⟨_, rfl⟩, hW, hsame.mono (by decide) (by decide)⟩
    · exact retI Xl2 hx Bd.returns (hb hby own_d5_46) hr
    · show own_Qc5 Z p1 p2 p3 p5 zc cf zb bf of_ nn h0 n0 _ Tl2.heap _
      rw [el2]
      exact ⟨p5, gf, rfl, Nl2, Kl2, Fl2_1, Or.inl ⟨rfl, fun i hi => (ivg i (by omega)).1, fun i hi => (ivg i (by omega)).2⟩⟩
  · rintro dd ⟨jj, i1, i3, i5, q6, gf, Tl2, Ll2, hl2, ivj, iv1, iv3, iv5, iv6, ivg, Xl2, el2, Nl2, Kl2, Zl2, Fl2_0, Fl2_1, kl2⟩ ih
    have k4 : ∀ t, Steps p.tables e below (Tl2.setTop (mkF m 10 #[.val (.ref p1), .val (.int i1), .val (.ref p3), .val (.int i3), .val (.int p5), .val (.int i5), q6] [])) t → Steps p.tables e below (s₁.setTop (entryFrame m #[(.ref p1), (.int p2), (.ref p3), (.int (0 : Int32)), (.int p5)] 7)) t := by
      intro t k
      refine kl2 t ?_
      show Steps p.tables e below (Tl2.setTop (mkF m 3 #[.val (.ref p1), .val (.int i1), .val (.ref p3), .val (.int i3), .val (.int p5), .val (.int i5), q6] [])) _
      refine XS.iload Xl2.here hx rfl (hb hby own_d5_3) rfl ?_
      show Steps p.tables e below (Tl2.setTop (mkF m 5 #[.val (.ref p1), .val (.int i1), .val (.ref p3), .val (.int i3), .val (.int p5), .val (.int i5), q6] [(.int i5)])) _
      refine XS.iload Xl2.here hx rfl (hb hby own_d5_5) rfl ?_
      show Steps p.tables e below (Tl2.setTop (mkF m 7 #[.val (.ref p1), .val (.int i1), .val (.ref p3), .val (.int i3), .val (.int p5), .val (.int i5), q6] [(.int p5), (.int i5)])) _
      refine XS.icmpNo Xl2.here hx rfl (hb hby own_d5_7) rfl (tlt (own_lt iv5 hp5 (by omega))).2.1 ?_
      exact k
    rcases iv6 with rfl | ⟨x6, rfl⟩
    · skip
      have k5 : ∀ t, Steps p.tables e below (Tl2.setTop (mkF m 20 #[.val (.ref p1), .val (.int i1), .val (.ref p3), .val (.int i3), .val (.int p5), .val (.int i5), .val (.int (cf (of_ + jj)))] [(.int (255 : Int32)), (.int (cf (of_ + jj)))])) t → Steps p.tables e below (s₁.setTop (entryFrame m #[(.ref p1), (.int p2), (.ref p3), (.int (0 : Int32)), (.int p5)] 7)) t := by
        intro t k
        refine k4 t ?_
        show Steps p.tables e below (Tl2.setTop (mkF m 10 #[.val (.ref p1), .val (.int i1), .val (.ref p3), .val (.int i3), .val (.int p5), .val (.int i5), .unset] [])) _
        refine XS.aloadN Xl2.here hx rfl (hb hby own_d5_10) rfl rfl ?_
        show Steps p.tables e below (Tl2.setTop (mkF m 11 #[.val (.ref p1), .val (.int i1), .val (.ref p3), .val (.int i3), .val (.int p5), .val (.int i5), .unset] [(.ref p1)])) _
        refine XS.iloadN Xl2.here hx rfl (hb hby own_d5_11) rfl ?_
        show Steps p.tables e below (Tl2.setTop (mkF m 12 #[.val (.ref p1), .val (.int i1), .val (.ref p3), .val (.int i3), .val (.int p5), .val (.int i5), .unset] [(.int i1), (.ref p1)])) _
        refine own_ldC Xl2 hx hZ el2 Fl2_0 (j := i1) iv1 (by omega) (g := (mkF m 12 #[.val (.ref p1), .val (.int i1), .val (.ref p3), .val (.int i3), .val (.int p5), .val (.int i5), .unset] [(.int i1), (.ref p1)])) rfl rfl (hb hby own_d5_12) ?_
        show Steps p.tables e below (Tl2.setTop (mkF m 13 #[.val (.ref p1), .val (.int i1), .val (.ref p3), .val (.int i3), .val (.int p5), .val (.int i5), .unset] [(.int (cf (of_ + jj)))])) _
        refine XS.istore Xl2.here hx rfl (hb hby own_d5_13) rfl (l' := #[.val (.ref p1), .val (.int i1), .val (.ref p3), .val (.int i3), .val (.int p5), .val (.int i5), .val (.int (cf (of_ + jj)))]) rfl ?_
        show Steps p.tables e below (Tl2.setTop (mkF m 15 #[.val (.ref p1), .val (.int i1), .val (.ref p3), .val (.int i3), .val (.int p5), .val (.int i5), .val (.int (cf (of_ + jj)))] [])) _
        refine XS.iload Xl2.here hx rfl (hb hby own_d5_15) rfl ?_
        show Steps p.tables e below (Tl2.setTop (mkF m 17 #[.val (.ref p1), .val (.int i1), .val (.ref p3), .val (.int i3), .val (.int p5), .val (.int i5), .val (.int (cf (of_ + jj)))] [(.int (cf (of_ + jj)))])) _
        refine XS.sipush Xl2.here hx rfl (hb hby own_d5_17) ?_
        exact k
      by_cases hc20_6 : (255 : Int32) < (cf (of_ + jj))
      · have k7 : ∀ t, Steps p.tables e below (Tl2.setTop (mkF m 25 #[.val (.ref p1), .val (.int i1), .val (.ref p3), .val (.int i3), .val (.int p5), .val (.int i5), .val (.int (cf (of_ + jj)))] [(.int i5)])) t → Steps p.tables e below (s₁.setTop (entryFrame m #[(.ref p1), (.int p2), (.ref p3), (.int (0 : Int32)), (.int p5)] 7)) t := by
          intro t k
          refine k5 t ?_
          show Steps p.tables e below (Tl2.setTop (mkF m 20 #[.val (.ref p1), .val (.int i1), .val (.ref p3), .val (.int i3), .val (.int p5), .val (.int i5), .val (.int (cf (of_ + jj)))] [(.int (255 : Int32)), (.int (cf (of_ + jj)))])) _
          refine XS.icmpNo Xl2.here hx rfl (hb hby own_d5_20) rfl (tlt hc20_6).2.2.2 ?_
          show Steps p.tables e below (Tl2.setTop (mkF m 23 #[.val (.ref p1), .val (.int i1), .val (.ref p3), .val (.int i3), .val (.int p5), .val (.int i5), .val (.int (cf (of_ + jj)))] [])) _
          refine XS.iload Xl2.here hx rfl (hb hby own_d5_23) rfl ?_
          exact k
        obtain ⟨fs, hr, hrun, hended, hW, hsame⟩ := Xl2.leave (v := (some (.int i5))) (fun h => by rw [Bd.returns] at h; cases h)
        refine ⟨_, _, k7 _ ?_, hrun, hended, _, _, rfl, ?_, ⟨_, rfl⟩, hW, hsame.mono (by decide) (by decide)⟩
        · exact retI Xl2 hx Bd.returns (hb hby own_d5_25) hr
        · show own_Qc5 Z p1 p2 p3 p5 zc cf zb bf of_ nn h0 n0 _ Tl2.heap _
          rw [el2]
          exact ⟨i5, gf, rfl, Nl2, Kl2, Fl2_1, Or.inr ⟨jj, by omega, iv5, hc20_6⟩⟩
      · have k8 : ∀ t, Steps p.tables e below (Tl2.setTop (mkF m 31 #[.val (.ref p1), .val (.int i1), .val (.ref p3), .val (.int i3), .val (.int p5), .val (.int i5), .val (.int (cf (of_ + jj)))] [(.int ((cf (of_ + jj)).toInt8.toInt32)), (.int i3), (.ref p3)])) t → Steps p.tables e below (s₁.setTop (entryFrame m #[(.ref p1), (.int p2), (.ref p3), (.int (0 : Int32)), (.int p5)] 7)) t := by
          intro t k
          refine k5 t ?_
          show Steps p.tables e below (Tl2.setTop (mkF m 20 #[.val (.ref p1), .val (.int i1), .val (.ref p3), .val (.int i3), .val (.int p5), .val (.int i5), .val (.int (cf (of_ + jj)))] [(.int (255 : Int32)), (.int (cf (of_ + jj)))])) _
          refine XS.icmpYes Xl2.here hx rfl (pc0 := 20) (pc' := 26) rfl (hb hby own_d5_20) rfl (flt hc20_6).2.2.2 (by decide) (by decide) ?_
          show Steps p.tables e below (Tl2.setTop (mkF m 26 #[.val (.ref p1), .val (.int i1), .val (.ref p3), .val (.int i3), .val (.int p5), .val (.int i5), .val (.int (cf (of_ + jj)))] [])) _
          refine XS.aloadN Xl2.here hx rfl (hb hby own_d5_26) rfl rfl ?_
          show Steps p.tables e below (Tl2.setTop (mkF m 27 #[.val (.ref p1), .val (.int i1), .val (.ref p3), .val (.int i3), .val (.int p5), .val (.int i5), .val (.int (cf (of_ + jj)))] [(.ref p3)])) _
          refine XS.iloadN Xl2.here hx rfl (hb hby own_d5_27) rfl ?_
          show Steps p.tables e below (Tl2.setTop (mkF m 28 #[.val (.ref p1), .val (.int i1), .val (.ref p3), .val (.int i3), .val (.int p5), .val (.int i5), .val (.int (cf (of_ + jj)))] [(.int i3), (.ref p3)])) _
          refine XS.iload Xl2.here hx rfl (hb hby own_d5_28) rfl ?_
          show Steps p.tables e below (Tl2.setTop (mkF m 30 #[.val (.ref p1), .val (.int i1), .val (.ref p3), .val (.int i3), .val (.int p5), .val (.int i5), .val (.int (cf (of_ + jj)))] [(.int (cf (of_ + jj))), (.int i3), (.ref p3)])) _
          refine XS.i2b Xl2.here hx rfl (hb hby own_d5_30) rfl ?_
          exact k
        obtain ⟨T9, h9, X9, e9, W9, G9, st9⟩ := own_stB Xl2 hx hZ el2 Fl2_1 (j := i3) iv3 (by omega) (g := (mkF m 31 #[.val (.ref p1), .val (.int i1), .val (.ref p3), .val (.int i3), .val (.int p5), .val (.int i5), .val (.int (cf (of_ + jj)))] [(.int ((cf (of_ + jj)).toInt8.toInt32)), (.int i3), (.ref p3)])) rfl rfl (hb hby own_d5_31)
        have f10 := Fl2_0.other W9 ne_p1_p3
        have N9 := Fr.snoc X9 Nl2 ge_p3
        have K9 : Keep h0 h9 [p3] := Kl2.wr W9 (Or.inl (List.mem_of_getElem? (i := 0) rfl))
        have Z9 : n0 ≤ h9.size := Nat.le_trans Zl2 (Keep.of_wr W9).1
        have k11 : ∀ t, Steps p.tables e below (T9.setTop (mkF m 32 #[.val (.ref p1), .val (.int i1), .val (.ref p3), .val (.int i3), .val (.int p5), .val (.int i5), .val (.int (cf (of_ + jj)))] [])) t → Steps p.tables e below (s₁.setTop (entryFrame m #[(.ref p1), (.int p2), (.ref p3), (.int (0 : Int32)), (.int p5)] 7)) t := fun t k => k8 t (st9 t k)
        have k12 : ∀ t, Steps p.tables e below (T9.setTop (mkF m 3 #[.val (.ref p1), .val (.int (i1 + (1 : Int32))), .val (.ref p3), .val (.int (i3 + (1 : Int32))), .val (.int p5), .val (.int (i5 + (1 : Int32))), .val (.int (cf (of_ + jj)))] [])) t → Steps p.tables e below (s₁.setTop (entryFrame m #[(.ref p1), (.int p2), (.ref p3), (.int (0 : Int32)), (.int p5)] 7)) t := by
          intro t k
          refine k11 t ?_
          show Steps p.tables e below (T9.setTop (mkF m 32 #[.val (.ref p1), .val (.int i1), .val (.ref p3), .val (.int i3), .val (.int p5), .val (.int i5), .val (.int (cf (of_ + jj)))] [])) _
          refine XS.iinc X9.here hx rfl (hb hby own_d5_32) rfl (l' := #[.val (.ref p1), .val (.int (i1 + (1 : Int32))), .val (.ref p3), .val (.int i3), .val (.int p5), .val (.int i5), .val (.int (cf (of_ + jj)))]) rfl ?_
          show Steps p.tables e below (T9.setTop (mkF m 35 #[.val (.ref p1), .val (.int (i1 + (1 : Int32))), .val (.ref p3), .val (.int i3), .val (.int p5), .val (.int i5), .val (.int (cf (of_ + jj)))] [])) _
          refine XS.iinc X9.here hx rfl (hb hby own_d5_35) rfl (l' := #[.val (.ref p1), .val (.int (i1 + (1 : Int32))), .val (.ref p3), .val (.int (i3 + (1 : Int32))), .val (.int p5), .val (.int i5), .val (.int (cf (of_ + jj)))]) rfl ?_
          show Steps p.tables e below (T9.setTop (mkF m 38 #[.val (.ref p1), .val (.int (i1 + (1 : Int32))), .val (.ref p3), .val (.int (i3 + (1 : Int32))), .val (.int p5), .val (.int i5), .val (.int (cf (of_ + jj)))] [])) _
          refine XS.iinc X9.here hx rfl (hb hby own_d5_38) rfl (l' := #[.val (.ref p1), .val (.int (i1 + (1 : Int32))), .val (.ref p3), .val (.int (i3 + (1 : Int32))), .val (.int p5), .val (.int (i5 + (1 : Int32))), .val (.int (cf (of_ + jj)))]) rfl ?_
          show Steps p.tables e below (T9.setTop (mkF m 41 #[.val (.ref p1), .val (.int (i1 + (1 : Int32))), .val (.ref p3), .val (.int (i3 + (1 : Int32))), .val (.int p5), .val (.int (i5 + (1 : Int32))), .val (.int (cf (of_ + jj)))] [])) _
          refine XS.goto X9.here hx rfl (pc0 := 41) (pc' := 3) rfl (hb hby own_d5_41) (by decide) (by decide) ?_
          exact k
        exact ih ⟨(jj + 1), (i1 + (1 : Int32)), (i3 + (1 : Int32)), (i5 + (1 : Int32)), _, _, _, _, _, (by omega), (by have z := own_inc iv1 (by omega); omega), (own_inc iv3 (by omega)), (own_inc iv5 (by omega)), Or.inr ⟨_, rfl⟩, (own_b8s ivg hc20_6), X9, e9, N9, K9, Z9, f10, G9, k12⟩
    · skip
      have k13 : ∀ t, Steps p.tables e below (Tl2.setTop (mkF m 20 #[.val (.ref p1), .val (.int i1), .val (.ref p3), .val (.int i3), .val (.int p5), .val (.int i5), .val (.int (cf (of_ + jj)))] [(.int (255 : Int32)), (.int (cf (of_ + jj)))])) t → Steps p.tables e below (s₁.setTop (entryFrame m #[(.ref p1), (.int p2), (.ref p3), (.int (0 : Int32)), (.int p5)] 7)) t := by
        intro t k
        refine k4 t ?_
        show Steps p.tables e below (Tl2.setTop (mkF m 10 #[.val (.ref p1), .val (.int i1), .val (.ref p3), .val (.int i3), .val (.int p5), .val (.int i5), .val (.int x6)] [])) _
        refine XS.aloadN Xl2.here hx rfl (hb hby own_d5_10) rfl rfl ?_
        show Steps p.tables e below (Tl2.setTop (mkF m 11 #[.val (.ref p1), .val (.int i1), .val (.ref p3), .val (.int i3), .val (.int p5), .val (.int i5), .val (.int x6)] [(.ref p1)])) _
        refine XS.iloadN Xl2.here hx rfl (hb hby own_d5_11) rfl ?_
        show Steps p.tables e below (Tl2.setTop (mkF m 12 #[.val (.ref p1), .val (.int i1), .val (.ref p3), .val (.int i3), .val (.int p5), .val (.int i5), .val (.int x6)] [(.int i1), (.ref p1)])) _
        refine own_ldC Xl2 hx hZ el2 Fl2_0 (j := i1) iv1 (by omega) (g := (mkF m 12 #[.val (.ref p1), .val (.int i1), .val (.ref p3), .val (.int i3), .val (.int p5), .val (.int i5), .val (.int x6)] [(.int i1), (.ref p1)])) rfl rfl (hb hby own_d5_12) ?_
        show Steps p.tables e below (Tl2.setTop (mkF m 13 #[.val (.ref p1), .val (.int i1), .val (.ref p3), .val (.int i3), .val (.int p5), .val (.int i5), .val (.int x6)] [(.int (cf (of_ + jj)))])) _
        refine XS.istore Xl2.here hx rfl (hb hby own_d5_13) rfl (l' := #[.val (.ref p1), .val (.int i1), .val (.ref p3), .val (.int i3), .val (.int p5), .val (.int i5), .val (.int (cf (of_ + jj)))]) rfl ?_
        show Steps p.tables e below (Tl2.setTop (mkF m 15 #[.val (.ref p1), .val (.int i1), .val (.ref p3), .val (.int i3), .val (.int p5), .val (.int i5), .val (.int (cf (of_ + jj)))] [])) _
        refine XS.iload Xl2.here hx rfl (hb hby own_d5_15) rfl ?_
        show Steps p.tables e below (Tl2.setTop (mkF m 17 #[.val (.ref p1), .val (.int i1), .val (.ref p3), .val (.int i3), .val (.int p5), .val (.int i5), .val (.int (cf (of_ + jj)))] [(.int (cf (of_ + jj)))])) _
        refine XS.sipush Xl2.here hx rfl (hb hby own_d5_17) ?_
        exact k
      by_cases hc20_14 : (255 : Int32) < (cf (of_ + jj))
      · have k15 : ∀ t, Steps p.tables e below (Tl2.setTop (mkF m 25 #[.val (.ref p1), .val (.int i1), .val (.ref p3), .val (.int i3), .val (.int p5), .val (.int i5), .val (.int (cf (of_ + jj)))] [(.int i5)])) t → Steps p.tables e below (s₁.setTop (entryFrame m #[(.ref p1), (.int p2), (.ref p3), (.int (0 : Int32)), (.int p5)] 7)) t := by
          intro t k
          refine k13 t ?_
          show Steps p.tables e below (Tl2.setTop (mkF m 20 #[.val (.ref p1), .val (.int i1), .val (.ref p3), .val (.int i3), .val (.int p5), .val (.int i5), .val (.int (cf (of_ + jj)))] [(.int (255 : Int32)), (.int (cf (of_ + jj)))])) _
          refine XS.icmpNo Xl2.here hx rfl (hb hby own_d5_20) rfl (tlt hc20_14).2.2.2 ?_
          show Steps p.tables e below (Tl2.setTop (mkF m 23 #[.val (.ref p1), .val (.int i1), .val (.ref p3), .val (.int i3), .val (.int p5), .val (.int i5), .val (.int (cf (of_ + jj)))] [])) _
          refine XS.iload Xl2.here hx rfl (hb hby own_d5_23) rfl ?_
          exact k
        obtain ⟨fs, hr, hrun, hended, hW, hsame⟩ := Xl2.leave (v := (some (.int i5))) (fun h => by rw [Bd.returns] at h; cases h)
        refine ⟨_, _, k15 _ ?_, hrun, hended, _, _, rfl, ?_, ⟨_, rfl⟩, hW, hsame.mono (by decide) (by decide)⟩
        · exact retI Xl2 hx Bd.returns (hb hby own_d5_25) hr
        · show own_Qc5 Z p1 p2 p3 p5 zc cf zb bf of_ nn h0 n0 _ Tl2.heap _
          rw [el2]
          exact ⟨i5, gf, rfl, Nl2, Kl2, Fl2_1, Or.inr ⟨jj, by omega, iv5, hc20_14⟩⟩
      · have k16 : ∀ t, Steps p.tables e below (Tl2.setTop (mkF m 31 #[.val (.ref p1), .val (.int i1), .val (.ref p3), .val (.int i3), .val (.int p5), .val (.int i5), .val (.int (cf (of_ + jj)))] [(.int ((cf (of_ + jj)).toInt8.toInt32)), (.int i3), (.ref p3)])) t → Steps p.tables e below (s₁.setTop (entryFrame m #[(.ref p1), (.int p2), (.ref p3), (.int (0 : Int32)), (.int p5)] 7)) t := by
          intro t k
          refine k13 t ?_
          show Steps p.tables e below (Tl2.setTop (mkF m 20 #[.val (.ref p1), .val (.int i1), .val (.ref p3), .val (.int i3), .val (.int p5), .val (.int i5), .val (.int (cf (of_ + jj)))] [(.int (255 : Int32)), (.int (cf (of_ + jj)))])) _
          refine XS.icmpYes Xl2.here hx rfl (pc0 := 20) (pc' := 26) rfl (hb hby own_d5_20) rfl (flt hc20_14).2.2.2 (by decide) (by decide) ?_
          show Steps p.tables e below (Tl2.setTop (mkF m 26 #[.val (.ref p1), .val (.int i1), .val (.ref p3), .val (.int i3), .val (.int p5), .val (.int i5), .val (.int (cf (of_ + jj)))] [])) _
          refine XS.aloadN Xl2.here hx rfl (hb hby own_d5_26) rfl rfl ?_
          show Steps p.tables e below (Tl2.setTop (mkF m 27 #[.val (.ref p1), .val (.int i1), .val (.ref p3), .val (.int i3), .val (.int p5), .val (.int i5), .val (.int (cf (of_ + jj)))] [(.ref p3)])) _
          refine XS.iloadN Xl2.here hx rfl (hb hby own_d5_27) rfl ?_
          show Steps p.tables e below (Tl2.setTop (mkF m 28 #[.val (.ref p1), .val (.int i1), .val (.ref p3), .val (.int i3), .val (.int p5), .val (.int i5), .val (.int (cf (of_ + jj)))] [(.int i3), (.ref p3)])) _
          refine XS.iload Xl2.here hx rfl (hb hby own_d5_28) rfl ?_
          show Steps p.tables e below (Tl2.setTop (mkF m 30 #[.val (.ref p1), .val (.int i1), .val (.ref p3), .val (.int i3), .val (.int p5), .val (.int i5), .val (.int (cf (of_ + jj)))] [(.int (cf (of_ + jj))), (.int i3), (.ref p3)])) _
          refine XS.i2b Xl2.here hx rfl (hb hby own_d5_30) rfl ?_
          exact k
        obtain ⟨T17, h17, X17, e17, W17, G17, st17⟩ := own_stB Xl2 hx hZ el2 Fl2_1 (j := i3) iv3 (by omega) (g := (mkF m 31 #[.val (.ref p1), .val (.int i1), .val (.ref p3), .val (.int i3), .val (.int p5), .val (.int i5), .val (.int (cf (of_ + jj)))] [(.int ((cf (of_ + jj)).toInt8.toInt32)), (.int i3), (.ref p3)])) rfl rfl (hb hby own_d5_31)
        have f18 := Fl2_0.other W17 ne_p1_p3
        have N17 := Fr.snoc X17 Nl2 ge_p3
        have K17 : Keep h0 h17 [p3] := Kl2.wr W17 (Or.inl (List.mem_of_getElem? (i := 0) rfl))
        have Z17 : n0 ≤ h17.size := Nat.le_trans Zl2 (Keep.of_wr W17).1
        have k19 : ∀ t, Steps p.tables e below (T17.setTop (mkF m 32 #[.val (.ref p1), .val (.int i1), .val (.ref p3), .val (.int i3), .val (.int p5), .val (.int i5), .val (.int (cf (of_ + jj)))] [])) t → Steps p.tables e below (s₁.setTop (entryFrame m #[(.ref p1), (.int p2), (.ref p3), (.int (0 : Int32)), (.int p5)] 7)) t := fun t k => k16 t (st17 t k)
        have k20 : ∀ t, Steps p.tables e below (T17.setTop (mkF m 3 #[.val (.ref p1), .val (.int (i1 + (1 : Int32))), .val (.ref p3), .val (.int (i3 + (1 : Int32))), .val (.int p5), .val (.int (i5 + (1 : Int32))), .val (.int (cf (of_ + jj)))] [])) t → Steps p.tables e below (s₁.setTop (entryFrame m #[(.ref p1), (.int p2), (.ref p3), (.int (0 : Int32)), (.int p5)] 7)) t := by
          intro t k
          refine k19 t ?_
          show Steps p.tables e below (T17.setTop (mkF m 32 #[.val (.ref p1), .val (.int i1), .val (.ref p3), .val (.int i3), .val (.int p5), .val (.int i5), .val (.int (cf (of_ + jj)))] [])) _
          refine XS.iinc X17.here hx rfl (hb hby own_d5_32) rfl (l' := #[.val (.ref p1), .val (.int (i1 + (1 : Int32))), .val (.ref p3), .val (.int i3), .val (.int p5), .val (.int i5), .val (.int (cf (of_ + jj)))]) rfl ?_
          show Steps p.tables e below (T17.setTop (mkF m 35 #[.val (.ref p1), .val (.int (i1 + (1 : Int32))), .val (.ref p3), .val (.int i3), .val (.int p5), .val (.int i5), .val (.int (cf (of_ + jj)))] [])) _
          refine XS.iinc X17.here hx rfl (hb hby own_d5_35) rfl (l' := #[.val (.ref p1), .val (.int (i1 + (1 : Int32))), .val (.ref p3), .val (.int (i3 + (1 : Int32))), .val (.int p5), .val (.int i5), .val (.int (cf (of_ + jj)))]) rfl ?_
          show Steps p.tables e below (T17.setTop (mkF m 38 #[.val (.ref p1), .val (.int (i1 + (1 : Int32))), .val (.ref p3), .val (.int (i3 + (1 : Int32))), .val (.int p5), .val (.int i5), .val (.int (cf (of_ + jj)))] [])) _
          refine XS.iinc X17.here hx rfl (hb hby own_d5_38) rfl (l' := #[.val (.ref p1), .val (.int (i1 + (1 : Int32))), .val (.ref p3), .val (.int (i3 + (1 : Int32))), .val (.int p5), .val (.int (i5 + (1 : Int32))), .val (.int (cf (of_ + jj)))]) rfl ?_
          show Steps p.tables e below (T17.setTop (mkF m 41 #[.val (.ref p1), .val (.int (i1 + (1 : Int32))), .val (.ref p3), .val (.int (i3 + (1 : Int32))), .val (.int p5), .val (.int (i5 + (1 : Int32))), .val (.int (cf (of_ + jj)))] [])) _
          refine XS.goto X17.here hx rfl (pc0 := 41) (pc' := 3) rfl (hb hby own_d5_41) (by decide) (by decide) ?_
          exact k
        exact ih ⟨(jj + 1), (i1 + (1 : Int32)), (i3 + (1 : Int32)), (i5 + (1 : Int32)), _, _, _, _, _, (by omega), (by have z := own_inc iv1 (by omega); omega), (own_inc iv3 (by omega)), (own_inc iv5 (by omega)), Or.inr ⟨_, rfl⟩, (own_b8s ivg hc20_14), X17, e17, N17, K17, Z17, f18, G17, k20⟩
theorem own_noB {P : Prop} {n : Nat} {cf : Nat → Int32} {o : Nat} {r : Int32} (hal : ∀ i, i < n → ¬ ((255 : Int32) < cf (o + i))) (h : P ∨ (∃ j, j < n ∧ r.toInt = (j : Int) ∧ (255 : Int32) < cf (o + j))) : P := by
  rcases h with h | ⟨j, h1, -, h2⟩
  · exact h
  · exact absurd h2 (hal j h1)
theorem own_d4_0 : decode jdk_52_method_16_code 0 = .ok (.iload_n 2, 1) := by decide +kernel
theorem own_d4_1 : decode jdk_52_method_16_code 1 = .ok (.newarray .byte, 2) := by decide +kernel
theorem own_d4_3 : decode jdk_52_method_16_code 3 = .ok (.astore_n 3, 1) := by decide +kernel
theorem own_d4_4 : decode jdk_52_method_16_code 4 = .ok (.aload_n 0, 1) := by decide +kernel
theorem own_d4_5 : decode jdk_52_method_16_code 5 = .ok (.iload_n 1, 1) := by decide +kernel
theorem own_d4_6 : decode jdk_52_method_16_code 6 = .ok (.aload_n 3, 1) := by decide +kernel
theorem own_d4_7 : decode jdk_52_method_16_code 7 = .ok (.iconst 0, 1) := by decide +kernel
theorem own_d4_8 : decode jdk_52_method_16_code 8 = .ok (.iload_n 2, 1) := by decide +kernel
theorem own_d4_9 : decode jdk_52_method_16_code 9 = .ok (.invokestatic 115, 3) := by decide +kernel
theorem own_d4_12 : decode jdk_52_method_16_code 12 = .ok (.istore 4, 2) := by decide +kernel
theorem own_d4_14 : decode jdk_52_method_16_code 14 = .ok (.iload 4, 2) := by decide +kernel
theorem own_d4_16 : decode jdk_52_method_16_code 16 = .ok (.iload_n 2, 1) := by decide +kernel
theorem own_d4_17 : decode jdk_52_method_16_code 17 = .ok (.if_icmp .eq 40, 3) := by decide +kernel
theorem own_d4_57 : decode jdk_52_method_16_code 57 = .ok (.aload_n 3, 1) := by decide +kernel
theorem own_d4_58 : decode jdk_52_method_16_code 58 = .ok (.areturn, 1) := by decide +kernel
theorem own_pd0 : parseMethodDescriptor "([CI[BII)I" = some ⟨[(.array .char), .int, (.array .byte), .int, .int], some .int⟩ := by decide +kernel
theorem own_efc4 (m : MethodId) (x0 : Addr) (x1 : Int32) (x2 : Int32) : entryFrame m #[(.ref x0), (.int x1), (.int x2)] 6 = mkF m 0 #[.val (.ref x0), .val (.int x1), .val (.int x2), .unset, .unset, .unset] [] := by first | (simp [entryFrame, mkF, argsToLocals, Value.category]; done) | rfl
def own_Qc4 (Z : State) (p1 : Addr) (p2 : Int32) (p3 : Int32) (zc : Nat) (cf : Nat → Int32) (of_ : Nat) (nn : Nat) (h0 : Heap) (n0 : Nat) (v : Option Value) (h : Heap) (L : List Loc) : Prop := ∃ (b : Addr), v = some (.ref b) ∧ Fr n0 L ∧ Keep h0 h [] ∧ h0.size ≤ b ∧ own_G Z h b .byte nn (own_b8 cf of_)
def own_Rc4 : Room := { frames := 1, cells := 1, slots := 28, locals := 18 }
set_option maxRecDepth 65536 in
set_option maxHeartbeats 40000000 in
theorem own_rmc4 (l : Launch) (Z : State) (a0 : Array Value) (hw : ∀ d ∈ tables_1, d.before a0 Z = true) (ws : List Jvm.Cond) (p1 : Addr) (p2 : Int32) (p3 : Int32) (zc : Nat) (cf : Nat → Int32) (of_ : Nat) (nn : Nat) (h0 : Heap) (n0 : Nat) (Z0 : n0 ≤ h0.size) (P0 : own_G Z h0 p1 .char zc cf) (hp2 : p2.toInt = (of_ : Int)) (hp3 : p3.toInt = (nn : Int)) (hbo : of_ + nn ≤ zc) (hz : zc ≤ 1000000) (hn : nn ≤ 28) (hal : ∀ i, i < nn → ¬ ((255 : Int32) < cf (of_ + i))) :
    MetFree l (⟨"java/lang/StringUTF16", "compress", "([CII)[B"⟩ : MethodName) (head1 (Jvm.Cond.code (⟨"java/lang/StringUTF16", "compress", "([CII)[B"⟩ : MethodName) jdk_52_method_16_code 6 (some (.array .byte)) :: ws) own_Rc4) (fun aa U => aa = #[(.ref p1), (.int p2), (.int p3)] ∧ Z.Warmed39 U.vm ∧ U.heap = h0) (fun _ _ _ _ _ => True) (fun _ U o U' => ∃ v L, o = .returned v ∧ own_Qc4 Z p1 p2 p3 zc cf of_ nn h0 n0 v U'.heap L ∧ FrameEnd U o U' L own_Rc4.cells own_Rc4.slots) := by
  refine MetFree.of_bodySF (plainFor_of_name own_pn0) hisR ?_
  intro p e s m args below meth c s₁ Bd hml0 hP hK
  obtain ⟨rfl, hZ, hh⟩ := hP
  have hx := Bd.exec
  have hby := Bd.bytes
  have hml : c.maxLocals = 6 := hml0
  have hown : s.vm.findClass "java/lang/StringUTF16" = some m.cls := findClass_of_methodNamed Bd.named
  have hnm := (name_of_methodNamed Bd.named Bd.method).1
  have X0 : Stand p l e own_Rc4 s m #[(.ref p1), (.int p2), (.int p3)] below meth c s₁ [] 0 0 := Stand.of_body Bd
  have e0 : s₁.heap = h0 := by rw [← hh, Bd.state]; rfl
  have N0 := Fr.nil n0
  have pre0 : ∀ t, Steps p.tables e below (s₁.setTop (mkF m 0 #[.val (.ref p1), .val (.int p2), .val (.int p3), .unset, .unset, .unset] [])) t → Steps p.tables e below (s₁.setTop (entryFrame m #[(.ref p1), (.int p2), (.int p3)] 6)) t := fun t k => castTop (own_efc4 m p1 p2 p3) k
  have k1 : ∀ t, Steps p.tables e below (s₁.setTop (mkF m 1 #[.val (.ref p1), .val (.int p2), .val (.int p3), .unset, .unset, .unset] [(.int p3)])) t → Steps p.tables e below (s₁.setTop (entryFrame m #[(.ref p1), (.int p2), (.int p3)] 6)) t := by
    intro t k
    refine pre0 t ?_
    show Steps p.tables e below (s₁.setTop (mkF m 0 #[.val (.ref p1), .val (.int p2), .val (.int p3), .unset, .unset, .unset] [])) _
    refine XS.iloadN X0.here hx rfl (hb hby own_d4_0) rfl ?_
    exact k
  obtain ⟨T2, h2, X2, e2, E2, A2, st2⟩ := own_newB X0 hx hZ (hw _ (List.mem_of_getElem? (i := 3) rfl)) e0 (g := (mkF m 1 #[.val (.ref p1), .val (.int p2), .val (.int p3), .unset, .unset, .unset] [(.int p3)])) rfl (hb hby own_d4_1) rfl (n := nn) hp3 (cap := 28) (by omega) (by decide) (by decide) (by decide)
  obtain ⟨b2, g2⟩ : ∃ z, z = h0.size := ⟨_, rfl⟩
  rw [← g2] at A2 st2
  have ge2 : n0 ≤ b2 := Nat.le_trans Z0 (Nat.le_of_eq g2.symm)
  have bo2 : h0.size ≤ b2 := Nat.le_trans (Keep.refl h0 []).1 (Nat.le_of_eq g2.symm)
  have ne3 : p1 ≠ b2 := Nat.ne_of_lt (Nat.lt_of_lt_of_le P0.lt (Nat.le_of_eq g2.symm))
  have Z2 : n0 ≤ h2.size := Nat.le_trans Z0 E2.1
  have K2 : Keep h0 h2 [] := (Keep.refl h0 []).ext E2
  have f4 := P0.ext E2
  have k5 : ∀ t, Steps p.tables e below (T2.setTop (mkF m 3 #[.val (.ref p1), .val (.int p2), .val (.int p3), .unset, .unset, .unset] [(.ref b2)])) t → Steps p.tables e below (s₁.setTop (entryFrame m #[(.ref p1), (.int p2), (.int p3)] 6)) t := fun t k => k1 t (st2 t k)
  have k6 : ∀ t, Steps p.tables e below (T2.setTop (mkF m 9 #[.val (.ref p1), .val (.int p2), .val (.int p3), .val (.ref b2), .unset, .unset] [(.int p3), (.int (0 : Int32)), (.ref b2), (.int p2), (.ref p1)])) t → Steps p.tables e below (s₁.setTop (entryFrame m #[(.ref p1), (.int p2), (.int p3)] 6)) t := by
    intro t k
    refine k5 t ?_
    show Steps p.tables e below (T2.setTop (mkF m 3 #[.val (.ref p1), .val (.int p2), .val (.int p3), .unset, .unset, .unset] [(.ref b2)])) _
    refine XS.astoreN X2.here hx rfl (hb hby own_d4_3) rfl rfl (l' := #[.val (.ref p1), .val (.int p2), .val (.int p3), .val (.ref b2), .unset, .unset]) rfl ?_
    show Steps p.tables e below (T2.setTop (mkF m 4 #[.val (.ref p1), .val (.int p2), .val (.int p3), .val (.ref b2), .unset, .unset] [])) _
    refine XS.aloadN X2.here hx rfl (hb hby own_d4_4) rfl rfl ?_
    show Steps p.tables e below (T2.setTop (mkF m 5 #[.val (.ref p1), .val (.int p2), .val (.int p3), .val (.ref b2), .unset, .unset] [(.ref p1)])) _
    refine XS.iloadN X2.here hx rfl (hb hby own_d4_5) rfl ?_
    show Steps p.tables e below (T2.setTop (mkF m 6 #[.val (.ref p1), .val (.int p2), .val (.int p3), .val (.ref b2), .unset, .unset] [(.int p2), (.ref p1)])) _
    refine XS.aloadN X2.here hx rfl (hb hby own_d4_6) rfl rfl ?_
    show Steps p.tables e below (T2.setTop (mkF m 7 #[.val (.ref p1), .val (.int p2), .val (.int p3), .val (.ref b2), .unset, .unset] [(.ref b2), (.int p2), (.ref p1)])) _
    refine XS.iconst X2.here hx rfl (hb hby own_d4_7) ?_
    show Steps p.tables e below (T2.setTop (mkF m 8 #[.val (.ref p1), .val (.int p2), .val (.int p3), .val (.ref b2), .unset, .unset] [(.int (0 : Int32)), (.ref b2), (.int p2), (.ref p1)])) _
    refine XS.iloadN X2.here hx rfl (hb hby own_d4_8) rfl ?_
    exact k
  obtain ⟨_, _, ⟨T7, L7, k7c, n7⟩, -, X7, ⟨Lc7, hQ7, l7, y7, z7⟩, st7⟩ := Jvm.LawKit.callS X2 hx (y := (⟨"java/lang/StringUTF16", "compress", "([CI[BII)I"⟩ : MethodName)) hown (mvT hZ (hw _ (List.mem_of_getElem? (i := 25) rfl))) (mvT hZ (hw _ (List.mem_of_getElem? (i := 26) rfl))) (mvT hZ (hw _ (List.mem_of_getElem? (i := 23) rfl))) (mvT hZ (hw _ (List.mem_of_getElem? (i := 27) rfl))) (by decide) (backOf (W := 0) (own_rmc5 l Z a0 hw [] p1 p2 b2 p3 zc cf nn own_zero of_ nn h2 n0 Z2 f4 A2 ge2 ne3 hp2 hp3 (by omega) (by omega) (by omega) (by omega)) hZ (hw _ (List.mem_of_getElem? (i := 27) rfl)) (hw _ (List.mem_of_getElem? (i := 23) rfl)) (by decide) (by decide)) (g := (mkF m 9 #[.val (.ref p1), .val (.int p2), .val (.int p3), .val (.ref b2), .unset, .unset] [(.int p3), (.int (0 : Int32)), (.ref b2), (.int p2), (.ref p1)])) rfl (by rw [hml]; rfl) (argsL := [(.ref p1), (.int p2), (.ref b2), (.int (0 : Int32)), (.int p3)]) (rest := []) (lenOf own_pd0 rfl) rfl (by show 2 * 0 + _ ≤ _; exact Nat.le_of_eq rfl) (hb hby own_d4_9) (fun _ _ => ⟨rfl, e2, (by decide : 1 + 0 ≤ _), (by decide : 28 + 0 ≤ _)⟩)
  dsimp only [Pt.U, Pt.locs, Pt.cells, Pt.slots] at X7 l7 y7 z7 st7 hQ7
  subst l7 y7 z7
  obtain ⟨r_7, gf_7, rfl, N7q, Kq7, fq7_0, hq7_hr⟩ := hQ7
  have N7 := Fr.app N0 N7q
  have f8 := f4.keep Kq7 (List.not_mem_cons_of_ne_of_not_mem ne3 List.not_mem_nil)
  have Z7 : n0 ≤ T7.heap.size := Nat.le_trans Z2 Kq7.1
  have K7 : Keep h0 T7.heap [] := K2.trans Kq7 (fun x hx => by rcases List.mem_cons.mp hx with rfl | hx; exact Or.inr bo2; exact nomatch hx)
  have k9 : ∀ t, Steps p.tables e below (T7.setTop (mkF m 12 #[.val (.ref p1), .val (.int p2), .val (.int p3), .val (.ref b2), .unset, .unset] [(.int r_7)])) t → Steps p.tables e below (s₁.setTop (entryFrame m #[(.ref p1), (.int p2), (.int p3)] 6)) t := fun t k => k6 t (st7 t k)
  obtain ⟨hra, hrb, hrc⟩ := own_noB hal hq7_hr
  have k10 : ∀ t, Steps p.tables e below (T7.setTop (mkF m 58 #[.val (.ref p1), .val (.int p2), .val (.int p3), .val (.ref b2), .val (.int r_7), .unset] [(.ref b2)])) t → Steps p.tables e below (s₁.setTop (entryFrame m #[(.ref p1), (.int p2), (.int p3)] 6)) t := by
    intro t k
    refine k9 t ?_
    show Steps p.tables e below (T7.setTop (mkF m 12 #[.val (.ref p1), .val (.int p2), .val (.int p3), .val (.ref b2), .unset, .unset] [(.int r_7)])) _
    refine XS.istore X7.here hx rfl (hb hby own_d4_12) rfl (l' := #[.val (.ref p1), .val (.int p2), .val (.int p3), .val (.ref b2), .val (.int r_7), .unset]) rfl ?_
    show Steps p.tables e below (T7.setTop (mkF m 14 #[.val (.ref p1), .val (.int p2), .val (.int p3), .val (.ref b2), .val (.int r_7), .unset] [])) _
    refine XS.iload X7.here hx rfl (hb hby own_d4_14) rfl ?_
    show Steps p.tables e below (T7.setTop (mkF m 16 #[.val (.ref p1), .val (.int p2), .val (.int p3), .val (.ref b2), .val (.int r_7), .unset] [(.int r_7)])) _
    refine XS.iloadN X7.here hx rfl (hb hby own_d4_16) rfl ?_
    show Steps p.tables e below (T7.setTop (mkF m 17 #[.val (.ref p1), .val (.int p2), .val (.int p3), .val (.ref b2), .val (.int r_7), .unset] [(.int p3), (.int r_7)])) _
    refine XS.icmpYes X7.here hx rfl (pc0 := 17) (pc' := 57) rfl (hb hby own_d4_17) rfl (teq hra).1 (by decide) (by decide) ?_
    show Steps p.tables e below (T7.setTop (mkF m 57 #[.val (.ref p1), .val (.int p2), .val (.int p3), .val (.ref b2), .val (.int r_7), .unset] [])) _
    refine XS.aloadN X7.here hx rfl (hb hby own_d4_57) rfl rfl ?_
    exact k
  obtain ⟨fs, hr, hrun, hended, hW, hsame⟩ := X7.leave (v := (some (.ref b2))) (fun h => by rw [Bd.returns] at h; cases h)
  refine ⟨_, _, k10 _ ?_, hrun, hended, _, _, rfl, ?_, ⟨_, rfl⟩, hW, hsame.mono (by decide) (by decide)⟩
  · exact retOut X7 hx Bd.returns rfl (Or.inr (Or.inr (Or.inr (Or.inr ⟨rfl, rfl, rfl⟩)))) (hb hby own_d4_58) hr
  · show own_Qc4 Z p1 p2 p3 zc cf of_ nn h0 n0 _ T7.heap _
    exact ⟨b2, rfl, N7, K7, bo2, (fq7_0.congr hrc)⟩
theorem own_d6_0 : decode jdk_52_method_15_code 0 = .ok (.iload_n 1, 1) := by decide +kernel
theorem own_d6_1 : decode jdk_52_method_15_code 1 = .ok (.aload_n 0, 1) := by decide +kernel
theorem own_d6_2 : decode jdk_52_method_15_code 2 = .ok (.arraylength, 1) := by decide +kernel
theorem own_d6_3 : decode jdk_52_method_15_code 3 = .ok (.isub, 1) := by decide +kernel
theorem own_d6_4 : decode jdk_52_method_15_code 4 = .ok (.bipush 31, 2) := by decide +kernel
theorem own_d6_6 : decode jdk_52_method_15_code 6 = .ok (.iushr, 1) := by decide +kernel
theorem own_d6_7 : decode jdk_52_method_15_code 7 = .ok (.i2b, 1) := by decide +kernel
theorem own_d6_8 : decode jdk_52_method_15_code 8 = .ok (.ireturn, 1) := by decide +kernel
theorem own_efcl0 (m : MethodId) (x0 : Addr) (x1 : Int32) : entryFrame m #[(.ref x0), (.int x1)] 2 = mkF m 0 #[.val (.ref x0), .val (.int x1)] [] := by first | (simp [entryFrame, mkF, argsToLocals, Value.category]; done) | rfl
def own_Qcl0 (Z : State) (p1 : Addr) (p2 : Int32) (bf : Nat → Int32) (nn : Nat) (h0 : Heap) (n0 : Nat) (v : Option Value) (h : Heap) (L : List Loc) : Prop := v = some (.int (0 : Int32)) ∧ Fr n0 L ∧ h = h0
def own_Rcl0 : Room := { frames := 0, cells := 0, slots := 0, locals := 0 }
set_option maxRecDepth 65536 in
set_option maxHeartbeats 40000000 in
theorem own_rmcl0 (l : Launch) (Z : State) (a0 : Array Value) (hw : ∀ d ∈ tables_1, d.before a0 Z = true) (ws : List Jvm.Cond) (p1 : Addr) (p2 : Int32) (bf : Nat → Int32) (nn : Nat) (h0 : Heap) (n0 : Nat) (Z0 : n0 ≤ h0.size) (P0 : own_G Z h0 p1 .byte nn bf) (hp2 : p2.toInt = (nn : Int)) (hn : nn ≤ 28) :
    MetFree l (⟨"java/lang/StringUTF16", "coderFromArrayLen", "([BI)B"⟩ : MethodName) (head1 (Jvm.Cond.code (⟨"java/lang/StringUTF16", "coderFromArrayLen", "([BI)B"⟩ : MethodName) jdk_52_method_15_code 2 (some .byte) :: ws) own_Rcl0) (fun aa U => aa = #[(.ref p1), (.int p2)] ∧ Z.Warmed39 U.vm ∧ U.heap = h0) (fun _ _ _ _ _ => True) (fun _ U o U' => ∃ v L, o = .returned v ∧ own_Qcl0 Z p1 p2 bf nn h0 n0 v U'.heap L ∧ FrameEnd U o U' L own_Rcl0.cells own_Rcl0.slots) := by
  refine MetFree.of_bodySF (plainFor_of_name own_pn0) hisR ?_
  intro p e s m args below meth c s₁ Bd hml0 hP hK
  obtain ⟨rfl, hZ, hh⟩ := hP
  have hx := Bd.exec
  have hby := Bd.bytes
  have hml : c.maxLocals = 2 := hml0
  have hown : s.vm.findClass "java/lang/StringUTF16" = some m.cls := findClass_of_methodNamed Bd.named
  have hnm := (name_of_methodNamed Bd.named Bd.method).1
  have X0 : Stand p l e own_Rcl0 s m #[(.ref p1), (.int p2)] below meth c s₁ [] 0 0 := Stand.of_body Bd
  have e0 : s₁.heap = h0 := by rw [← hh, Bd.state]; rfl
  have N0 := Fr.nil n0
  have pre0 : ∀ t, Steps p.tables e below (s₁.setTop (mkF m 0 #[.val (.ref p1), .val (.int p2)] [])) t → Steps p.tables e below (s₁.setTop (entryFrame m #[(.ref p1), (.int p2)] 2)) t := fun t k => castTop (own_efcl0 m p1 p2) k
  have k1 : ∀ t, Steps p.tables e below (s₁.setTop (mkF m 8 #[.val (.ref p1), .val (.int p2)] [(.int ((((p2 - (Nat.toInt32 nn)).toUInt32 >>> ((31 : Int32) &&& 31).toUInt32).toInt32).toInt8.toInt32))])) t → Steps p.tables e below (s₁.setTop (entryFrame m #[(.ref p1), (.int p2)] 2)) t := by
    intro t k
    refine pre0 t ?_
    show Steps p.tables e below (s₁.setTop (mkF m 0 #[.val (.ref p1), .val (.int p2)] [])) _
    refine XS.iloadN X0.here hx rfl (hb hby own_d6_0) rfl ?_
    show Steps p.tables e below (s₁.setTop (mkF m 1 #[.val (.ref p1), .val (.int p2)] [(.int p2)])) _
    refine XS.aloadN X0.here hx rfl (hb hby own_d6_1) rfl rfl ?_
    show Steps p.tables e below (s₁.setTop (mkF m 2 #[.val (.ref p1), .val (.int p2)] [(.ref p1), (.int p2)])) _
    refine own_len X0 hx hZ e0 P0 (g := (mkF m 2 #[.val (.ref p1), .val (.int p2)] [(.ref p1), (.int p2)])) rfl rfl (hb hby own_d6_2) ?_
    show Steps p.tables e below (s₁.setTop (mkF m 3 #[.val (.ref p1), .val (.int p2)] [(.int (Nat.toInt32 nn)), (.int p2)])) _
    refine XS.isub X0.here hx rfl (hb hby own_d6_3) rfl ?_
    show Steps p.tables e below (s₁.setTop (mkF m 4 #[.val (.ref p1), .val (.int p2)] [(.int (p2 - (Nat.toInt32 nn)))])) _
    refine XS.bipush X0.here hx rfl (hb hby own_d6_4) ?_
    show Steps p.tables e below (s₁.setTop (mkF m 6 #[.val (.ref p1), .val (.int p2)] [(.int (31 : Int32)), (.int (p2 - (Nat.toInt32 nn)))])) _
    refine XS.iushr X0.here hx rfl (hb hby own_d6_6) rfl ?_
    show Steps p.tables e below (s₁.setTop (mkF m 7 #[.val (.ref p1), .val (.int p2)] [(.int (((p2 - (Nat.toInt32 nn)).toUInt32 >>> ((31 : Int32) &&& 31).toUInt32).toInt32))])) _
    refine XS.i2b X0.here hx rfl (hb hby own_d6_7) rfl ?_
    exact k
  obtain ⟨fs, hr, hrun, hended, hW, hsame⟩ := X0.leave (v := (some (.int (nar .byte ((((p2 - (Nat.toInt32 nn)).toUInt32 >>> ((31 : Int32) &&& 31).toUInt32).toInt32).toInt8.toInt32))))) (fun h => by rw [Bd.returns] at h; cases h)
  refine ⟨_, _, k1 _ ?_, hrun, hended, _, _, rfl, ?_, ⟨_, rfl⟩, hW, hsame.mono (by decide) (by decide)⟩
  · exact retN X0 hx (t := .byte) Bd.returns (by simp) (hb hby own_d6_8) hr
  · show own_Qcl0 Z p1 p2 bf nn h0 n0 _ s₁.heap _
    exact ⟨(congrArg (fun z => some (Value.int z)) (own_cf0 hp2 (by omega))), N0, e0⟩
theorem own_d2_0 : decode jdk_42_method_149_code 0 = .ok (.aload_n 0, 1) := by decide +kernel
theorem own_d2_1 : decode jdk_42_method_149_code 1 = .ok (.invokespecial 1, 3) := by decide +kernel
theorem own_d2_4 : decode jdk_42_method_149_code 4 = .ok (.iload_n 3, 1) := by decide +kernel
theorem own_d2_5 : decode jdk_42_method_149_code 5 = .ok (.ifCond .ne 22, 3) := by decide +kernel
theorem own_d2_27 : decode jdk_42_method_149_code 27 = .ok (.getstatic 38, 3) := by decide +kernel
theorem own_d2_30 : decode jdk_42_method_149_code 30 = .ok (.ifCond .eq 28, 3) := by decide +kernel
theorem own_d2_33 : decode jdk_42_method_149_code 33 = .ok (.aload_n 1, 1) := by decide +kernel
theorem own_d2_34 : decode jdk_42_method_149_code 34 = .ok (.iload_n 2, 1) := by decide +kernel
theorem own_d2_35 : decode jdk_42_method_149_code 35 = .ok (.iload_n 3, 1) := by decide +kernel
theorem own_d2_36 : decode jdk_42_method_149_code 36 = .ok (.invokestatic 177, 3) := by decide +kernel
theorem own_d2_39 : decode jdk_42_method_149_code 39 = .ok (.astore 5, 2) := by decide +kernel
theorem own_d2_41 : decode jdk_42_method_149_code 41 = .ok (.aload_n 0, 1) := by decide +kernel
theorem own_d2_42 : decode jdk_42_method_149_code 42 = .ok (.aload 5, 2) := by decide +kernel
theorem own_d2_44 : decode jdk_42_method_149_code 44 = .ok (.iload_n 3, 1) := by decide +kernel
theorem own_d2_45 : decode jdk_42_method_149_code 45 = .ok (.invokestatic 47, 3) := by decide +kernel
theorem own_d2_48 : decode jdk_42_method_149_code 48 = .ok (.putfield 15, 3) := by decide +kernel
theorem own_d2_51 : decode jdk_42_method_149_code 51 = .ok (.aload_n 0, 1) := by decide +kernel
theorem own_d2_52 : decode jdk_42_method_149_code 52 = .ok (.aload 5, 2) := by decide +kernel
theorem own_d2_54 : decode jdk_42_method_149_code 54 = .ok (.putfield 9, 3) := by decide +kernel
theorem own_d2_57 : decode jdk_42_method_149_code 57 = .ok (.return_, 1) := by decide +kernel
theorem own_pd1 : parseMethodDescriptor "([CII)[B" = some ⟨[(.array .char), .int, .int], some (.array .byte)⟩ := by decide +kernel
theorem own_pd2 : parseMethodDescriptor "([BI)B" = some ⟨[(.array .byte), .int], some .byte⟩ := by decide +kernel
theorem own_pn1 : plainName "java/lang/String" = true := by first | (simp [plainName, overriddenIn]; done) | decide +kernel
theorem own_efs2 (m : MethodId) (x0 : Addr) (x1 : Addr) (x2 : Int32) (x3 : Int32) : entryFrame m #[(.ref x0), (.ref x1), (.int x2), (.int x3), .null] 6 = mkF m 0 #[.val (.ref x0), .val (.ref x1), .val (.int x2), .val (.int x3), .val .null, .unset] [] := by first | (simp [entryFrame, mkF, argsToLocals, Value.category]; done) | rfl
def own_Qs2 (Z : State) (a : Addr) (p1 : Addr) (p2 : Int32) (p3 : Int32) (u1 : Value) (u2 : Value) (zc : Nat) (cf : Nat → Int32) (of_ : Nat) (nn : Nat) (cs : Int32) (h0 : Heap) (n0 : Nat) (v : Option Value) (h : Heap) (L : List Loc) : Prop := ∃ (b : Addr), v = none ∧ Fr n0 L ∧ Keep h0 h [a] ∧ h0.size ≤ b ∧ Fld Z h a "java/lang/String" "value" "[B" (.ref b) ∧ Fld Z h a "java/lang/String" "coder" "B" (.int (0 : Int32)) ∧ own_G Z h b .byte nn (own_b8 cf of_)
def own_Rs2 : Room := { frames := 2, cells := 1, slots := 28, locals := 35 }
set_option maxRecDepth 65536 in
set_option maxHeartbeats 40000000 in
theorem own_rms2 (l : Launch) (Z : State) (a0 : Array Value) (hw : ∀ d ∈ tables_1, d.before a0 Z = true) (ws : List Jvm.Cond) (a : Addr) (p1 : Addr) (p2 : Int32) (p3 : Int32) (u1 : Value) (u2 : Value) (zc : Nat) (cf : Nat → Int32) (of_ : Nat) (nn : Nat) (cs : Int32) (h0 : Heap) (n0 : Nat) (Z0 : n0 ≤ h0.size) (P0 : Exa Z h0 a "java/lang/String") (P1 : Fld Z h0 a "java/lang/String" "value" "[B" u1) (P2 : Fld Z h0 a "java/lang/String" "coder" "B" u2) (P3 : own_G Z h0 p1 .char zc cf) (ge_a : n0 ≤ a) (ne_p1_a : p1 ≠ a) (Xo : Old Z n0 h0) (hp2 : p2.toInt = (of_ : Int)) (hp3 : p3.toInt = (nn : Int)) (SC : Sta Z Z.heap "java/lang/String" "COMPACT_STRINGS" "Z" (.int cs)) (hcs : ¬ (cs = (0 : Int32))) (hbo : of_ + nn ≤ zc) (hz : zc ≤ 1000000) (hn : nn ≤ 28) (hal : ∀ i, i < nn → ¬ ((255 : Int32) < cf (of_ + i))) (hn0 : 0 < nn) :
    MetFree l (⟨"java/lang/String", "<init>", "([CIILjava/lang/Void;)V"⟩ : MethodName) (head1 (Jvm.Cond.code (⟨"java/lang/String", "<init>", "([CIILjava/lang/Void;)V"⟩ : MethodName) jdk_42_method_149_code 6 none :: ws) own_Rs2) (fun aa U => aa = #[(.ref a), (.ref p1), (.int p2), (.int p3), .null] ∧ Z.Warmed39 U.vm ∧ U.heap = h0) (fun _ _ _ _ _ => True) (fun _ U o U' => ∃ v L, o = .returned v ∧ own_Qs2 Z a p1 p2 p3 u1 u2 zc cf of_ nn cs h0 n0 v U'.heap L ∧ FrameEnd U o U' L own_Rs2.cells own_Rs2.slots) := by
  refine MetFree.of_bodySF (plainFor_of_name own_pn1) hisR ?_
  intro p e s m args below meth c s₁ Bd hml0 hP hK
  obtain ⟨rfl, hZ, hh⟩ := hP
  have hx := Bd.exec
  have hby := Bd.bytes
  have hml : c.maxLocals = 6 := hml0
  have hown : s.vm.findClass "java/lang/String" = some m.cls := findClass_of_methodNamed Bd.named
  have hnm := (name_of_methodNamed Bd.named Bd.method).1
  have X0 : Stand p l e own_Rs2 s m #[(.ref a), (.ref p1), (.int p2), (.int p3), .null] below meth c s₁ [] 0 0 := Stand.of_body Bd
  have e0 : s₁.heap = h0 := by rw [← hh, Bd.state]; rfl
  have N0 := Fr.nil n0
  have pre0 : ∀ t, Steps p.tables e below (s₁.setTop (mkF m 0 #[.val (.ref a), .val (.ref p1), .val (.int p2), .val (.int p3), .val .null, .unset] [])) t → Steps p.tables e below (s₁.setTop (entryFrame m #[(.ref a), (.ref p1), (.int p2), (.int p3), .null] 6)) t := fun t k => castTop (own_efs2 m a p1 p2 p3) k
  have k1 : ∀ t, Steps p.tables e below (s₁.setTop (mkF m 1 #[.val (.ref a), .val (.ref p1), .val (.int p2), .val (.int p3), .val .null, .unset] [(.ref a)])) t → Steps p.tables e below (s₁.setTop (entryFrame m #[(.ref a), (.ref p1), (.int p2), (.int p3), .null] 6)) t := by
    intro t k
    refine pre0 t ?_
    show Steps p.tables e below (s₁.setTop (mkF m 0 #[.val (.ref a), .val (.ref p1), .val (.int p2), .val (.int p3), .val .null, .unset] [])) _
    refine XS.aloadN X0.here hx rfl (hb hby own_d2_0) rfl rfl ?_
    exact k
  obtain ⟨T2, X2, e2, st2⟩ := initO X0 hx hZ hown (hw _ (List.mem_of_getElem? (i := 17) rfl)) (hw _ (List.mem_of_getElem? (i := 18) rfl)) (hw _ (List.mem_of_getElem? (i := 19) rfl)) e0 (g := (mkF m 1 #[.val (.ref a), .val (.ref p1), .val (.int p2), .val (.int p3), .val .null, .unset] [(.ref a)])) rfl (by rw [hml]; rfl) rfl (hb hby own_d2_1) (by decide) (W := 0) (by show 2 * 0 + _ ≤ _; exact Nat.le_of_eq rfl) (by decide)
  have k3 : ∀ t, Steps p.tables e below (T2.setTop (mkF m 4 #[.val (.ref a), .val (.ref p1), .val (.int p2), .val (.int p3), .val .null, .unset] [])) t → Steps p.tables e below (s₁.setTop (entryFrame m #[(.ref a), (.ref p1), (.int p2), (.int p3), .null] 6)) t := fun t k => k1 t (st2 t k)
  have k4 : ∀ t, Steps p.tables e below (T2.setTop (mkF m 27 #[.val (.ref a), .val (.ref p1), .val (.int p2), .val (.int p3), .val .null, .unset] [])) t → Steps p.tables e below (s₁.setTop (entryFrame m #[(.ref a), (.ref p1), (.int p2), (.int p3), .null] 6)) t := by
    intro t k
    refine k3 t ?_
    show Steps p.tables e below (T2.setTop (mkF m 4 #[.val (.ref a), .val (.ref p1), .val (.int p2), .val (.int p3), .val .null, .unset] [])) _
    refine XS.iloadN X2.here hx rfl (hb hby own_d2_4) rfl ?_
    show Steps p.tables e below (T2.setTop (mkF m 5 #[.val (.ref a), .val (.ref p1), .val (.int p2), .val (.int p3), .val .null, .unset] [(.int p3)])) _
    refine XS.ifYes X2.here hx rfl (pc0 := 5) (pc' := 27) rfl (hb hby own_d2_5) rfl ((if0 _ _).trans (feq (own_ne0 hp3 hn0)).2) (by decide) (by decide) ?_
    exact k
  obtain ⟨T5, X5, e5, st5⟩ := getS2 X2 hx hZ hown (host := "") (Or.inl (hw _ (List.mem_of_getElem? (i := 20) rfl))) Via.refl e2 (SC.ext Xo.2) (g := (mkF m 27 #[.val (.ref a), .val (.ref p1), .val (.int p2), .val (.int p3), .val .null, .unset] [])) rfl (hb hby own_d2_27)
  have k6 : ∀ t, Steps p.tables e below (T5.setTop (mkF m 30 #[.val (.ref a), .val (.ref p1), .val (.int p2), .val (.int p3), .val .null, .unset] [(.int cs)])) t → Steps p.tables e below (s₁.setTop (entryFrame m #[(.ref a), (.ref p1), (.int p2), (.int p3), .null] 6)) t := fun t k => k4 t (st5 t k)
  have k7 : ∀ t, Steps p.tables e below (T5.setTop (mkF m 36 #[.val (.ref a), .val (.ref p1), .val (.int p2), .val (.int p3), .val .null, .unset] [(.int p3), (.int p2), (.ref p1)])) t → Steps p.tables e below (s₁.setTop (entryFrame m #[(.ref a), (.ref p1), (.int p2), (.int p3), .null] 6)) t := by
    intro t k
    refine k6 t ?_
    show Steps p.tables e below (T5.setTop (mkF m 30 #[.val (.ref a), .val (.ref p1), .val (.int p2), .val (.int p3), .val .null, .unset] [(.int cs)])) _
    refine XS.ifNo X5.here hx rfl (hb hby own_d2_30) rfl ((if0 _ _).trans (feq hcs).1) ?_
    show Steps p.tables e below (T5.setTop (mkF m 33 #[.val (.ref a), .val (.ref p1), .val (.int p2), .val (.int p3), .val .null, .unset] [])) _
    refine XS.aloadN X5.here hx rfl (hb hby own_d2_33) rfl rfl ?_
    show Steps p.tables e below (T5.setTop (mkF m 34 #[.val (.ref a), .val (.ref p1), .val (.int p2), .val (.int p3), .val .null, .unset] [(.ref p1)])) _
    refine XS.iloadN X5.here hx rfl (hb hby own_d2_34) rfl ?_
    show Steps p.tables e below (T5.setTop (mkF m 35 #[.val (.ref a), .val (.ref p1), .val (.int p2), .val (.int p3), .val .null, .unset] [(.int p2), (.ref p1)])) _
    refine XS.iloadN X5.here hx rfl (hb hby own_d2_35) rfl ?_
    exact k
  obtain ⟨_, _, ⟨T8, L8, k8c, n8⟩, -, X8, ⟨Lc8, hQ8, l8, y8, z8⟩, st8⟩ := Jvm.LawKit.callS X5 hx (y := (⟨"java/lang/StringUTF16", "compress", "([CII)[B"⟩ : MethodName)) hown (mvT hZ (hw _ (List.mem_of_getElem? (i := 21) rfl))) (mvT hZ (hw _ (List.mem_of_getElem? (i := 22) rfl))) (mvT hZ (hw _ (List.mem_of_getElem? (i := 23) rfl))) (mvT hZ (hw _ (List.mem_of_getElem? (i := 24) rfl))) (by decide) (backOf (W := 0) (own_rmc4 l Z a0 hw [] p1 p2 p3 zc cf of_ nn h0 n0 Z0 P3 hp2 hp3 (by omega) (by omega) (by omega) hal) hZ (hw _ (List.mem_of_getElem? (i := 24) rfl)) (hw _ (List.mem_of_getElem? (i := 23) rfl)) (by decide) (by decide)) (g := (mkF m 36 #[.val (.ref a), .val (.ref p1), .val (.int p2), .val (.int p3), .val .null, .unset] [(.int p3), (.int p2), (.ref p1)])) rfl (by rw [hml]; rfl) (argsL := [(.ref p1), (.int p2), (.int p3)]) (rest := []) (lenOf own_pd1 rfl) rfl (by show 2 * 0 + _ ≤ _; exact Nat.le_of_eq rfl) (hb hby own_d2_36) (fun _ _ => ⟨rfl, e5, (by decide : 0 + 1 ≤ _), (by decide : 0 + 28 ≤ _)⟩)
  dsimp only [Pt.U, Pt.locs, Pt.cells, Pt.slots] at X8 l8 y8 z8 st8 hQ8
  subst l8 y8 z8
  obtain ⟨rb_8, rfl, N8q, Kq8, gz8_b, fq8_0⟩ := hQ8
  have N8 := Fr.app N0 N8q
  have ge8_b : n0 ≤ rb_8 := Nat.le_trans Z0 gz8_b
  have bo8_b : h0.size ≤ rb_8 := Nat.le_trans (Keep.refl h0 [a]).1 gz8_b
  have ne9 : a ≠ rb_8 := Nat.ne_of_lt (Nat.lt_of_lt_of_le P0.lt gz8_b)
  have ne10 : p1 ≠ rb_8 := Nat.ne_of_lt (Nat.lt_of_lt_of_le P3.lt gz8_b)
  have f11 := P0.keep Kq8
  have f12 := P1.keep Kq8 List.not_mem_nil
  have f13 := P2.keep Kq8 List.not_mem_nil
  have f14 := P3.keep Kq8 List.not_mem_nil
  have Z8 : n0 ≤ T8.heap.size := Nat.le_trans Z0 Kq8.1
  have K8 : Keep h0 T8.heap [a] := (Keep.refl h0 [a]).trans Kq8 (fun x hx => nomatch hx)
  have Xo8 := Xo.keep Kq8 all0
  have k15 : ∀ t, Steps p.tables e below (T8.setTop (mkF m 39 #[.val (.ref a), .val (.ref p1), .val (.int p2), .val (.int p3), .val .null, .unset] [(.ref rb_8)])) t → Steps p.tables e below (s₁.setTop (entryFrame m #[(.ref a), (.ref p1), (.int p2), (.int p3), .null] 6)) t := fun t k => k7 t (st8 t k)
  have k16 : ∀ t, Steps p.tables e below (T8.setTop (mkF m 45 #[.val (.ref a), .val (.ref p1), .val (.int p2), .val (.int p3), .val .null, .val (.ref rb_8)] [(.int p3), (.ref rb_8), (.ref a)])) t → Steps p.tables e below (s₁.setTop (entryFrame m #[(.ref a), (.ref p1), (.int p2), (.int p3), .null] 6)) t := by
    intro t k
    refine k15 t ?_
    show Steps p.tables e below (T8.setTop (mkF m 39 #[.val (.ref a), .val (.ref p1), .val (.int p2), .val (.int p3), .val .null, .unset] [(.ref rb_8)])) _
    refine XS.astore X8.here hx rfl (hb hby own_d2_39) rfl rfl (l' := #[.val (.ref a), .val (.ref p1), .val (.int p2), .val (.int p3), .val .null, .val (.ref rb_8)]) rfl ?_
    show Steps p.tables e below (T8.setTop (mkF m 41 #[.val (.ref a), .val (.ref p1), .val (.int p2), .val (.int p3), .val .null, .val (.ref rb_8)] [])) _
    refine XS.aloadN X8.here hx rfl (hb hby own_d2_41) rfl rfl ?_
    show Steps p.tables e below (T8.setTop (mkF m 42 #[.val (.ref a), .val (.ref p1), .val (.int p2), .val (.int p3), .val .null, .val (.ref rb_8)] [(.ref a)])) _
    refine XS.aload X8.here hx rfl (hb hby own_d2_42) rfl rfl ?_
    show Steps p.tables e below (T8.setTop (mkF m 44 #[.val (.ref a), .val (.ref p1), .val (.int p2), .val (.int p3), .val .null, .val (.ref rb_8)] [(.ref rb_8), (.ref a)])) _
    refine XS.iloadN X8.here hx rfl (hb hby own_d2_44) rfl ?_
    exact k
  obtain ⟨_, _, ⟨T17, L17, k17c, n17⟩, -, X17, ⟨Lc17, hQ17, l17, y17, z17⟩, st17⟩ := Jvm.LawKit.callS X8 hx (y := (⟨"java/lang/StringUTF16", "coderFromArrayLen", "([BI)B"⟩ : MethodName)) hown (mvT hZ (hw _ (List.mem_of_getElem? (i := 28) rfl))) (mvT hZ (hw _ (List.mem_of_getElem? (i := 29) rfl))) (mvT hZ (hw _ (List.mem_of_getElem? (i := 23) rfl))) (mvT hZ (hw _ (List.mem_of_getElem? (i := 30) rfl))) (by decide) (backOf (W := 1) (own_rmcl0 l Z a0 hw [] rb_8 p3 (own_b8 cf of_) nn T8.heap n0 Z8 fq8_0 hp3 (by omega)) hZ (hw _ (List.mem_of_getElem? (i := 30) rfl)) (hw _ (List.mem_of_getElem? (i := 23) rfl)) (by decide) (by decide)) (g := (mkF m 45 #[.val (.ref a), .val (.ref p1), .val (.int p2), .val (.int p3), .val .null, .val (.ref rb_8)] [(.int p3), (.ref rb_8), (.ref a)])) rfl (by rw [hml]; rfl) (argsL := [(.ref rb_8), (.int p3)]) (rest := [(.ref a)]) (lenOf own_pd2 rfl) rfl (by show 2 * 0 + _ ≤ _; exact Nat.le_of_eq rfl) (hb hby own_d2_45) (fun _ _ => ⟨rfl, rfl, (by decide : 1 + 0 ≤ _), (by decide : 28 + 0 ≤ _)⟩)
  dsimp only [Pt.U, Pt.locs, Pt.cells, Pt.slots] at X17 l17 y17 z17 st17 hQ17
  subst l17 y17 z17
  obtain ⟨rfl, N17q, e17⟩ := hQ17
  have N17 := Fr.app N8 N17q
  have k18 : ∀ t, Steps p.tables e below (T17.setTop (mkF m 48 #[.val (.ref a), .val (.ref p1), .val (.int p2), .val (.int p3), .val .null, .val (.ref rb_8)] [(.int (0 : Int32)), (.ref a)])) t → Steps p.tables e below (s₁.setTop (entryFrame m #[(.ref a), (.ref p1), (.int p2), (.int p3), .null] 6)) t := fun t k => k16 t (st17 t k)
  obtain ⟨T19, h19, X19, e19, W19, st19⟩ := putFN X17 hx hZ hown (hw _ (List.mem_of_getElem? (i := 31) rfl)) Via.refl e17 f13 f11 (Or.inr ⟨(hw _ (List.mem_of_getElem? (i := 5) rfl)), rfl, hnm⟩) (hw _ (List.mem_of_getElem? (i := 2) rfl)) (ty := .byte) (v' := (.int (nar .byte (0 : Int32)))) (by decide) rfl (fits_nar_byte _) (g := (mkF m 48 #[.val (.ref a), .val (.ref p1), .val (.int p2), .val (.int p3), .val .null, .val (.ref rb_8)] [(.int (0 : Int32)), (.ref a)])) rfl rfl (hb hby own_d2_48)
  have f20 := f11.wr W19
  have f21 := f12.other W19 (Or.inr (slot_ne (Or.inr (hw _ (List.mem_of_getElem? (i := 4) rfl))) (Or.inr (hw _ (List.mem_of_getElem? (i := 5) rfl))) (by decide) (t := (.array .byte)) (t' := .byte) (by decide) (by decide)))
  have f22 := f14.other W19 ne_p1_a
  have f23 := fq8_0.other W19 (Ne.symm ne9)
  have f24 := f13.same W19
  have N19 := Fr.snoc X19 N17 ge_a
  have K19 : Keep h0 h19 [a] := K8.wr W19 (Or.inl (List.mem_of_getElem? (i := 0) rfl))
  have Z19 : n0 ≤ h19.size := Nat.le_trans Z8 (Keep.of_wr W19).1
  have Xo19 := Xo8.wr W19 ge_a
  have k25 : ∀ t, Steps p.tables e below (T19.setTop (mkF m 51 #[.val (.ref a), .val (.ref p1), .val (.int p2), .val (.int p3), .val .null, .val (.ref rb_8)] [])) t → Steps p.tables e below (s₁.setTop (entryFrame m #[(.ref a), (.ref p1), (.int p2), (.int p3), .null] 6)) t := fun t k => k18 t (st19 t k)
  have k26 : ∀ t, Steps p.tables e below (T19.setTop (mkF m 54 #[.val (.ref a), .val (.ref p1), .val (.int p2), .val (.int p3), .val .null, .val (.ref rb_8)] [(.ref rb_8), (.ref a)])) t → Steps p.tables e below (s₁.setTop (entryFrame m #[(.ref a), (.ref p1), (.int p2), (.int p3), .null] 6)) t := by
    intro t k
    refine k25 t ?_
    show Steps p.tables e below (T19.setTop (mkF m 51 #[.val (.ref a), .val (.ref p1), .val (.int p2), .val (.int p3), .val .null, .val (.ref rb_8)] [])) _
    refine XS.aloadN X19.here hx rfl (hb hby own_d2_51) rfl rfl ?_
    show Steps p.tables e below (T19.setTop (mkF m 52 #[.val (.ref a), .val (.ref p1), .val (.int p2), .val (.int p3), .val .null, .val (.ref rb_8)] [(.ref a)])) _
    refine XS.aload X19.here hx rfl (hb hby own_d2_52) rfl rfl ?_
    exact k
  obtain ⟨T27, h27, X27, e27, W27, st27⟩ := putF X19 hx hZ hown (host := "") (Or.inl (hw _ (List.mem_of_getElem? (i := 32) rfl))) Via.refl e19 f21 f20 (Or.inr ⟨(hw _ (List.mem_of_getElem? (i := 4) rfl)), rfl, hnm⟩) (hw _ (List.mem_of_getElem? (i := 2) rfl)) (ty := (.array .byte)) (by decide) rfl rfl (g := (mkF m 54 #[.val (.ref a), .val (.ref p1), .val (.int p2), .val (.int p3), .val .null, .val (.ref rb_8)] [(.ref rb_8), (.ref a)])) rfl rfl (hb hby own_d2_54)
  have f28 := f20.wr W27
  have f29 := f24.other W27 (Or.inr (slot_ne (Or.inr (hw _ (List.mem_of_getElem? (i := 5) rfl))) (Or.inr (hw _ (List.mem_of_getElem? (i := 4) rfl))) (by decide) (t := .byte) (t' := (.array .byte)) (by decide) (by decide)))
  have f30 := f22.other W27 ne_p1_a
  have f31 := f23.other W27 (Ne.symm ne9)
  have f32 := f21.same W27
  have N27 := Fr.snoc X27 N19 ge_a
  have K27 : Keep h0 h27 [a] := K19.wr W27 (Or.inl (List.mem_of_getElem? (i := 0) rfl))
  have Z27 : n0 ≤ h27.size := Nat.le_trans Z19 (Keep.of_wr W27).1
  have Xo27 := Xo19.wr W27 ge_a
  have k33 : ∀ t, Steps p.tables e below (T27.setTop (mkF m 57 #[.val (.ref a), .val (.ref p1), .val (.int p2), .val (.int p3), .val .null, .val (.ref rb_8)] [])) t → Steps p.tables e below (s₁.setTop (entryFrame m #[(.ref a), (.ref p1), (.int p2), (.int p3), .null] 6)) t := fun t k => k26 t (st27 t k)
  obtain ⟨fs, hr, hrun, hended, hW, hsame⟩ := X27.leave (v := none) (fun _ => rfl)
  refine ⟨_, _, k33 _ ?_, hrun, hended, _, _, rfl, ?_, ⟨_, rfl⟩, hW, hsame.mono (by decide) (by decide)⟩
  · exact X27.returnOut hx Bd.returns (hb hby own_d2_57) hr
  · show own_Qs2 Z a p1 p2 p3 u1 u2 zc cf of_ nn cs h0 n0 _ T27.heap _
    rw [e27]
    exact ⟨rb_8, rfl, N27, K27, bo8_b, f32, f29, f31⟩
theorem own_d1_0 : decode jdk_42_method_3_code 0 = .ok (.aload_n 0, 1) := by decide +kernel
theorem own_d1_1 : decode jdk_42_method_3_code 1 = .ok (.aload_n 1, 1) := by decide +kernel
theorem own_d1_2 : decode jdk_42_method_3_code 2 = .ok (.iconst 0, 1) := by decide +kernel
theorem own_d1_3 : decode jdk_42_method_3_code 3 = .ok (.aload_n 1, 1) := by decide +kernel
theorem own_d1_4 : decode jdk_42_method_3_code 4 = .ok (.arraylength, 1) := by decide +kernel
theorem own_d1_5 : decode jdk_42_method_3_code 5 = .ok (.aconst_null, 1) := by decide +kernel
theorem own_d1_6 : decode jdk_42_method_3_code 6 = .ok (.invokespecial 27, 3) := by decide +kernel
theorem own_d1_9 : decode jdk_42_method_3_code 9 = .ok (.return_, 1) := by decide +kernel
theorem own_pd3 : parseMethodDescriptor "([CIILjava/lang/Void;)V" = some ⟨[(.array .char), .int, .int, (.object "java/lang/Void")], none⟩ := by decide +kernel
theorem own_efs1 (m : MethodId) (x0 : Addr) (x1 : Addr) : entryFrame m #[(.ref x0), (.ref x1)] 2 = mkF m 0 #[.val (.ref x0), .val (.ref x1)] [] := by first | (simp [entryFrame, mkF, argsToLocals, Value.category]; done) | rfl
def own_Qs1 (Z : State) (a : Addr) (p1 : Addr) (u1 : Value) (u2 : Value) (zc : Nat) (cf : Nat → Int32) (cs : Int32) (h0 : Heap) (n0 : Nat) (v : Option Value) (h : Heap) (L : List Loc) : Prop := ∃ (b : Addr), v = none ∧ Fr n0 L ∧ Keep h0 h [a] ∧ h0.size ≤ b ∧ Fld Z h a "java/lang/String" "value" "[B" (.ref b) ∧ Fld Z h a "java/lang/String" "coder" "B" (.int (0 : Int32)) ∧ own_G Z h b .byte zc (own_b8 cf 0)
def own_Rs1 : Room := { frames := 3, cells := 1, slots := 28, locals := 52 }
set_option maxRecDepth 65536 in
set_option maxHeartbeats 40000000 in
theorem own_rms1 (l : Launch) (Z : State) (a0 : Array Value) (hw : ∀ d ∈ tables_1, d.before a0 Z = true) (ws : List Jvm.Cond) (a : Addr) (p1 : Addr) (u1 : Value) (u2 : Value) (zc : Nat) (cf : Nat → Int32) (cs : Int32) (h0 : Heap) (n0 : Nat) (Z0 : n0 ≤ h0.size) (P0 : Exa Z h0 a "java/lang/String") (P1 : Fld Z h0 a "java/lang/String" "value" "[B" u1) (P2 : Fld Z h0 a "java/lang/String" "coder" "B" u2) (P3 : own_G Z h0 p1 .char zc cf) (ge_a : n0 ≤ a) (ne_p1_a : p1 ≠ a) (Xo : Old Z n0 h0) (SC : Sta Z Z.heap "java/lang/String" "COMPACT_STRINGS" "Z" (.int cs)) (hcs : ¬ (cs = (0 : Int32))) (hn : zc ≤ 28) (hn0 : 0 < zc) (hal : ∀ i, i < zc → ¬ ((255 : Int32) < cf (0 + i))) :
    MetFree l (⟨"java/lang/String", "<init>", "([C)V"⟩ : MethodName) (head1 (Jvm.Cond.code (⟨"java/lang/String", "<init>", "([C)V"⟩ : MethodName) jdk_42_method_3_code 2 none :: ws) own_Rs1) (fun aa U => aa = #[(.ref a), (.ref p1)] ∧ Z.Warmed39 U.vm ∧ U.heap = h0) (fun _ _ _ _ _ => True) (fun _ U o U' => ∃ v L, o = .returned v ∧ own_Qs1 Z a p1 u1 u2 zc cf cs h0 n0 v U'.heap L ∧ FrameEnd U o U' L own_Rs1.cells own_Rs1.slots) := by
  refine MetFree.of_bodySF (plainFor_of_name own_pn1) hisR ?_
  intro p e s m args below meth c s₁ Bd hml0 hP hK
  obtain ⟨rfl, hZ, hh⟩ := hP
  have hx := Bd.exec
  have hby := Bd.bytes
  have hml : c.maxLocals = 2 := hml0
  have hown : s.vm.findClass "java/lang/String" = some m.cls := findClass_of_methodNamed Bd.named
  have hnm := (name_of_methodNamed Bd.named Bd.method).1
  have X0 : Stand p l e own_Rs1 s m #[(.ref a), (.ref p1)] below meth c s₁ [] 0 0 := Stand.of_body Bd
  have e0 : s₁.heap = h0 := by rw [← hh, Bd.state]; rfl
  have N0 := Fr.nil n0
  have pre0 : ∀ t, Steps p.tables e below (s₁.setTop (mkF m 0 #[.val (.ref a), .val (.ref p1)] [])) t → Steps p.tables e below (s₁.setTop (entryFrame m #[(.ref a), (.ref p1)] 2)) t := fun t k => castTop (own_efs1 m a p1) k
  have k1 : ∀ t, Steps p.tables e below (s₁.setTop (mkF m 6 #[.val (.ref a), .val (.ref p1)] [.null, (.int (Nat.toInt32 zc)), (.int (0 : Int32)), (.ref p1), (.ref a)])) t → Steps p.tables e below (s₁.setTop (entryFrame m #[(.ref a), (.ref p1)] 2)) t := by
    intro t k
    refine pre0 t ?_
    show Steps p.tables e below (s₁.setTop (mkF m 0 #[.val (.ref a), .val (.ref p1)] [])) _
    refine XS.aloadN X0.here hx rfl (hb hby own_d1_0) rfl rfl ?_
    show Steps p.tables e below (s₁.setTop (mkF m 1 #[.val (.ref a), .val (.ref p1)] [(.ref a)])) _
    refine XS.aloadN X0.here hx rfl (hb hby own_d1_1) rfl rfl ?_
    show Steps p.tables e below (s₁.setTop (mkF m 2 #[.val (.ref a), .val (.ref p1)] [(.ref p1), (.ref a)])) _
    refine XS.iconst X0.here hx rfl (hb hby own_d1_2) ?_
    show Steps p.tables e below (s₁.setTop (mkF m 3 #[.val (.ref a), .val (.ref p1)] [(.int (0 : Int32)), (.ref p1), (.ref a)])) _
    refine XS.aloadN X0.here hx rfl (hb hby own_d1_3) rfl rfl ?_
    show Steps p.tables e below (s₁.setTop (mkF m 4 #[.val (.ref a), .val (.ref p1)] [(.ref p1), (.int (0 : Int32)), (.ref p1), (.ref a)])) _
    refine own_len X0 hx hZ e0 P3 (g := (mkF m 4 #[.val (.ref a), .val (.ref p1)] [(.ref p1), (.int (0 : Int32)), (.ref p1), (.ref a)])) rfl rfl (hb hby own_d1_4) ?_
    show Steps p.tables e below (s₁.setTop (mkF m 5 #[.val (.ref a), .val (.ref p1)] [(.int (Nat.toInt32 zc)), (.int (0 : Int32)), (.ref p1), (.ref a)])) _
    refine XS.aconstNull X0.here hx rfl (hb hby own_d1_5) ?_
    exact k
  obtain ⟨_, _, ⟨T2, L2, k2c, n2⟩, -, X2, ⟨Lc2, hQ2, l2, y2, z2⟩, st2⟩ := X0.specialBack hx (y := (⟨"java/lang/String", "<init>", "([CIILjava/lang/Void;)V"⟩ : MethodName)) rfl hown (mvT hZ (hw _ (List.mem_of_getElem? (i := 13) rfl))) (mvT hZ (hw _ (List.mem_of_getElem? (i := 14) rfl))) (mvT hZ (hw _ (List.mem_of_getElem? (i := 16) rfl))) (by decide) (backOf (W := 0) (own_rms2 l Z a0 hw [] a p1 (0 : Int32) (Nat.toInt32 zc) u1 u2 zc cf 0 zc cs h0 n0 Z0 P0 P1 P2 P3 ge_a ne_p1_a Xo own_i0 (own_of_nat P3.small) SC hcs (by omega) (by omega) (by omega) hal (by omega)) hZ (hw _ (List.mem_of_getElem? (i := 16) rfl)) (hw _ (List.mem_of_getElem? (i := 1) rfl)) (by decide) (by decide)) (g := (mkF m 6 #[.val (.ref a), .val (.ref p1)] [.null, (.int (Nat.toInt32 zc)), (.int (0 : Int32)), (.ref p1), (.ref a)])) rfl (by rw [hml]; rfl) (Steps.refl _) (a := a) (argsL := [(.ref p1), (.int (0 : Int32)), (.int (Nat.toInt32 zc)), .null]) (rest := []) (lenOf own_pd3 rfl) rfl (by show 2 * 0 + _ ≤ _; exact Nat.le_of_eq rfl) (hb hby own_d1_6) (fun _ _ => ⟨rfl, e0, (by decide : 0 + 1 ≤ _), (by decide : 0 + 28 ≤ _)⟩)
  dsimp only [Pt.U, Pt.locs, Pt.cells, Pt.slots] at X2 l2 y2 z2 st2 hQ2
  subst l2 y2 z2
  obtain ⟨rb_2, rfl, N2q, Kq2, gz2_b, fq2_0, fq2_1, fq2_2⟩ := hQ2
  have N2 := Fr.app N0 N2q
  have ge2_b : n0 ≤ rb_2 := Nat.le_trans Z0 gz2_b
  have bo2_b : h0.size ≤ rb_2 := Nat.le_trans (Keep.refl h0 [a]).1 gz2_b
  have ne3 : a ≠ rb_2 := Nat.ne_of_lt (Nat.lt_of_lt_of_le P0.lt gz2_b)
  have ne4 : p1 ≠ rb_2 := Nat.ne_of_lt (Nat.lt_of_lt_of_le P3.lt gz2_b)
  have f5 := P0.keep Kq2
  have f6 := P3.keep Kq2 (List.not_mem_cons_of_ne_of_not_mem ne_p1_a List.not_mem_nil)
  have Z2 : n0 ≤ T2.heap.size := Nat.le_trans Z0 Kq2.1
  have K2 : Keep h0 T2.heap [a] := (Keep.refl h0 [a]).trans Kq2 (fun x hx => by rcases List.mem_cons.mp hx with rfl | hx; exact Or.inl (List.mem_of_getElem? (i := 0) rfl); exact nomatch hx)
  have Xo2 := Xo.keep Kq2 (allS ge_a all0)
  have k7 : ∀ t, Steps p.tables e below (T2.setTop (mkF m 9 #[.val (.ref a), .val (.ref p1)] [])) t → Steps p.tables e below (s₁.setTop (entryFrame m #[(.ref a), (.ref p1)] 2)) t := fun t k => k1 t (st2.trans k)
  obtain ⟨fs, hr, hrun, hended, hW, hsame⟩ := X2.leave (v := none) (fun _ => rfl)
  refine ⟨_, _, k7 _ ?_, hrun, hended, _, _, rfl, ?_, ⟨_, rfl⟩, hW, hsame.mono (by decide) (by decide)⟩
  · exact X2.returnOut hx Bd.returns (hb hby own_d1_9) hr
  · show own_Qs1 Z a p1 u1 u2 zc cf cs h0 n0 _ T2.heap _
    exact ⟨rb_2, rfl, N2, K2, bo2_b, fq2_0, fq2_1, fq2_2⟩
theorem own_d2_8 : decode jdk_42_method_149_code 8 = .ok (.aload_n 0, 1) := by decide +kernel
theorem own_d2_9 : decode jdk_42_method_149_code 9 = .ok (.ldc 7, 2) := by decide +kernel
theorem own_d2_11 : decode jdk_42_method_149_code 11 = .ok (.getfield 9, 3) := by decide +kernel
theorem own_d2_14 : decode jdk_42_method_149_code 14 = .ok (.putfield 9, 3) := by decide +kernel
theorem own_d2_17 : decode jdk_42_method_149_code 17 = .ok (.aload_n 0, 1) := by decide +kernel
theorem own_d2_18 : decode jdk_42_method_149_code 18 = .ok (.ldc 7, 2) := by decide +kernel
theorem own_d2_20 : decode jdk_42_method_149_code 20 = .ok (.getfield 15, 3) := by decide +kernel
theorem own_d2_23 : decode jdk_42_method_149_code 23 = .ok (.putfield 15, 3) := by decide +kernel
theorem own_d2_26 : decode jdk_42_method_149_code 26 = .ok (.return_, 1) := by decide +kernel
theorem own_efs2w (m : MethodId) (x0 : Addr) (x1 : Addr) (x2 : Int32) (x3 : Int32) : entryFrame m #[(.ref x0), (.ref x1), (.int x2), (.int x3), .null] 6 = mkF m 0 #[.val (.ref x0), .val (.ref x1), .val (.int x2), .val (.int x3), .val .null, .unset] [] := by first | (simp [entryFrame, mkF, argsToLocals, Value.category]; done) | rfl
def own_Qs2w (Z : State) (a : Addr) (p1 : Addr) (p2 : Int32) (p3 : Int32) (u2 : Value) (h0 : Heap) (n0 : Nat) (v : Option Value) (h : Heap) (L : List Loc) : Prop := ∃ (b : Addr), v = none ∧ Fr n0 L ∧ Keep h0 h [a] ∧ Fld Z h a "java/lang/String" "value" "[B" (.ref b) ∧ Fld Z h a "java/lang/String" "coder" "B" (.int (0 : Int32)) ∧ own_G Z h b .byte 0 own_zero
def own_Rs2w : Room := { frames := 1, cells := 2, slots := 4, locals := 12 }
set_option maxRecDepth 65536 in
set_option maxHeartbeats 40000000 in
theorem own_rms2w (l : Launch) (Z : State) (a0 : Array Value) (hw : ∀ d ∈ tables_1, d.before a0 Z = true) (ws : List Jvm.Cond) (a : Addr) (p1 : Addr) (p2 : Int32) (p3 : Int32) (u2 : Value) (h0 : Heap) (n0 : Nat) (Z0 : n0 ≤ h0.size) (P0 : Exa Z h0 a "java/lang/String") (P1 : Fld Z h0 a "java/lang/String" "value" "[B" .null) (P2 : Fld Z h0 a "java/lang/String" "coder" "B" u2) (ge_a : n0 ≤ a) (hp3 : p3 = (0 : Int32)) :
    MetFree l (⟨"java/lang/String", "<init>", "([CIILjava/lang/Void;)V"⟩ : MethodName) (head1 (Jvm.Cond.code (⟨"java/lang/String", "<init>", "([CIILjava/lang/Void;)V"⟩ : MethodName) jdk_42_method_149_code 6 none :: ws) own_Rs2w) (fun aa U => aa = #[(.ref a), (.ref p1), (.int p2), (.int p3), .null] ∧ Z.Warmed39 U.vm ∧ U.heap = h0 ∧ CHv Z own_EL U.vm h0) (fun _ _ _ _ _ => True) (fun _ U o U' => ∃ v L, o = .returned v ∧ own_Qs2w Z a p1 p2 p3 u2 h0 n0 v U'.heap L ∧ CHr Z own_EL U.vm U.heap U'.vm U'.heap ∧ ReturnedEndW U o U' L own_Rs2w.cells own_Rs2w.slots) := by
  refine MetFree.of_bodySF (plainFor_of_name own_pn1) hisR ?_
  intro p e s m args below meth c s₁ Bd hml0 hP hK
  obtain ⟨rfl, hZ, hh, hH0⟩ := hP
  have hx := Bd.exec
  have hby := Bd.bytes
  have hml : c.maxLocals = 6 := hml0
  have hown : s.vm.findClass "java/lang/String" = some m.cls := findClass_of_methodNamed Bd.named
  have hnm := (name_of_methodNamed Bd.named Bd.method).1
  have X0 : Stand p l e own_Rs2w s m #[(.ref a), (.ref p1), (.int p2), (.int p3), .null] below meth c s₁ [] 0 0 := Stand.of_body Bd
  have e0 : s₁.heap = h0 := by rw [← hh, Bd.state]; rfl
  have N0 := Fr.nil n0
  have pre0 : ∀ t, Steps p.tables e below (s₁.setTop (mkF m 0 #[.val (.ref a), .val (.ref p1), .val (.int p2), .val (.int p3), .val .null, .unset] [])) t → Steps p.tables e below (s₁.setTop (entryFrame m #[(.ref a), (.ref p1), (.int p2), (.int p3), .null] 6)) t := fun t k => castTop (own_efs2w m a p1 p2 p3) k
  have k1 : ∀ t, Steps p.tables e below (s₁.setTop (mkF m 1 #[.val (.ref a), .val (.ref p1), .val (.int p2), .val (.int p3), .val .null, .unset] [(.ref a)])) t → Steps p.tables e below (s₁.setTop (entryFrame m #[(.ref a), (.ref p1), (.int p2), (.int p3), .null] 6)) t := by
    intro t k
    refine pre0 t ?_
    show Steps p.tables e below (s₁.setTop (mkF m 0 #[.val (.ref a), .val (.ref p1), .val (.int p2), .val (.int p3), .val .null, .unset] [])) _
    refine XS.aloadN X0.here hx rfl (hb hby own_d2_0) rfl rfl ?_
    exact k
  obtain ⟨T2, X2, e2, st2⟩ := initO X0 hx hZ hown (hw _ (List.mem_of_getElem? (i := 17) rfl)) (hw _ (List.mem_of_getElem? (i := 18) rfl)) (hw _ (List.mem_of_getElem? (i := 19) rfl)) e0 (g := (mkF m 1 #[.val (.ref a), .val (.ref p1), .val (.int p2), .val (.int p3), .val .null, .unset] [(.ref a)])) rfl (by rw [hml]; rfl) rfl (hb hby own_d2_1) (by decide) (W := 0) (by show 2 * 0 + _ ≤ _; exact Nat.le_of_eq rfl) (by decide)
  have k3 : ∀ t, Steps p.tables e below (T2.setTop (mkF m 4 #[.val (.ref a), .val (.ref p1), .val (.int p2), .val (.int p3), .val .null, .unset] [])) t → Steps p.tables e below (s₁.setTop (entryFrame m #[(.ref a), (.ref p1), (.int p2), (.int p3), .null] 6)) t := fun t k => k1 t (st2 t k)
  have k4 : ∀ t, Steps p.tables e below (T2.setTop (mkF m 9 #[.val (.ref a), .val (.ref p1), .val (.int p2), .val (.int p3), .val .null, .unset] [(.ref a)])) t → Steps p.tables e below (s₁.setTop (entryFrame m #[(.ref a), (.ref p1), (.int p2), (.int p3), .null] 6)) t := by
    intro t k
    refine k3 t ?_
    show Steps p.tables e below (T2.setTop (mkF m 4 #[.val (.ref a), .val (.ref p1), .val (.int p2), .val (.int p3), .val .null, .unset] [])) _
    refine XS.iloadN X2.here hx rfl (hb hby own_d2_4) rfl ?_
    show Steps p.tables e below (T2.setTop (mkF m 5 #[.val (.ref a), .val (.ref p1), .val (.int p2), .val (.int p3), .val .null, .unset] [(.int p3)])) _
    refine XS.ifNo X2.here hx rfl (hb hby own_d2_5) rfl ((if0 _ _).trans (teq hp3).2) ?_
    show Steps p.tables e below (T2.setTop (mkF m 8 #[.val (.ref a), .val (.ref p1), .val (.int p2), .val (.int p3), .val .null, .unset] [])) _
    refine XS.aloadN X2.here hx rfl (hb hby own_d2_8) rfl rfl ?_
    exact k
  obtain ⟨lt5, T5, h5, lb5, k15, X5, e5, E5, Si5, hk5, Zw5, Ow5, Ea5, Fc5, Fv5, Gb5, Cl5, Li5, st5⟩ := own_ldcL (s := s) (vm0 := s.vm) (text := "") (vs := own_tx3) (n := 0) (z := 0) X2 hx hZ hown hw (hw _ (List.mem_of_getElem? (i := 68) rfl)) (List.mem_of_getElem? (i := 19) rfl) e2 (own_since s 0) (Nat.zero_le _) hH0 (by decide +kernel) (by first | rfl | decide +kernel) rfl rfl (g := (mkF m 9 #[.val (.ref a), .val (.ref p1), .val (.int p2), .val (.int p3), .val .null, .unset] [(.ref a)])) rfl (hb hby own_d2_9) (cap := 0) (by decide +kernel) (by decide) (by decide) (by decide)
  have hZ : Z.Warmed39 (s.setVm T5.vm).vm := Zw5
  have hown : (s.setVm T5.vm).vm.findClass "java/lang/String" = some m.cls := Ow5
  have f6 := P0.ext E5
  have f7 := P1.ext E5
  have f8 := P2.ext E5
  have Z5 : n0 ≤ h5.size := Nat.le_trans Z0 E5.1
  have K5 : Keep h0 h5 [a] := (Keep.refl h0 [a]).ext E5
  have Cr5 := ((CHr.refl hH0)).trans Cl5
  have nl5 : a ≠ lt5 := fun q => by subst q; have z := own_fld1 f7 Fv5; cases z
  have nc5 : a ≠ lb5 := own_neG f6 (hw _ (List.mem_of_getElem? (i := 2) rfl)) Gb5
  have Sf5 : Safe Z own_EL T5.vm h5 a := own_safe0 hZ.alike f6 f7
  have k9 : ∀ t, Steps p.tables e below (T5.setTop (mkF m 11 #[.val (.ref a), .val (.ref p1), .val (.int p2), .val (.int p3), .val .null, .unset] [(.ref lt5), (.ref a)])) t → Steps p.tables e below (s₁.setTop (entryFrame m #[(.ref a), (.ref p1), (.int p2), (.int p3), .null] 6)) t := fun t k => k4 t (st5 t k)
  obtain ⟨T10, X10, e10, st10⟩ := getF X5 hx hZ hown (host := "") (Or.inl (hw _ (List.mem_of_getElem? (i := 32) rfl))) Via.refl e5 Fv5 (g := (mkF m 11 #[.val (.ref a), .val (.ref p1), .val (.int p2), .val (.int p3), .val .null, .unset] [(.ref lt5), (.ref a)])) rfl rfl (hb hby own_d2_11)
  have k11 : ∀ t, Steps p.tables e below (T10.setTop (mkF m 14 #[.val (.ref a), .val (.ref p1), .val (.int p2), .val (.int p3), .val .null, .unset] [(.ref lb5), (.ref a)])) t → Steps p.tables e below (s₁.setTop (entryFrame m #[(.ref a), (.ref p1), (.int p2), (.int p3), .null] 6)) t := fun t k => k9 t (st10 t k)
  obtain ⟨T12, h12, X12, e12, W12, st12⟩ := putF X10 hx hZ hown (host := "") (Or.inl (hw _ (List.mem_of_getElem? (i := 32) rfl))) Via.refl e10 f7 f6 (Or.inr ⟨(hw _ (List.mem_of_getElem? (i := 4) rfl)), rfl, hnm⟩) (hw _ (List.mem_of_getElem? (i := 2) rfl)) (ty := (.array .byte)) (by decide) rfl rfl (g := (mkF m 14 #[.val (.ref a), .val (.ref p1), .val (.int p2), .val (.int p3), .val .null, .unset] [(.ref lb5), (.ref a)])) rfl rfl (hb hby own_d2_14)
  have f13 := f6.wr W12
  have f14 := f8.other W12 (Or.inr (slot_ne (Or.inr (hw _ (List.mem_of_getElem? (i := 5) rfl))) (Or.inr (hw _ (List.mem_of_getElem? (i := 4) rfl))) (by decide) (t := .byte) (t' := (.array .byte)) (by decide) (by decide)))
  have f15 := Ea5.wr W12
  have f16 := Fc5.other W12 (Or.inl (Ne.symm nl5))
  have f17 := Fv5.other W12 (Or.inl (Ne.symm nl5))
  have f18 := Gb5.other W12 (Ne.symm nc5)
  have f19 := f7.same W12
  have Cr12 := Cr5.trans (CHr.wr W12 Sf5 Cr5.1)
  have Sf12 := Safe.wr W12 Sf5 Cr5.1 Sf5
  have N12 := Fr.snoc X12 N0 ge_a
  have K12 : Keep h0 h12 [a] := K5.wr W12 (Or.inl (List.mem_of_getElem? (i := 0) rfl))
  have Z12 : n0 ≤ h12.size := Nat.le_trans Z5 (Keep.of_wr W12).1
  have k20 : ∀ t, Steps p.tables e below (T12.setTop (mkF m 17 #[.val (.ref a), .val (.ref p1), .val (.int p2), .val (.int p3), .val .null, .unset] [])) t → Steps p.tables e below (s₁.setTop (entryFrame m #[(.ref a), (.ref p1), (.int p2), (.int p3), .null] 6)) t := fun t k => k11 t (st12 t k)
  have k21 : ∀ t, Steps p.tables e below (T12.setTop (mkF m 18 #[.val (.ref a), .val (.ref p1), .val (.int p2), .val (.int p3), .val .null, .unset] [(.ref a)])) t → Steps p.tables e below (s₁.setTop (entryFrame m #[(.ref a), (.ref p1), (.int p2), (.int p3), .null] 6)) t := by
    intro t k
    refine k20 t ?_
    show Steps p.tables e below (T12.setTop (mkF m 17 #[.val (.ref a), .val (.ref p1), .val (.int p2), .val (.int p3), .val .null, .unset] [])) _
    refine XS.aloadN X12.here hx rfl (hb hby own_d2_17) rfl rfl ?_
    exact k
  have st22 := ldcAgain (s := s) (Z := Z) (vm0 := T5.vm) X12 hx hZ hown (hw _ (List.mem_of_getElem? (i := 68) rfl)) Li5 (g := (mkF m 18 #[.val (.ref a), .val (.ref p1), .val (.int p2), .val (.int p3), .val .null, .unset] [(.ref a)])) rfl (hb hby own_d2_18)
  have k23 : ∀ t, Steps p.tables e below (T12.setTop (mkF m 20 #[.val (.ref a), .val (.ref p1), .val (.int p2), .val (.int p3), .val .null, .unset] [(.ref lt5), (.ref a)])) t → Steps p.tables e below (s₁.setTop (entryFrame m #[(.ref a), (.ref p1), (.int p2), (.int p3), .null] 6)) t := fun t k => k21 t (st22 t k)
  obtain ⟨T24, X24, e24, st24⟩ := getF X12 hx hZ hown (host := "") (Or.inl (hw _ (List.mem_of_getElem? (i := 31) rfl))) Via.refl e12 f16 (g := (mkF m 20 #[.val (.ref a), .val (.ref p1), .val (.int p2), .val (.int p3), .val .null, .unset] [(.ref lt5), (.ref a)])) rfl rfl (hb hby own_d2_20)
  have k25 : ∀ t, Steps p.tables e below (T24.setTop (mkF m 23 #[.val (.ref a), .val (.ref p1), .val (.int p2), .val (.int p3), .val .null, .unset] [(.int (0 : Int32)), (.ref a)])) t → Steps p.tables e below (s₁.setTop (entryFrame m #[(.ref a), (.ref p1), (.int p2), (.int p3), .null] 6)) t := fun t k => k23 t (st24 t k)
  obtain ⟨T26, h26, X26, e26, W26, st26⟩ := putFN X24 hx hZ hown (hw _ (List.mem_of_getElem? (i := 31) rfl)) Via.refl e24 f14 f13 (Or.inr ⟨(hw _ (List.mem_of_getElem? (i := 5) rfl)), rfl, hnm⟩) (hw _ (List.mem_of_getElem? (i := 2) rfl)) (ty := .byte) (v' := (.int (nar .byte (0 : Int32)))) (by decide) rfl (fits_nar_byte _) (g := (mkF m 23 #[.val (.ref a), .val (.ref p1), .val (.int p2), .val (.int p3), .val .null, .unset] [(.int (0 : Int32)), (.ref a)])) rfl rfl (hb hby own_d2_23)
  have f27 := f13.wr W26
  have f28 := f19.other W26 (Or.inr (slot_ne (Or.inr (hw _ (List.mem_of_getElem? (i := 4) rfl))) (Or.inr (hw _ (List.mem_of_getElem? (i := 5) rfl))) (by decide) (t := (.array .byte)) (t' := .byte) (by decide) (by decide)))
  have f29 := f15.wr W26
  have f30 := f16.other W26 (Or.inl (Ne.symm nl5))
  have f31 := f17.other W26 (Or.inl (Ne.symm nl5))
  have f32 := f18.other W26 (Ne.symm nc5)
  have f33 := f14.same W26
  have Cr26 := Cr12.trans (CHr.wr W26 Sf12 Cr12.1)
  have Sf26 := Safe.wr W26 Sf12 Cr12.1 Sf12
  have N26 := Fr.snoc X26 N12 ge_a
  have K26 : Keep h0 h26 [a] := K12.wr W26 (Or.inl (List.mem_of_getElem? (i := 0) rfl))
  have Z26 : n0 ≤ h26.size := Nat.le_trans Z12 (Keep.of_wr W26).1
  have k34 : ∀ t, Steps p.tables e below (T26.setTop (mkF m 26 #[.val (.ref a), .val (.ref p1), .val (.int p2), .val (.int p3), .val .null, .unset] [])) t → Steps p.tables e below (s₁.setTop (entryFrame m #[(.ref a), (.ref p1), (.int p2), (.int p3), .null] 6)) t := fun t k => k25 t (st26 t k)
  obtain ⟨fs, hr, hrun, hended, hE⟩ := Stand.leaveW (s := s) X26 Si5 (by rw [e26]; exact Nat.le_trans (Nat.le_trans (Nat.le_trans (Nat.le_refl _) (hk5)) ((Keep.of_wr W12).1)) ((Keep.of_wr W26).1)) (v := none) (fun _ => rfl)
  have Ce := own_chrE (s := s) (vm1 := T5.vm) X26 hw hZ Cr26
  refine ⟨_, _, k34 _ ?_, hrun, hended, _, _, rfl, ?_, (own_chrG hh e26 Ce), ⟨_, rfl⟩, hE.2.1, hE.2.2.1, hE.2.2.2.mono (by decide) (by decide)⟩
  · exact X26.returnOut hx Bd.returns (hb hby own_d2_26) hr
  · show own_Qs2w Z a p1 p2 p3 u2 h0 n0 _ T26.heap _
    rw [e26]
    exact ⟨lb5, rfl, N26, K26, f28, f33, (f32.congr (fun i hi => absurd hi (Nat.not_lt_zero i)))⟩
theorem own_efs1w (m : MethodId) (x0 : Addr) (x1 : Addr) : entryFrame m #[(.ref x0), (.ref x1)] 2 = mkF m 0 #[.val (.ref x0), .val (.ref x1)] [] := by first | (simp [entryFrame, mkF, argsToLocals, Value.category]; done) | rfl
def own_Qs1w (Z : State) (a : Addr) (p1 : Addr) (u2 : Value) (cf : Nat → Int32) (h0 : Heap) (n0 : Nat) (v : Option Value) (h : Heap) (L : List Loc) : Prop := ∃ (b : Addr), v = none ∧ Fr n0 L ∧ Keep h0 h [a] ∧ Fld Z h a "java/lang/String" "value" "[B" (.ref b) ∧ Fld Z h a "java/lang/String" "coder" "B" (.int (0 : Int32)) ∧ own_G Z h b .byte 0 own_zero
def own_Rs1w : Room := { frames := 2, cells := 2, slots := 4, locals := 29 }
set_option maxRecDepth 65536 in
set_option maxHeartbeats 40000000 in
theorem own_rms1w (l : Launch) (Z : State) (a0 : Array Value) (hw : ∀ d ∈ tables_1, d.before a0 Z = true) (ws : List Jvm.Cond) (a : Addr) (p1 : Addr) (u2 : Value) (cf : Nat → Int32) (h0 : Heap) (n0 : Nat) (Z0 : n0 ≤ h0.size) (P0 : Exa Z h0 a "java/lang/String") (P1 : Fld Z h0 a "java/lang/String" "value" "[B" .null) (P2 : Fld Z h0 a "java/lang/String" "coder" "B" u2) (P3 : own_G Z h0 p1 .char 0 cf) (ge_a : n0 ≤ a) (ne_p1_a : p1 ≠ a) :
    MetFree l (⟨"java/lang/String", "<init>", "([C)V"⟩ : MethodName) (head1 (Jvm.Cond.code (⟨"java/lang/String", "<init>", "([C)V"⟩ : MethodName) jdk_42_method_3_code 2 none :: ws) own_Rs1w) (fun aa U => aa = #[(.ref a), (.ref p1)] ∧ Z.Warmed39 U.vm ∧ U.heap = h0 ∧ CHv Z own_EL U.vm h0) (fun _ _ _ _ _ => True) (fun _ U o U' => ∃ v L, o = .returned v ∧ own_Qs1w Z a p1 u2 cf h0 n0 v U'.heap L ∧ CHr Z own_EL U.vm U.heap U'.vm U'.heap ∧ ReturnedEndW U o U' L own_Rs1w.cells own_Rs1w.slots) := by
  refine MetFree.of_bodySF (plainFor_of_name own_pn1) hisR ?_
  intro p e s m args below meth c s₁ Bd hml0 hP hK
  obtain ⟨rfl, hZ, hh, hH0⟩ := hP
  have hx := Bd.exec
  have hby := Bd.bytes
  have hml : c.maxLocals = 2 := hml0
  have hown : s.vm.findClass "java/lang/String" = some m.cls := findClass_of_methodNamed Bd.named
  have hnm := (name_of_methodNamed Bd.named Bd.method).1
  have X0 : Stand p l e own_Rs1w s m #[(.ref a), (.ref p1)] below meth c s₁ [] 0 0 := Stand.of_body Bd
  have e0 : s₁.heap = h0 := by rw [← hh, Bd.state]; rfl
  have N0 := Fr.nil n0
  have pre0 : ∀ t, Steps p.tables e below (s₁.setTop (mkF m 0 #[.val (.ref a), .val (.ref p1)] [])) t → Steps p.tables e below (s₁.setTop (entryFrame m #[(.ref a), (.ref p1)] 2)) t := fun t k => castTop (own_efs1w m a p1) k
  have k1 : ∀ t, Steps p.tables e below (s₁.setTop (mkF m 6 #[.val (.ref a), .val (.ref p1)] [.null, (.int (Nat.toInt32 0)), (.int (0 : Int32)), (.ref p1), (.ref a)])) t → Steps p.tables e below (s₁.setTop (entryFrame m #[(.ref a), (.ref p1)] 2)) t := by
    intro t k
    refine pre0 t ?_
    show Steps p.tables e below (s₁.setTop (mkF m 0 #[.val (.ref a), .val (.ref p1)] [])) _
    refine XS.aloadN X0.here hx rfl (hb hby own_d1_0) rfl rfl ?_
    show Steps p.tables e below (s₁.setTop (mkF m 1 #[.val (.ref a), .val (.ref p1)] [(.ref a)])) _
    refine XS.aloadN X0.here hx rfl (hb hby own_d1_1) rfl rfl ?_
    show Steps p.tables e below (s₁.setTop (mkF m 2 #[.val (.ref a), .val (.ref p1)] [(.ref p1), (.ref a)])) _
    refine XS.iconst X0.here hx rfl (hb hby own_d1_2) ?_
    show Steps p.tables e below (s₁.setTop (mkF m 3 #[.val (.ref a), .val (.ref p1)] [(.int (0 : Int32)), (.ref p1), (.ref a)])) _
    refine XS.aloadN X0.here hx rfl (hb hby own_d1_3) rfl rfl ?_
    show Steps p.tables e below (s₁.setTop (mkF m 4 #[.val (.ref a), .val (.ref p1)] [(.ref p1), (.int (0 : Int32)), (.ref p1), (.ref a)])) _
    refine own_len X0 hx hZ e0 P3 (g := (mkF m 4 #[.val (.ref a), .val (.ref p1)] [(.ref p1), (.int (0 : Int32)), (.ref p1), (.ref a)])) rfl rfl (hb hby own_d1_4) ?_
    show Steps p.tables e below (s₁.setTop (mkF m 5 #[.val (.ref a), .val (.ref p1)] [(.int (Nat.toInt32 0)), (.int (0 : Int32)), (.ref p1), (.ref a)])) _
    refine XS.aconstNull X0.here hx rfl (hb hby own_d1_5) ?_
    exact k
  obtain ⟨_, T2, L2, X2, Si2, Zw2, Ow2, Cl2, hQ2, st2⟩ := own_callIH (s := s) (vm0 := s.vm) (W := 0) X0 hx hw hZ hown (own_since s 0) (Nat.zero_le _) hH0 (hw _ (List.mem_of_getElem? (i := 13) rfl)) (hw _ (List.mem_of_getElem? (i := 14) rfl)) (hw _ (List.mem_of_getElem? (i := 1) rfl)) (hw _ (List.mem_of_getElem? (i := 16) rfl)) rfl (by decide) (own_rms2w l Z a0 hw [] a p1 (0 : Int32) (Nat.toInt32 0) u2 h0 n0 Z0 P0 P1 P2 ge_a (own_eq0 (own_of_nat P3.small))) (by decide) (by decide) e0 (g := (mkF m 6 #[.val (.ref a), .val (.ref p1)] [.null, (.int (Nat.toInt32 0)), (.int (0 : Int32)), (.ref p1), (.ref a)])) rfl (by rw [hml]; rfl) own_pd3 (a := a) (argsL := [(.ref p1), (.int (0 : Int32)), (.int (Nat.toInt32 0)), .null]) (rest := []) rfl rfl rfl (by show 2 * 0 + _ ≤ _; exact Nat.le_of_eq rfl) (hb hby own_d1_6) (by decide) (by decide)
  have hZ : Z.Warmed39 (s.setVm T2.vm).vm := Zw2
  have hown : (s.setVm T2.vm).vm.findClass "java/lang/String" = some m.cls := Ow2
  obtain ⟨b_2, rfl, N2q, Kq2, fq2_0, fq2_1, fq2_2⟩ := hQ2
  have N2 := Fr.app N0 N2q
  have f3 := P0.keep Kq2
  have f4 := P3.keep Kq2 (List.not_mem_cons_of_ne_of_not_mem ne_p1_a List.not_mem_nil)
  have Z2 : n0 ≤ T2.heap.size := Nat.le_trans Z0 Kq2.1
  have K2 : Keep h0 T2.heap [a] := (Keep.refl h0 [a]).trans Kq2 (fun x hx => by rcases List.mem_cons.mp hx with rfl | hx; exact Or.inl (List.mem_of_getElem? (i := 0) rfl); exact nomatch hx)
  have Cr2 := ((CHr.refl hH0)).trans Cl2
  have k5 : ∀ t, Steps p.tables e below (T2.setTop (mkF m 9 #[.val (.ref a), .val (.ref p1)] [])) t → Steps p.tables e below (s₁.setTop (entryFrame m #[(.ref a), (.ref p1)] 2)) t := fun t k => k1 t (st2 t k)
  obtain ⟨fs, hr, hrun, hended, hE⟩ := Stand.leaveW (s := s) X2 Si2 (Nat.le_refl _) (v := none) (fun _ => rfl)
  have Ce := own_chrE (s := s) (vm1 := T2.vm) X2 hw hZ Cr2
  refine ⟨_, _, k5 _ ?_, hrun, hended, _, _, rfl, ?_, (own_chrG hh rfl Ce), ⟨_, rfl⟩, hE.2.1, hE.2.2.1, hE.2.2.2.mono (by decide) (by decide)⟩
  · exact X2.returnOut hx Bd.returns (hb hby own_d1_9) hr
  · show own_Qs1w Z a p1 u2 cf h0 n0 _ T2.heap _
    exact ⟨b_2, rfl, N2, K2, fq2_0, fq2_1, (fq2_2.congr (fun i hi => absurd hi (Nat.not_lt_zero i)))⟩
theorem own_eqs {a b : Nat} (ha : a < 2147483648) (hb : b < 2147483648) (h : Nat.toInt32 a = Nat.toInt32 b) : a = b := by
  have h1 := own_of_nat ha; have h2 := own_of_nat hb; rw [h] at h1; omega
theorem own_all1 {f g : Nat → Int32} {j : Nat} (h : ∀ i, i < j → f i = g i) (q : f j = g j) : ∀ i, i < j + 1 → f i = g i := by
  intro i hi
  by_cases e : i = j
  · subst e; exact q
  · exact h i (by omega)
theorem own_d10_0 : decode jdk_43_method_13_code 0 = .ok (.aload_n 0, 1) := by decide +kernel
theorem own_d10_1 : decode jdk_43_method_13_code 1 = .ok (.arraylength, 1) := by decide +kernel
theorem own_d10_2 : decode jdk_43_method_13_code 2 = .ok (.aload_n 1, 1) := by decide +kernel
theorem own_d10_3 : decode jdk_43_method_13_code 3 = .ok (.arraylength, 1) := by decide +kernel
theorem own_d10_4 : decode jdk_43_method_13_code 4 = .ok (.if_icmp .ne 30, 3) := by decide +kernel
theorem own_d10_7 : decode jdk_43_method_13_code 7 = .ok (.iconst 0, 1) := by decide +kernel
theorem own_d10_8 : decode jdk_43_method_13_code 8 = .ok (.istore_n 2, 1) := by decide +kernel
theorem own_d10_9 : decode jdk_43_method_13_code 9 = .ok (.iload_n 2, 1) := by decide +kernel
theorem own_d10_10 : decode jdk_43_method_13_code 10 = .ok (.aload_n 0, 1) := by decide +kernel
theorem own_d10_11 : decode jdk_43_method_13_code 11 = .ok (.arraylength, 1) := by decide +kernel
theorem own_d10_12 : decode jdk_43_method_13_code 12 = .ok (.if_icmp .ge 20, 3) := by decide +kernel
theorem own_d10_15 : decode jdk_43_method_13_code 15 = .ok (.aload_n 0, 1) := by decide +kernel
theorem own_d10_16 : decode jdk_43_method_13_code 16 = .ok (.iload_n 2, 1) := by decide +kernel
theorem own_d10_17 : decode jdk_43_method_13_code 17 = .ok (.baload, 1) := by decide +kernel
theorem own_d10_18 : decode jdk_43_method_13_code 18 = .ok (.aload_n 1, 1) := by decide +kernel
theorem own_d10_19 : decode jdk_43_method_13_code 19 = .ok (.iload_n 2, 1) := by decide +kernel
theorem own_d10_20 : decode jdk_43_method_13_code 20 = .ok (.baload, 1) := by decide +kernel
theorem own_d10_21 : decode jdk_43_method_13_code 21 = .ok (.if_icmp .eq 5, 3) := by decide +kernel
theorem own_d10_24 : decode jdk_43_method_13_code 24 = .ok (.iconst 0, 1) := by decide +kernel
theorem own_d10_25 : decode jdk_43_method_13_code 25 = .ok (.ireturn, 1) := by decide +kernel
theorem own_d10_26 : decode jdk_43_method_13_code 26 = .ok (.iinc 2 1, 3) := by decide +kernel
theorem own_d10_29 : decode jdk_43_method_13_code 29 = .ok (.goto (-20), 3) := by decide +kernel
theorem own_d10_32 : decode jdk_43_method_13_code 32 = .ok (.iconst 1, 1) := by decide +kernel
theorem own_d10_33 : decode jdk_43_method_13_code 33 = .ok (.ireturn, 1) := by decide +kernel
theorem own_d10_34 : decode jdk_43_method_13_code 34 = .ok (.iconst 0, 1) := by decide +kernel
theorem own_d10_35 : decode jdk_43_method_13_code 35 = .ok (.ireturn, 1) := by decide +kernel
theorem own_pn2 : plainName "java/lang/StringLatin1" = true := by first | (simp [plainName, overriddenIn]; done) | decide +kernel
theorem own_efe1 (m : MethodId) (x0 : Addr) (x1 : Addr) : entryFrame m #[(.ref x0), (.ref x1)] 3 = mkF m 0 #[.val (.ref x0), .val (.ref x1), .unset] [] := by first | (simp [entryFrame, mkF, argsToLocals, Value.category]; done) | rfl
def own_Qe1 (Z : State) (p1 : Addr) (p2 : Addr) (na : Nat) (fa : Nat → Int32) (nb : Nat) (fb : Nat → Int32) (h0 : Heap) (n0 : Nat) (v : Option Value) (h : Heap) (L : List Loc) : Prop := ∃ (r : Int32), v = some (.int r) ∧ Fr n0 L ∧ h = h0 ∧ ((r = (1 : Int32) ∧ (na = nb ∧ ∀ i, i < na → fa i = fb i)) ∨ (r = (0 : Int32) ∧ ¬ (na = nb ∧ ∀ i, i < na → fa i = fb i)))
def own_Re1 : Room := { frames := 0, cells := 0, slots := 0, locals := 0 }
set_option maxRecDepth 65536 in
set_option maxHeartbeats 40000000 in
theorem own_rme1 (l : Launch) (Z : State) (a0 : Array Value) (hw : ∀ d ∈ tables_1, d.before a0 Z = true) (ws : List Jvm.Cond) (p1 : Addr) (p2 : Addr) (na : Nat) (fa : Nat → Int32) (nb : Nat) (fb : Nat → Int32) (h0 : Heap) (n0 : Nat) (Z0 : n0 ≤ h0.size) (P0 : own_G Z h0 p1 .byte na fa) (P1 : own_G Z h0 p2 .byte nb fb) (hs1 : na ≤ 1000000) (hs2 : nb ≤ 1000000) :
    MetFree l (⟨"java/lang/StringLatin1", "equals", "([B[B)Z"⟩ : MethodName) (head1 (Jvm.Cond.code (⟨"java/lang/StringLatin1", "equals", "([B[B)Z"⟩ : MethodName) jdk_43_method_13_code 3 (some .boolean) :: ws) own_Re1) (fun aa U => aa = #[(.ref p1), (.ref p2)] ∧ Z.Warmed39 U.vm ∧ U.heap = h0) (fun _ _ _ _ _ => True) (fun _ U o U' => ∃ v L, o = .returned v ∧ own_Qe1 Z p1 p2 na fa nb fb h0 n0 v U'.heap L ∧ FrameEnd U o U' L own_Re1.cells own_Re1.slots) := by
  refine MetFree.of_bodySF (plainFor_of_name own_pn2) hisR ?_
  intro p e s m args below meth c s₁ Bd hml0 hP hK
  obtain ⟨rfl, hZ, hh⟩ := hP
  have hx := Bd.exec
  have hby := Bd.bytes
  have hml : c.maxLocals = 3 := hml0
  have hown : s.vm.findClass "java/lang/StringLatin1" = some m.cls := findClass_of_methodNamed Bd.named
  have hnm := (name_of_methodNamed Bd.named Bd.method).1
  have X0 : Stand p l e own_Re1 s m #[(.ref p1), (.ref p2)] below meth c s₁ [] 0 0 := Stand.of_body Bd
  have e0 : s₁.heap = h0 := by rw [← hh, Bd.state]; rfl
  have N0 := Fr.nil n0
  have pre0 : ∀ t, Steps p.tables e below (s₁.setTop (mkF m 0 #[.val (.ref p1), .val (.ref p2), .unset] [])) t → Steps p.tables e below (s₁.setTop (entryFrame m #[(.ref p1), (.ref p2)] 3)) t := fun t k => castTop (own_efe1 m p1 p2) k
  have k1 : ∀ t, Steps p.tables e below (s₁.setTop (mkF m 4 #[.val (.ref p1), .val (.ref p2), .unset] [(.int (Nat.toInt32 nb)), (.int (Nat.toInt32 na))])) t → Steps p.tables e below (s₁.setTop (entryFrame m #[(.ref p1), (.ref p2)] 3)) t := by
    intro t k
    refine pre0 t ?_
    show Steps p.tables e below (s₁.setTop (mkF m 0 #[.val (.ref p1), .val (.ref p2), .unset] [])) _
    refine XS.aloadN X0.here hx rfl (hb hby own_d10_0) rfl rfl ?_
    show Steps p.tables e below (s₁.setTop (mkF m 1 #[.val (.ref p1), .val (.ref p2), .unset] [(.ref p1)])) _
    refine own_len X0 hx hZ e0 P0 (g := (mkF m 1 #[.val (.ref p1), .val (.ref p2), .unset] [(.ref p1)])) rfl rfl (hb hby own_d10_1) ?_
    show Steps p.tables e below (s₁.setTop (mkF m 2 #[.val (.ref p1), .val (.ref p2), .unset] [(.int (Nat.toInt32 na))])) _
    refine XS.aloadN X0.here hx rfl (hb hby own_d10_2) rfl rfl ?_
    show Steps p.tables e below (s₁.setTop (mkF m 3 #[.val (.ref p1), .val (.ref p2), .unset] [(.ref p2), (.int (Nat.toInt32 na))])) _
    refine own_len X0 hx hZ e0 P1 (g := (mkF m 3 #[.val (.ref p1), .val (.ref p2), .unset] [(.ref p2), (.int (Nat.toInt32 na))])) rfl rfl (hb hby own_d10_3) ?_
    exact k
  by_cases hc4_2 : (Nat.toInt32 na) = (Nat.toInt32 nb)
  · have hnn : na = nb := own_eqs (by omega) (by omega) hc4_2
    have k3 : ∀ t, Steps p.tables e below (s₁.setTop (mkF m 9 #[.val (.ref p1), .val (.ref p2), .val (.int (0 : Int32))] [])) t → Steps p.tables e below (s₁.setTop (entryFrame m #[(.ref p1), (.ref p2)] 3)) t := by
      intro t k
      refine k1 t ?_
      show Steps p.tables e below (s₁.setTop (mkF m 4 #[.val (.ref p1), .val (.ref p2), .unset] [(.int (Nat.toInt32 nb)), (.int (Nat.toInt32 na))])) _
      refine XS.icmpNo X0.here hx rfl (hb hby own_d10_4) rfl (teq hc4_2).2 ?_
      show Steps p.tables e below (s₁.setTop (mkF m 7 #[.val (.ref p1), .val (.ref p2), .unset] [])) _
      refine XS.iconst X0.here hx rfl (hb hby own_d10_7) ?_
      show Steps p.tables e below (s₁.setTop (mkF m 8 #[.val (.ref p1), .val (.ref p2), .unset] [(.int (0 : Int32))])) _
      refine XS.istoreN X0.here hx rfl (hb hby own_d10_8) rfl (l' := #[.val (.ref p1), .val (.ref p2), .val (.int (0 : Int32))]) rfl ?_
      exact k
    refine own_ind (fun dd => ∃ (jj : Nat) (i2 : Int32) (Tl4 : State) (Ll4 : List Loc), jj + dd = na ∧ i2.toInt = (jj : Int) ∧ (∀ i, i < jj → fa i = fb i) ∧ Stand p l e own_Re1 s m #[(.ref p1), (.ref p2)] below meth c Tl4 Ll4 0 0 ∧ Tl4.heap = h0 ∧ Fr n0 Ll4 ∧ ∀ t, Steps p.tables e below (Tl4.setTop (mkF m 9 #[.val (.ref p1), .val (.ref p2), .val (.int i2)] [])) t → Steps p.tables e below (s₁.setTop (entryFrame m #[(.ref p1), (.ref p2)] 3)) t) ?_ ?_ (na) ⟨0, (0 : Int32), _, _, (by omega), rfl, fun i hi => absurd hi (by omega), X0, e0, N0, k3⟩
    · rintro ⟨jj, i2, Tl4, Ll4, ivj, iv2, ivg, Xl4, el4, Nl4, kl4⟩
      have k5 : ∀ t, Steps p.tables e below (Tl4.setTop (mkF m 33 #[.val (.ref p1), .val (.ref p2), .val (.int i2)] [(.int (1 : Int32))])) t → Steps p.tables e below (s₁.setTop (entryFrame m #[(.ref p1), (.ref p2)] 3)) t := by
        intro t k
        refine kl4 t ?_
        show Steps p.tables e below (Tl4.setTop (mkF m 9 #[.val (.ref p1), .val (.ref p2), .val (.int i2)] [])) _
        refine XS.iloadN Xl4.here hx rfl (hb hby own_d10_9) rfl ?_
        show Steps p.tables e below (Tl4.setTop (mkF m 10 #[.val (.ref p1), .val (.ref p2), .val (.int i2)] [(.int i2)])) _
        refine XS.aloadN Xl4.here hx rfl (hb hby own_d10_10) rfl rfl ?_
        show Steps p.tables e below (Tl4.setTop (mkF m 11 #[.val (.ref p1), .val (.ref p2), .val (.int i2)] [(.ref p1), (.int i2)])) _
        refine own_len Xl4 hx hZ el4 P0 (g := (mkF m 11 #[.val (.ref p1), .val (.ref p2), .val (.int i2)] [(.ref p1), (.int i2)])) rfl rfl (hb hby own_d10_11) ?_
        show Steps p.tables e below (Tl4.setTop (mkF m 12 #[.val (.ref p1), .val (.ref p2), .val (.int i2)] [(.int (Nat.toInt32 na)), (.int i2)])) _
        refine XS.icmpYes Xl4.here hx rfl (pc0 := 12) (pc' := 32) rfl (hb hby own_d10_12) rfl (flt (own_nlt iv2 (own_of_nat (n := na) (by omega)) (by omega))).2.1 (by decide) (by decide) ?_
        show Steps p.tables e below (Tl4.setTop (mkF m 32 #[.val (.ref p1), .val (.ref p2), .val (.int i2)] [])) _
        refine XS.iconst Xl4.here hx rfl (hb hby own_d10_32) ?_
        exact k
      obtain ⟨fs, hr, hrun, hended, hW, hsame⟩ := Xl4.leave (v := (some (.int (1 : Int32)))) (fun h => by rw [Bd.returns] at h; cases h)
      refine ⟨_, _, k5 _ ?_, hrun, hended, _, _, rfl, ?_, ⟨_, rfl⟩, hW, hsame.mono (by decide) (by decide)⟩
      · exact retN Xl4 hx (t := .boolean) Bd.returns (by simp) (hb hby own_d10_33) hr
      · show own_Qe1 Z p1 p2 na fa nb fb h0 n0 _ Tl4.heap _
        exact ⟨(1 : Int32), rfl, Nl4, el4, (Or.inl ⟨rfl, hnn, fun i hi => ivg i (by omega)⟩)⟩
    · rintro dd ⟨jj, i2, Tl4, Ll4, ivj, iv2, ivg, Xl4, el4, Nl4, kl4⟩ ih
      have k6 : ∀ t, Steps p.tables e below (Tl4.setTop (mkF m 21 #[.val (.ref p1), .val (.ref p2), .val (.int i2)] [(.int (fb jj)), (.int (fa jj))])) t → Steps p.tables e below (s₁.setTop (entryFrame m #[(.ref p1), (.ref p2)] 3)) t := by
        intro t k
        refine kl4 t ?_
        show Steps p.tables e below (Tl4.setTop (mkF m 9 #[.val (.ref p1), .val (.ref p2), .val (.int i2)] [])) _
        refine XS.iloadN Xl4.here hx rfl (hb hby own_d10_9) rfl ?_
        show Steps p.tables e below (Tl4.setTop (mkF m 10 #[.val (.ref p1), .val (.ref p2), .val (.int i2)] [(.int i2)])) _
        refine XS.aloadN Xl4.here hx rfl (hb hby own_d10_10) rfl rfl ?_
        show Steps p.tables e below (Tl4.setTop (mkF m 11 #[.val (.ref p1), .val (.ref p2), .val (.int i2)] [(.ref p1), (.int i2)])) _
        refine own_len Xl4 hx hZ el4 P0 (g := (mkF m 11 #[.val (.ref p1), .val (.ref p2), .val (.int i2)] [(.ref p1), (.int i2)])) rfl rfl (hb hby own_d10_11) ?_
        show Steps p.tables e below (Tl4.setTop (mkF m 12 #[.val (.ref p1), .val (.ref p2), .val (.int i2)] [(.int (Nat.toInt32 na)), (.int i2)])) _
        refine XS.icmpNo Xl4.here hx rfl (hb hby own_d10_12) rfl (tlt (own_lt iv2 (own_of_nat (n := na) (by omega)) (by omega))).2.1 ?_
        show Steps p.tables e below (Tl4.setTop (mkF m 15 #[.val (.ref p1), .val (.ref p2), .val (.int i2)] [])) _
        refine XS.aloadN Xl4.here hx rfl (hb hby own_d10_15) rfl rfl ?_
        show Steps p.tables e below (Tl4.setTop (mkF m 16 #[.val (.ref p1), .val (.ref p2), .val (.int i2)] [(.ref p1)])) _
        refine XS.iloadN Xl4.here hx rfl (hb hby own_d10_16) rfl ?_
        show Steps p.tables e below (Tl4.setTop (mkF m 17 #[.val (.ref p1), .val (.ref p2), .val (.int i2)] [(.int i2), (.ref p1)])) _
        refine own_ldB Xl4 hx hZ el4 P0 (j := i2) iv2 (by omega) (g := (mkF m 17 #[.val (.ref p1), .val (.ref p2), .val (.int i2)] [(.int i2), (.ref p1)])) rfl rfl (hb hby own_d10_17) ?_
        show Steps p.tables e below (Tl4.setTop (mkF m 18 #[.val (.ref p1), .val (.ref p2), .val (.int i2)] [(.int (fa jj))])) _
        refine XS.aloadN Xl4.here hx rfl (hb hby own_d10_18) rfl rfl ?_
        show Steps p.tables e below (Tl4.setTop (mkF m 19 #[.val (.ref p1), .val (.ref p2), .val (.int i2)] [(.ref p2), (.int (fa jj))])) _
        refine XS.iloadN Xl4.here hx rfl (hb hby own_d10_19) rfl ?_
        show Steps p.tables e below (Tl4.setTop (mkF m 20 #[.val (.ref p1), .val (.ref p2), .val (.int i2)] [(.int i2), (.ref p2), (.int (fa jj))])) _
        refine own_ldB Xl4 hx hZ el4 P1 (j := i2) iv2 (by omega) (g := (mkF m 20 #[.val (.ref p1), .val (.ref p2), .val (.int i2)] [(.int i2), (.ref p2), (.int (fa jj))])) rfl rfl (hb hby own_d10_20) ?_
        exact k
      by_cases hc21_7 : (fa jj) = (fb jj)
      · have k8 : ∀ t, Steps p.tables e below (Tl4.setTop (mkF m 9 #[.val (.ref p1), .val (.ref p2), .val (.int (i2 + (1 : Int32)))] [])) t → Steps p.tables e below (s₁.setTop (entryFrame m #[(.ref p1), (.ref p2)] 3)) t := by
          intro t k
          refine k6 t ?_
          show Steps p.tables e below (Tl4.setTop (mkF m 21 #[.val (.ref p1), .val (.ref p2), .val (.int i2)] [(.int (fb jj)), (.int (fa jj))])) _
          refine XS.icmpYes Xl4.here hx rfl (pc0 := 21) (pc' := 26) rfl (hb hby own_d10_21) rfl (teq hc21_7).1 (by decide) (by decide) ?_
          show Steps p.tables e below (Tl4.setTop (mkF m 26 #[.val (.ref p1), .val (.ref p2), .val (.int i2)] [])) _
          refine XS.iinc Xl4.here hx rfl (hb hby own_d10_26) rfl (l' := #[.val (.ref p1), .val (.ref p2), .val (.int (i2 + (1 : Int32)))]) rfl ?_
          show Steps p.tables e below (Tl4.setTop (mkF m 29 #[.val (.ref p1), .val (.ref p2), .val (.int (i2 + (1 : Int32)))] [])) _
          refine XS.goto Xl4.here hx rfl (pc0 := 29) (pc' := 9) rfl (hb hby own_d10_29) (by decide) (by decide) ?_
          exact k
        exact ih ⟨(jj + 1), (i2 + (1 : Int32)), _, _, (by omega), (own_inc iv2 (by omega)), (own_all1 ivg hc21_7), Xl4, el4, Nl4, k8⟩
      · have k9 : ∀ t, Steps p.tables e below (Tl4.setTop (mkF m 25 #[.val (.ref p1), .val (.ref p2), .val (.int i2)] [(.int (0 : Int32))])) t → Steps p.tables e below (s₁.setTop (entryFrame m #[(.ref p1), (.ref p2)] 3)) t := by
          intro t k
          refine k6 t ?_
          show Steps p.tables e below (Tl4.setTop (mkF m 21 #[.val (.ref p1), .val (.ref p2), .val (.int i2)] [(.int (fb jj)), (.int (fa jj))])) _
          refine XS.icmpNo Xl4.here hx rfl (hb hby own_d10_21) rfl (feq hc21_7).1 ?_
          show Steps p.tables e below (Tl4.setTop (mkF m 24 #[.val (.ref p1), .val (.ref p2), .val (.int i2)] [])) _
          refine XS.iconst Xl4.here hx rfl (hb hby own_d10_24) ?_
          exact k
        obtain ⟨fs, hr, hrun, hended, hW, hsame⟩ := Xl4.leave (v := (some (.int (0 : Int32)))) (fun h => by rw [Bd.returns] at h; cases h)
        refine ⟨_, _, k9 _ ?_, hrun, hended, _, _, rfl, ?_, ⟨_, rfl⟩, hW, hsame.mono (by decide) (by decide)⟩
        · exact retN Xl4 hx (t := .boolean) Bd.returns (by simp) (hb hby own_d10_25) hr
        · show own_Qe1 Z p1 p2 na fa nb fb h0 n0 _ Tl4.heap _
          exact ⟨(0 : Int32), rfl, Nl4, el4, (Or.inr ⟨rfl, fun q => hc21_7 (q.2 jj (by omega))⟩)⟩
  · have k10 : ∀ t, Steps p.tables e below (s₁.setTop (mkF m 35 #[.val (.ref p1), .val (.ref p2), .unset] [(.int (0 : Int32))])) t → Steps p.tables e below (s₁.setTop (entryFrame m #[(.ref p1), (.ref p2)] 3)) t := by
      intro t k
      refine k1 t ?_
      show Steps p.tables e below (s₁.setTop (mkF m 4 #[.val (.ref p1), .val (.ref p2), .unset] [(.int (Nat.toInt32 nb)), (.int (Nat.toInt32 na))])) _
      refine XS.icmpYes X0.here hx rfl (pc0 := 4) (pc' := 34) rfl (hb hby own_d10_4) rfl (feq hc4_2).2 (by decide) (by decide) ?_
      show Steps p.tables e below (s₁.setTop (mkF m 34 #[.val (.ref p1), .val (.ref p2), .unset] [])) _
      refine XS.iconst X0.here hx rfl (hb hby own_d10_34) ?_
      exact k
    obtain ⟨fs, hr, hrun, hended, hW, hsame⟩ := X0.leave (v := (some (.int (0 : Int32)))) (fun h => by rw [Bd.returns] at h; cases h)
    refine ⟨_, _, k10 _ ?_, hrun, hended, _, _, rfl, ?_, ⟨_, rfl⟩, hW, hsame.mono (by decide) (by decide)⟩
    · exact retN X0 hx (t := .boolean) Bd.returns (by simp) (hb hby own_d10_35) hr
    · show own_Qe1 Z p1 p2 na fa nb fb h0 n0 _ s₁.heap _
      exact ⟨(0 : Int32), rfl, N0, e0, (Or.inr ⟨rfl, fun q => hc4_2 (by rw [q.1])⟩)⟩
theorem own_Gu {Z : State} {h : Heap} {a : Addr} {ty : FieldType} {n n' : Nat} {f g : Nat → Int32} (A : own_G Z h a ty n f) (B : own_G Z h a ty n' g) : n = n' ∧ ∀ i, i < n → f i = g i := by
  obtain ⟨c, A1, A2, -, A3⟩ := A
  obtain ⟨c', B1, B2, -, B3⟩ := B
  cases A1.1.symm.trans B1.1
  have e : n = n' := A2.symm.trans B2
  refine ⟨e, fun i hi => ?_⟩
  have q := (A3 i hi).1.symm.trans (B3 i (by omega)).1
  injection q with q; injection q
theorem own_sm {Z : State} {h : Heap} {a p b1 b2 : Addr} {n1 n2 : Nat} {f1 f2 : Nat → Int32} (e : a = p) (F1 : Fld Z h a "java/lang/String" "value" "[B" (.ref b1)) (F2 : Fld Z h p "java/lang/String" "value" "[B" (.ref b2)) (G1 : own_G Z h b1 .byte n1 f1) (G2 : own_G Z h b2 .byte n2 f2) : n1 = n2 ∧ ∀ i, i < n1 → f1 i = f2 i := by
  subst e
  have q := own_fld1 F1 F2
  cases q
  exact own_Gu G1 G2
theorem own_eqr1 {r : Int32} {P : Prop} (h : (r = (1 : Int32) ∧ P) ∨ (r = (0 : Int32) ∧ ¬ P)) (q : ¬ (r = (0 : Int32))) : ((1 : Int32) = (1 : Int32) ∧ P) ∨ ((1 : Int32) = (0 : Int32) ∧ ¬ P) := by
  rcases h with h | h
  · exact Or.inl ⟨rfl, h.2⟩
  · exact absurd h.1 q
theorem own_eqr0 {r : Int32} {P : Prop} (h : (r = (1 : Int32) ∧ P) ∨ (r = (0 : Int32) ∧ ¬ P)) (q : r = (0 : Int32)) : ((0 : Int32) = (1 : Int32) ∧ P) ∨ ((0 : Int32) = (0 : Int32) ∧ ¬ P) := by
  rcases h with h | h
  · exact absurd (h.1.symm.trans q) (by decide)
  · exact Or.inr ⟨rfl, h.2⟩
theorem own_d9_0 : decode jdk_42_method_66_code 0 = .ok (.aload_n 0, 1) := by decide +kernel
theorem own_d9_1 : decode jdk_42_method_66_code 1 = .ok (.aload_n 1, 1) := by decide +kernel
theorem own_d9_2 : decode jdk_42_method_66_code 2 = .ok (.if_acmp .ne 5, 3) := by decide +kernel
theorem own_d9_5 : decode jdk_42_method_66_code 5 = .ok (.iconst 1, 1) := by decide +kernel
theorem own_d9_6 : decode jdk_42_method_66_code 6 = .ok (.ireturn, 1) := by decide +kernel
theorem own_d9_7 : decode jdk_42_method_66_code 7 = .ok (.aload_n 1, 1) := by decide +kernel
theorem own_d9_8 : decode jdk_42_method_66_code 8 = .ok (.instanceof 10, 3) := by decide +kernel
theorem own_d9_11 : decode jdk_42_method_66_code 11 = .ok (.ifCond .eq 43, 3) := by decide +kernel
theorem own_d9_14 : decode jdk_42_method_66_code 14 = .ok (.aload_n 1, 1) := by decide +kernel
theorem own_d9_15 : decode jdk_42_method_66_code 15 = .ok (.checkcast 10, 3) := by decide +kernel
theorem own_d9_18 : decode jdk_42_method_66_code 18 = .ok (.astore_n 2, 1) := by decide +kernel
theorem own_d9_19 : decode jdk_42_method_66_code 19 = .ok (.getstatic 38, 3) := by decide +kernel
theorem own_d9_22 : decode jdk_42_method_66_code 22 = .ok (.ifCond .eq 14, 3) := by decide +kernel
theorem own_d9_25 : decode jdk_42_method_66_code 25 = .ok (.aload_n 0, 1) := by decide +kernel
theorem own_d9_26 : decode jdk_42_method_66_code 26 = .ok (.getfield 15, 3) := by decide +kernel
theorem own_d9_29 : decode jdk_42_method_66_code 29 = .ok (.aload_n 2, 1) := by decide +kernel
theorem own_d9_30 : decode jdk_42_method_66_code 30 = .ok (.getfield 15, 3) := by decide +kernel
theorem own_d9_33 : decode jdk_42_method_66_code 33 = .ok (.if_icmp .ne 21, 3) := by decide +kernel
theorem own_d9_36 : decode jdk_42_method_66_code 36 = .ok (.aload_n 0, 1) := by decide +kernel
theorem own_d9_37 : decode jdk_42_method_66_code 37 = .ok (.getfield 9, 3) := by decide +kernel
theorem own_d9_40 : decode jdk_42_method_66_code 40 = .ok (.aload_n 2, 1) := by decide +kernel
theorem own_d9_41 : decode jdk_42_method_66_code 41 = .ok (.getfield 9, 3) := by decide +kernel
theorem own_d9_44 : decode jdk_42_method_66_code 44 = .ok (.invokestatic 541, 3) := by decide +kernel
theorem own_d9_47 : decode jdk_42_method_66_code 47 = .ok (.ifCond .eq 7, 3) := by decide +kernel
theorem own_d9_50 : decode jdk_42_method_66_code 50 = .ok (.iconst 1, 1) := by decide +kernel
theorem own_d9_51 : decode jdk_42_method_66_code 51 = .ok (.goto 4, 3) := by decide +kernel
theorem own_d9_54 : decode jdk_42_method_66_code 54 = .ok (.iconst 0, 1) := by decide +kernel
theorem own_d9_55 : decode jdk_42_method_66_code 55 = .ok (.ireturn, 1) := by decide +kernel
theorem own_pd4 : parseMethodDescriptor "([B[B)Z" = some ⟨[(.array .byte), (.array .byte)], some .boolean⟩ := by decide +kernel
theorem own_efeq (m : MethodId) (x0 : Addr) (x1 : Addr) : entryFrame m #[(.ref x0), (.ref x1)] 3 = mkF m 0 #[.val (.ref x0), .val (.ref x1), .unset] [] := by first | (simp [entryFrame, mkF, argsToLocals, Value.category]; done) | rfl
def own_Qeq (Z : State) (a : Addr) (p1 : Addr) (ba_ : Addr) (bb_ : Addr) (na : Nat) (fa : Nat → Int32) (nb : Nat) (fb : Nat → Int32) (cs : Int32) (h0 : Heap) (n0 : Nat) (v : Option Value) (h : Heap) (L : List Loc) : Prop := ∃ (r : Int32), v = some (.int r) ∧ Fr n0 L ∧ h = h0 ∧ ((r = (1 : Int32) ∧ (na = nb ∧ ∀ i, i < na → fa i = fb i)) ∨ (r = (0 : Int32) ∧ ¬ (na = nb ∧ ∀ i, i < na → fa i = fb i)))
def own_Req : Room := { frames := 1, cells := 0, slots := 0, locals := 14 }
set_option maxRecDepth 65536 in
set_option maxHeartbeats 40000000 in
theorem own_rmeq (l : Launch) (Z : State) (a0 : Array Value) (hw : ∀ d ∈ tables_1, d.before a0 Z = true) (ws : List Jvm.Cond) (a : Addr) (p1 : Addr) (ba_ : Addr) (bb_ : Addr) (na : Nat) (fa : Nat → Int32) (nb : Nat) (fb : Nat → Int32) (cs : Int32) (h0 : Heap) (n0 : Nat) (Z0 : n0 ≤ h0.size) (P0 : Exa Z h0 a "java/lang/String") (P1 : Fld Z h0 a "java/lang/String" "value" "[B" (.ref ba_)) (P2 : Fld Z h0 a "java/lang/String" "coder" "B" (.int (0 : Int32))) (P3 : own_G Z h0 ba_ .byte na fa) (P4 : Exa Z h0 p1 "java/lang/String") (P5 : Fld Z h0 p1 "java/lang/String" "value" "[B" (.ref bb_)) (P6 : Fld Z h0 p1 "java/lang/String" "coder" "B" (.int (0 : Int32))) (P7 : own_G Z h0 bb_ .byte nb fb) (Xo : Old Z n0 h0) (SC : Sta Z Z.heap "java/lang/String" "COMPACT_STRINGS" "Z" (.int cs)) (hcs : ¬ (cs = (0 : Int32))) (hs1 : na ≤ 1000000) (hs2 : nb ≤ 1000000) :
    MetFree l (⟨"java/lang/String", "equals", "(Ljava/lang/Object;)Z"⟩ : MethodName) (head1 (Jvm.Cond.code (⟨"java/lang/String", "equals", "(Ljava/lang/Object;)Z"⟩ : MethodName) jdk_42_method_66_code 3 (some .boolean) :: ws) own_Req) (fun aa U => aa = #[(.ref a), (.ref p1)] ∧ Z.Warmed39 U.vm ∧ U.heap = h0) (fun _ _ _ _ _ => True) (fun _ U o U' => ∃ v L, o = .returned v ∧ own_Qeq Z a p1 ba_ bb_ na fa nb fb cs h0 n0 v U'.heap L ∧ FrameEnd U o U' L own_Req.cells own_Req.slots) := by
  refine MetFree.of_bodySF (plainFor_of_name own_pn1) hisR ?_
  intro p e s m args below meth c s₁ Bd hml0 hP hK
  obtain ⟨rfl, hZ, hh⟩ := hP
  have hx := Bd.exec
  have hby := Bd.bytes
  have hml : c.maxLocals = 3 := hml0
  have hown : s.vm.findClass "java/lang/String" = some m.cls := findClass_of_methodNamed Bd.named
  have hnm := (name_of_methodNamed Bd.named Bd.method).1
  have X0 : Stand p l e own_Req s m #[(.ref a), (.ref p1)] below meth c s₁ [] 0 0 := Stand.of_body Bd
  have e0 : s₁.heap = h0 := by rw [← hh, Bd.state]; rfl
  have N0 := Fr.nil n0
  have pre0 : ∀ t, Steps p.tables e below (s₁.setTop (mkF m 0 #[.val (.ref a), .val (.ref p1), .unset] [])) t → Steps p.tables e below (s₁.setTop (entryFrame m #[(.ref a), (.ref p1)] 3)) t := fun t k => castTop (own_efeq m a p1) k
  have k1 : ∀ t, Steps p.tables e below (s₁.setTop (mkF m 2 #[.val (.ref a), .val (.ref p1), .unset] [(.ref p1), (.ref a)])) t → Steps p.tables e below (s₁.setTop (entryFrame m #[(.ref a), (.ref p1)] 3)) t := by
    intro t k
    refine pre0 t ?_
    show Steps p.tables e below (s₁.setTop (mkF m 0 #[.val (.ref a), .val (.ref p1), .unset] [])) _
    refine XS.aloadN X0.here hx rfl (hb hby own_d9_0) rfl rfl ?_
    show Steps p.tables e below (s₁.setTop (mkF m 1 #[.val (.ref a), .val (.ref p1), .unset] [(.ref a)])) _
    refine XS.aloadN X0.here hx rfl (hb hby own_d9_1) rfl rfl ?_
    exact k
  by_cases hc2_2 : a = p1
  · have k3 : ∀ t, Steps p.tables e below (s₁.setTop (mkF m 6 #[.val (.ref a), .val (.ref p1), .unset] [(.int (1 : Int32))])) t → Steps p.tables e below (s₁.setTop (entryFrame m #[(.ref a), (.ref p1)] 3)) t := by
      intro t k
      refine k1 t ?_
      show Steps p.tables e below (s₁.setTop (mkF m 2 #[.val (.ref a), .val (.ref p1), .unset] [(.ref p1), (.ref a)])) _
      refine Jvm.RoadKit.acmp (g := (mkF m 2 #[.val (.ref a), .val (.ref p1), .unset] [(.ref p1), (.ref a)])) X0 hx rfl rfl rfl (pc0 := 2) (pc' := 5) (same := true) rfl (hb hby own_d9_2) rfl (decide_eq_true (congrArg Value.ref hc2_2)) (by decide) (by decide) ?_
      show Steps p.tables e below (s₁.setTop (mkF m 5 #[.val (.ref a), .val (.ref p1), .unset] [])) _
      refine XS.iconst X0.here hx rfl (hb hby own_d9_5) ?_
      exact k
    obtain ⟨fs, hr, hrun, hended, hW, hsame⟩ := X0.leave (v := (some (.int (1 : Int32)))) (fun h => by rw [Bd.returns] at h; cases h)
    refine ⟨_, _, k3 _ ?_, hrun, hended, _, _, rfl, ?_, ⟨_, rfl⟩, hW, hsame.mono (by decide) (by decide)⟩
    · exact retN X0 hx (t := .boolean) Bd.returns (by simp) (hb hby own_d9_6) hr
    · show own_Qeq Z a p1 ba_ bb_ na fa nb fb cs h0 n0 _ s₁.heap _
      exact ⟨(1 : Int32), rfl, N0, e0, (Or.inl ⟨rfl, own_sm hc2_2 P1 P5 P3 P7⟩)⟩
  · have k4 : ∀ t, Steps p.tables e below (s₁.setTop (mkF m 8 #[.val (.ref a), .val (.ref p1), .unset] [(.ref p1)])) t → Steps p.tables e below (s₁.setTop (entryFrame m #[(.ref a), (.ref p1)] 3)) t := by
      intro t k
      refine k1 t ?_
      show Steps p.tables e below (s₁.setTop (mkF m 2 #[.val (.ref a), .val (.ref p1), .unset] [(.ref p1), (.ref a)])) _
      refine Jvm.RoadKit.acmp (g := (mkF m 2 #[.val (.ref a), .val (.ref p1), .unset] [(.ref p1), (.ref a)])) X0 hx rfl rfl rfl (pc0 := 2) (pc' := 7) (same := false) rfl (hb hby own_d9_2) rfl (decide_eq_false fun q => hc2_2 (Value.ref.inj q)) (by decide) (by decide) ?_
      show Steps p.tables e below (s₁.setTop (mkF m 7 #[.val (.ref a), .val (.ref p1), .unset] [])) _
      refine XS.aloadN X0.here hx rfl (hb hby own_d9_7) rfl rfl ?_
      exact k
    obtain ⟨T5, X5, e5, st5⟩ := instY X0 hx hZ hown (hw _ (List.mem_of_getElem? (i := 52) rfl)) e0 (Ins.self P4) (g := (mkF m 8 #[.val (.ref a), .val (.ref p1), .unset] [(.ref p1)])) rfl rfl (hb hby own_d9_8)
    have k6 : ∀ t, Steps p.tables e below (T5.setTop (mkF m 11 #[.val (.ref a), .val (.ref p1), .unset] [(.int (1 : Int32))])) t → Steps p.tables e below (s₁.setTop (entryFrame m #[(.ref a), (.ref p1)] 3)) t := fun t k => k4 t (st5 t k)
    have k7 : ∀ t, Steps p.tables e below (T5.setTop (mkF m 15 #[.val (.ref a), .val (.ref p1), .unset] [(.ref p1)])) t → Steps p.tables e below (s₁.setTop (entryFrame m #[(.ref a), (.ref p1)] 3)) t := by
      intro t k
      refine k6 t ?_
      show Steps p.tables e below (T5.setTop (mkF m 11 #[.val (.ref a), .val (.ref p1), .unset] [(.int (1 : Int32))])) _
      refine XS.ifNo X5.here hx rfl (hb hby own_d9_11) rfl ((if0 _ _).trans (feq (by decide : ¬ ((1 : Int32) = (0 : Int32)))).1) ?_
      show Steps p.tables e below (T5.setTop (mkF m 14 #[.val (.ref a), .val (.ref p1), .unset] [])) _
      refine XS.aloadN X5.here hx rfl (hb hby own_d9_14) rfl rfl ?_
      exact k
    obtain ⟨T8, X8, e8, st8⟩ := castY X5 hx hZ hown (hw _ (List.mem_of_getElem? (i := 52) rfl)) e5 (Ins.self P4) (g := (mkF m 15 #[.val (.ref a), .val (.ref p1), .unset] [(.ref p1)])) rfl rfl (hb hby own_d9_15)
    have k9 : ∀ t, Steps p.tables e below (T8.setTop (mkF m 18 #[.val (.ref a), .val (.ref p1), .unset] [(.ref p1)])) t → Steps p.tables e below (s₁.setTop (entryFrame m #[(.ref a), (.ref p1)] 3)) t := fun t k => k7 t (st8 t k)
    have k10 : ∀ t, Steps p.tables e below (T8.setTop (mkF m 19 #[.val (.ref a), .val (.ref p1), .val (.ref p1)] [])) t → Steps p.tables e below (s₁.setTop (entryFrame m #[(.ref a), (.ref p1)] 3)) t := by
      intro t k
      refine k9 t ?_
      show Steps p.tables e below (T8.setTop (mkF m 18 #[.val (.ref a), .val (.ref p1), .unset] [(.ref p1)])) _
      refine XS.astoreN X8.here hx rfl (hb hby own_d9_18) rfl rfl (l' := #[.val (.ref a), .val (.ref p1), .val (.ref p1)]) rfl ?_
      exact k
    obtain ⟨T11, X11, e11, st11⟩ := getS2 X8 hx hZ hown (host := "") (Or.inl (hw _ (List.mem_of_getElem? (i := 20) rfl))) Via.refl e8 (SC.ext Xo.2) (g := (mkF m 19 #[.val (.ref a), .val (.ref p1), .val (.ref p1)] [])) rfl (hb hby own_d9_19)
    have k12 : ∀ t, Steps p.tables e below (T11.setTop (mkF m 22 #[.val (.ref a), .val (.ref p1), .val (.ref p1)] [(.int cs)])) t → Steps p.tables e below (s₁.setTop (entryFrame m #[(.ref a), (.ref p1)] 3)) t := fun t k => k10 t (st11 t k)
    have k13 : ∀ t, Steps p.tables e below (T11.setTop (mkF m 26 #[.val (.ref a), .val (.ref p1), .val (.ref p1)] [(.ref a)])) t → Steps p.tables e below (s₁.setTop (entryFrame m #[(.ref a), (.ref p1)] 3)) t := by
      intro t k
      refine k12 t ?_
      show Steps p.tables e below (T11.setTop (mkF m 22 #[.val (.ref a), .val (.ref p1), .val (.ref p1)] [(.int cs)])) _
      refine XS.ifNo X11.here hx rfl (hb hby own_d9_22) rfl ((if0 _ _).trans (feq hcs).1) ?_
      show Steps p.tables e below (T11.setTop (mkF m 25 #[.val (.ref a), .val (.ref p1), .val (.ref p1)] [])) _
      refine XS.aloadN X11.here hx rfl (hb hby own_d9_25) rfl rfl ?_
      exact k
    obtain ⟨T14, X14, e14, st14⟩ := getF X11 hx hZ hown (host := "") (Or.inl (hw _ (List.mem_of_getElem? (i := 31) rfl))) Via.refl e11 P2 (g := (mkF m 26 #[.val (.ref a), .val (.ref p1), .val (.ref p1)] [(.ref a)])) rfl rfl (hb hby own_d9_26)
    have k15 : ∀ t, Steps p.tables e below (T14.setTop (mkF m 29 #[.val (.ref a), .val (.ref p1), .val (.ref p1)] [(.int (0 : Int32))])) t → Steps p.tables e below (s₁.setTop (entryFrame m #[(.ref a), (.ref p1)] 3)) t := fun t k => k13 t (st14 t k)
    have k16 : ∀ t, Steps p.tables e below (T14.setTop (mkF m 30 #[.val (.ref a), .val (.ref p1), .val (.ref p1)] [(.ref p1), (.int (0 : Int32))])) t → Steps p.tables e below (s₁.setTop (entryFrame m #[(.ref a), (.ref p1)] 3)) t := by
      intro t k
      refine k15 t ?_
      show Steps p.tables e below (T14.setTop (mkF m 29 #[.val (.ref a), .val (.ref p1), .val (.ref p1)] [(.int (0 : Int32))])) _
      refine XS.aloadN X14.here hx rfl (hb hby own_d9_29) rfl rfl ?_
      exact k
    obtain ⟨T17, X17, e17, st17⟩ := getF X14 hx hZ hown (host := "") (Or.inl (hw _ (List.mem_of_getElem? (i := 31) rfl))) Via.refl e14 P6 (g := (mkF m 30 #[.val (.ref a), .val (.ref p1), .val (.ref p1)] [(.ref p1), (.int (0 : Int32))])) rfl rfl (hb hby own_d9_30)
    have k18 : ∀ t, Steps p.tables e below (T17.setTop (mkF m 33 #[.val (.ref a), .val (.ref p1), .val (.ref p1)] [(.int (0 : Int32)), (.int (0 : Int32))])) t → Steps p.tables e below (s₁.setTop (entryFrame m #[(.ref a), (.ref p1)] 3)) t := fun t k => k16 t (st17 t k)
    have k19 : ∀ t, Steps p.tables e below (T17.setTop (mkF m 37 #[.val (.ref a), .val (.ref p1), .val (.ref p1)] [(.ref a)])) t → Steps p.tables e below (s₁.setTop (entryFrame m #[(.ref a), (.ref p1)] 3)) t := by
      intro t k
      refine k18 t ?_
      show Steps p.tables e below (T17.setTop (mkF m 33 #[.val (.ref a), .val (.ref p1), .val (.ref p1)] [(.int (0 : Int32)), (.int (0 : Int32))])) _
      refine XS.icmpNo X17.here hx rfl (hb hby own_d9_33) rfl (teq (rfl : (0 : Int32) = (0 : Int32))).2 ?_
      show Steps p.tables e below (T17.setTop (mkF m 36 #[.val (.ref a), .val (.ref p1), .val (.ref p1)] [])) _
      refine XS.aloadN X17.here hx rfl (hb hby own_d9_36) rfl rfl ?_
      exact k
    obtain ⟨T20, X20, e20, st20⟩ := getF X17 hx hZ hown (host := "") (Or.inl (hw _ (List.mem_of_getElem? (i := 32) rfl))) Via.refl e17 P1 (g := (mkF m 37 #[.val (.ref a), .val (.ref p1), .val (.ref p1)] [(.ref a)])) rfl rfl (hb hby own_d9_37)
    have k21 : ∀ t, Steps p.tables e below (T20.setTop (mkF m 40 #[.val (.ref a), .val (.ref p1), .val (.ref p1)] [(.ref ba_)])) t → Steps p.tables e below (s₁.setTop (entryFrame m #[(.ref a), (.ref p1)] 3)) t := fun t k => k19 t (st20 t k)
    have k22 : ∀ t, Steps p.tables e below (T20.setTop (mkF m 41 #[.val (.ref a), .val (.ref p1), .val (.ref p1)] [(.ref p1), (.ref ba_)])) t → Steps p.tables e below (s₁.setTop (entryFrame m #[(.ref a), (.ref p1)] 3)) t := by
      intro t k
      refine k21 t ?_
      show Steps p.tables e below (T20.setTop (mkF m 40 #[.val (.ref a), .val (.ref p1), .val (.ref p1)] [(.ref ba_)])) _
      refine XS.aloadN X20.here hx rfl (hb hby own_d9_40) rfl rfl ?_
      exact k
    obtain ⟨T23, X23, e23, st23⟩ := getF X20 hx hZ hown (host := "") (Or.inl (hw _ (List.mem_of_getElem? (i := 32) rfl))) Via.refl e20 P5 (g := (mkF m 41 #[.val (.ref a), .val (.ref p1), .val (.ref p1)] [(.ref p1), (.ref ba_)])) rfl rfl (hb hby own_d9_41)
    have k24 : ∀ t, Steps p.tables e below (T23.setTop (mkF m 44 #[.val (.ref a), .val (.ref p1), .val (.ref p1)] [(.ref bb_), (.ref ba_)])) t → Steps p.tables e below (s₁.setTop (entryFrame m #[(.ref a), (.ref p1)] 3)) t := fun t k => k22 t (st23 t k)
    obtain ⟨_, _, ⟨T25, L25, k25c, n25⟩, -, X25, ⟨Lc25, hQ25, l25, y25, z25⟩, st25⟩ := Jvm.LawKit.callS X23 hx (y := (⟨"java/lang/StringLatin1", "equals", "([B[B)Z"⟩ : MethodName)) hown (mvT hZ (hw _ (List.mem_of_getElem? (i := 53) rfl))) (mvT hZ (hw _ (List.mem_of_getElem? (i := 54) rfl))) (mvT hZ (hw _ (List.mem_of_getElem? (i := 55) rfl))) (mvT hZ (hw _ (List.mem_of_getElem? (i := 56) rfl))) (by decide) (backOf (W := 0) (own_rme1 l Z a0 hw [] ba_ bb_ na fa nb fb h0 n0 Z0 P3 P7 (by omega) (by omega)) hZ (hw _ (List.mem_of_getElem? (i := 56) rfl)) (hw _ (List.mem_of_getElem? (i := 55) rfl)) (by decide) (by decide)) (g := (mkF m 44 #[.val (.ref a), .val (.ref p1), .val (.ref p1)] [(.ref bb_), (.ref ba_)])) rfl (by rw [hml]; rfl) (argsL := [(.ref ba_), (.ref bb_)]) (rest := []) (lenOf own_pd4 rfl) rfl (by show 2 * 0 + _ ≤ _; exact Nat.le_of_eq rfl) (hb hby own_d9_44) (fun _ _ => ⟨rfl, e23, (by decide : 0 + 0 ≤ _), (by decide : 0 + 0 ≤ _)⟩)
    dsimp only [Pt.U, Pt.locs, Pt.cells, Pt.slots] at X25 l25 y25 z25 st25 hQ25
    subst l25 y25 z25
    obtain ⟨r_25, rfl, N25q, e25, hq25_hr⟩ := hQ25
    have N25 := Fr.app N0 N25q
    have k26 : ∀ t, Steps p.tables e below (T25.setTop (mkF m 47 #[.val (.ref a), .val (.ref p1), .val (.ref p1)] [(.int r_25)])) t → Steps p.tables e below (s₁.setTop (entryFrame m #[(.ref a), (.ref p1)] 3)) t := fun t k => k24 t (st25 t k)
    by_cases hc47_27 : r_25 = (0 : Int32)
    · have k28 : ∀ t, Steps p.tables e below (T25.setTop (mkF m 55 #[.val (.ref a), .val (.ref p1), .val (.ref p1)] [(.int (0 : Int32))])) t → Steps p.tables e below (s₁.setTop (entryFrame m #[(.ref a), (.ref p1)] 3)) t := by
        intro t k
        refine k26 t ?_
        show Steps p.tables e below (T25.setTop (mkF m 47 #[.val (.ref a), .val (.ref p1), .val (.ref p1)] [(.int r_25)])) _
        refine XS.ifYes X25.here hx rfl (pc0 := 47) (pc' := 54) rfl (hb hby own_d9_47) rfl ((if0 _ _).trans (teq hc47_27).1) (by decide) (by decide) ?_
        show Steps p.tables e below (T25.setTop (mkF m 54 #[.val (.ref a), .val (.ref p1), .val (.ref p1)] [])) _
        refine XS.iconst X25.here hx rfl (hb hby own_d9_54) ?_
        exact k
      obtain ⟨fs, hr, hrun, hended, hW, hsame⟩ := X25.leave (v := (some (.int (0 : Int32)))) (fun h => by rw [Bd.returns] at h; cases h)
      refine ⟨_, _, k28 _ ?_, hrun, hended, _, _, rfl, ?_, ⟨_, rfl⟩, hW, hsame.mono (by decide) (by decide)⟩
      · exact retN X25 hx (t := .boolean) Bd.returns (by simp) (hb hby own_d9_55) hr
      · show own_Qeq Z a p1 ba_ bb_ na fa nb fb cs h0 n0 _ T25.heap _
        exact ⟨(0 : Int32), rfl, N25, e25, (own_eqr0 hq25_hr hc47_27)⟩
    · have k29 : ∀ t, Steps p.tables e below (T25.setTop (mkF m 55 #[.val (.ref a), .val (.ref p1), .val (.ref p1)] [(.int (1 : Int32))])) t → Steps p.tables e below (s₁.setTop (entryFrame m #[(.ref a), (.ref p1)] 3)) t := by
        intro t k
        refine k26 t ?_
        show Steps p.tables e below (T25.setTop (mkF m 47 #[.val (.ref a), .val (.ref p1), .val (.ref p1)] [(.int r_25)])) _
        refine XS.ifNo X25.here hx rfl (hb hby own_d9_47) rfl ((if0 _ _).trans (feq hc47_27).1) ?_
        show Steps p.tables e below (T25.setTop (mkF m 50 #[.val (.ref a), .val (.ref p1), .val (.ref p1)] [])) _
        refine XS.iconst X25.here hx rfl (hb hby own_d9_50) ?_
        show Steps p.tables e below (T25.setTop (mkF m 51 #[.val (.ref a), .val (.ref p1), .val (.ref p1)] [(.int (1 : Int32))])) _
        refine XS.goto X25.here hx rfl (pc0 := 51) (pc' := 55) rfl (hb hby own_d9_51) (by decide) (by decide) ?_
        exact k
      obtain ⟨fs, hr, hrun, hended, hW, hsame⟩ := X25.leave (v := (some (.int (1 : Int32)))) (fun h => by rw [Bd.returns] at h; cases h)
      refine ⟨_, _, k29 _ ?_, hrun, hended, _, _, rfl, ?_, ⟨_, rfl⟩, hW, hsame.mono (by decide) (by decide)⟩
      · exact retN X25 hx (t := .boolean) Bd.returns (by simp) (hb hby own_d9_55) hr
      · show own_Qeq Z a p1 ba_ bb_ na fa nb fb cs h0 n0 _ T25.heap _
        exact ⟨(1 : Int32), rfl, N25, e25, (own_eqr1 hq25_hr hc47_27)⟩
theorem own_d7_0 : decode prog_69_method_1_code 0 = .ok (.aload_n 0, 1) := by decide +kernel
theorem own_d7_1 : decode prog_69_method_1_code 1 = .ok (.invokespecial 1, 3) := by decide +kernel
theorem own_d7_4 : decode prog_69_method_1_code 4 = .ok (.return_, 1) := by decide +kernel
theorem own_pn3 : plainName "com/example/domicile/domicile/tei/TeiVocabulary" = true := by first | (simp [plainName, overriddenIn]; done) | decide +kernel
theorem own_eftv (m : MethodId) (x0 : Addr) : entryFrame m #[(.ref x0)] 1 = mkF m 0 #[.val (.ref x0)] [] := by first | (simp [entryFrame, mkF, argsToLocals, Value.category]; done) | rfl
def own_Qtv (Z : State) (a : Addr) (h0 : Heap) (n0 : Nat) (v : Option Value) (h : Heap) (L : List Loc) : Prop := v = none ∧ Fr n0 L ∧ h = h0
def own_Rtv : Room := { frames := 1, cells := 0, slots := 0, locals := 12 }
set_option maxRecDepth 65536 in
set_option maxHeartbeats 40000000 in
theorem own_rmtv (l : Launch) (Z : State) (a0 : Array Value) (hw : ∀ d ∈ tables_1, d.before a0 Z = true) (ws : List Jvm.Cond) (a : Addr) (h0 : Heap) (n0 : Nat) (Z0 : n0 ≤ h0.size) :
    MetFree l (⟨"com/example/domicile/domicile/tei/TeiVocabulary", "<init>", "()V"⟩ : MethodName) (head1 (Jvm.Cond.code (⟨"com/example/domicile/domicile/tei/TeiVocabulary", "<init>", "()V"⟩ : MethodName) prog_69_method_1_code 1 none :: ws) own_Rtv) (fun aa U => aa = #[(.ref a)] ∧ Z.Warmed39 U.vm ∧ U.heap = h0) (fun _ _ _ _ _ => True) (fun _ U o U' => ∃ v L, o = .returned v ∧ own_Qtv Z a h0 n0 v U'.heap L ∧ FrameEnd U o U' L own_Rtv.cells own_Rtv.slots) := by
  refine MetFree.of_bodySF (plainFor_of_name own_pn3) hisR ?_
  intro p e s m args below meth c s₁ Bd hml0 hP hK
  obtain ⟨rfl, hZ, hh⟩ := hP
  have hx := Bd.exec
  have hby := Bd.bytes
  have hml : c.maxLocals = 1 := hml0
  have hown : s.vm.findClass "com/example/domicile/domicile/tei/TeiVocabulary" = some m.cls := findClass_of_methodNamed Bd.named
  have hnm := (name_of_methodNamed Bd.named Bd.method).1
  have X0 : Stand p l e own_Rtv s m #[(.ref a)] below meth c s₁ [] 0 0 := Stand.of_body Bd
  have e0 : s₁.heap = h0 := by rw [← hh, Bd.state]; rfl
  have N0 := Fr.nil n0
  have pre0 : ∀ t, Steps p.tables e below (s₁.setTop (mkF m 0 #[.val (.ref a)] [])) t → Steps p.tables e below (s₁.setTop (entryFrame m #[(.ref a)] 1)) t := fun t k => castTop (own_eftv m a) k
  have k1 : ∀ t, Steps p.tables e below (s₁.setTop (mkF m 1 #[.val (.ref a)] [(.ref a)])) t → Steps p.tables e below (s₁.setTop (entryFrame m #[(.ref a)] 1)) t := by
    intro t k
    refine pre0 t ?_
    show Steps p.tables e below (s₁.setTop (mkF m 0 #[.val (.ref a)] [])) _
    refine XS.aloadN X0.here hx rfl (hb hby own_d7_0) rfl rfl ?_
    exact k
  obtain ⟨T2, X2, e2, st2⟩ := initO X0 hx hZ hown (hw _ (List.mem_of_getElem? (i := 39) rfl)) (hw _ (List.mem_of_getElem? (i := 18) rfl)) (hw _ (List.mem_of_getElem? (i := 19) rfl)) e0 (g := (mkF m 1 #[.val (.ref a)] [(.ref a)])) rfl (by rw [hml]; rfl) rfl (hb hby own_d7_1) (by decide) (W := 0) (by show 2 * 0 + _ ≤ _; exact Nat.le_of_eq rfl) (by decide)
  have k3 : ∀ t, Steps p.tables e below (T2.setTop (mkF m 4 #[.val (.ref a)] [])) t → Steps p.tables e below (s₁.setTop (entryFrame m #[(.ref a)] 1)) t := fun t k => k1 t (st2 t k)
  obtain ⟨fs, hr, hrun, hended, hW, hsame⟩ := X2.leave (v := none) (fun _ => rfl)
  refine ⟨_, _, k3 _ ?_, hrun, hended, _, _, rfl, ?_, ⟨_, rfl⟩, hW, hsame.mono (by decide) (by decide)⟩
  · exact X2.returnOut hx Bd.returns (hb hby own_d7_4) hr
  · show own_Qtv Z a h0 n0 _ T2.heap _
    exact ⟨rfl, N0, e2⟩
def own_is (n : Nat) (f : Nat → Int32) (vs : List Int32) : Prop := n = vs.length ∧ ∀ i, i < n → f i = own_of vs i
theorem own_eqT {r : Int32} {E : Prop} (h : (r = (1 : Int32) ∧ E) ∨ (r = (0 : Int32) ∧ ¬ E)) (c : ¬ (r = (0 : Int32))) : E := by
  rcases h with h | h
  · exact h.2
  · exact absurd h.1 c
theorem own_eqF {r : Int32} {E : Prop} (h : (r = (1 : Int32) ∧ E) ∨ (r = (0 : Int32) ∧ ¬ E)) (c : r = (0 : Int32)) : ¬ E := by
  rcases h with h | h
  · exact absurd (h.1.symm.trans c) (by decide)
  · exact h.2
theorem own_flip {n k : Nat} {f : Nat → Int32} {vs : List Int32} (hk : vs.length = k) (q : own_is n f vs) : k = n ∧ ∀ i, i < k → own_of vs i = f i := by
  obtain ⟨q1, q2⟩ := q
  exact ⟨by omega, fun i hi => (q2 i (by omega)).symm⟩
theorem own_flop {n k : Nat} {f : Nat → Int32} {vs : List Int32} (hk : vs.length = k) (q : k = n ∧ ∀ i, i < k → own_of vs i = f i) : own_is n f vs :=
  ⟨by omega, fun i hi => (q.2 i (by omega)).symm⟩
section OwnMb
variable {r1 r2 r3 : Int32} {n n' k1 k2 k3 : Nat} {f g : Nat → Int32} {A B C : List Int32}
theorem own_mb10 (h1 : (r1 = (1 : Int32) ∧ (27 = n ∧ ∀ i, i < 27 → own_of own_tx0 i = f i)) ∨ (r1 = (0 : Int32) ∧ ¬ (27 = n ∧ ∀ i, i < 27 → own_of own_tx0 i = f i))) (c1 : r1 = (0 : Int32)) {P : Prop} : ((0 : Int32) = (1 : Int32) ∧ (own_is n f own_tx0 ∧ P)) ∨ ((0 : Int32) = (0 : Int32) ∧ ¬ (own_is n f own_tx0 ∧ P)) :=
  Or.inr ⟨rfl, fun q => own_eqF h1 c1 (own_flip rfl q.1)⟩
theorem own_mb21 (h1 : (r1 = (1 : Int32) ∧ (27 = n ∧ ∀ i, i < 27 → own_of own_tx0 i = f i)) ∨ (r1 = (0 : Int32) ∧ ¬ (27 = n ∧ ∀ i, i < 27 → own_of own_tx0 i = f i))) (c1 : ¬ (r1 = (0 : Int32))) (h2 : (r2 = (1 : Int32) ∧ (n' = 7 ∧ ∀ i, i < n' → g i = own_of own_tx1 i)) ∨ (r2 = (0 : Int32) ∧ ¬ (n' = 7 ∧ ∀ i, i < n' → g i = own_of own_tx1 i))) (c2 : ¬ (r2 = (0 : Int32))) {P : Prop} :
    ((1 : Int32) = (1 : Int32) ∧ (own_is n f own_tx0 ∧ (own_is n' g own_tx1 ∨ P))) ∨ ((1 : Int32) = (0 : Int32) ∧ ¬ (own_is n f own_tx0 ∧ (own_is n' g own_tx1 ∨ P))) :=
  Or.inl ⟨rfl, own_flop rfl (own_eqT h1 c1), Or.inl (own_eqT h2 c2)⟩
theorem own_mb31 (h1 : (r1 = (1 : Int32) ∧ (27 = n ∧ ∀ i, i < 27 → own_of own_tx0 i = f i)) ∨ (r1 = (0 : Int32) ∧ ¬ (27 = n ∧ ∀ i, i < 27 → own_of own_tx0 i = f i))) (c1 : ¬ (r1 = (0 : Int32))) (h2 : (r2 = (1 : Int32) ∧ (n' = 7 ∧ ∀ i, i < n' → g i = own_of own_tx1 i)) ∨ (r2 = (0 : Int32) ∧ ¬ (n' = 7 ∧ ∀ i, i < n' → g i = own_of own_tx1 i))) (c2 : r2 = (0 : Int32)) (h3 : (r3 = (1 : Int32) ∧ (n' = 9 ∧ ∀ i, i < n' → g i = own_of own_tx2 i)) ∨ (r3 = (0 : Int32) ∧ ¬ (n' = 9 ∧ ∀ i, i < n' → g i = own_of own_tx2 i))) (c3 : ¬ (r3 = (0 : Int32))) :
    ((1 : Int32) = (1 : Int32) ∧ (own_is n f own_tx0 ∧ (own_is n' g own_tx1 ∨ own_is n' g own_tx2))) ∨ ((1 : Int32) = (0 : Int32) ∧ ¬ (own_is n f own_tx0 ∧ (own_is n' g own_tx1 ∨ own_is n' g own_tx2))) :=
  Or.inl ⟨rfl, own_flop rfl (own_eqT h1 c1), Or.inr (own_eqT h3 c3)⟩
theorem own_mb30 (h1 : (r1 = (1 : Int32) ∧ (27 = n ∧ ∀ i, i < 27 → own_of own_tx0 i = f i)) ∨ (r1 = (0 : Int32) ∧ ¬ (27 = n ∧ ∀ i, i < 27 → own_of own_tx0 i = f i))) (c1 : ¬ (r1 = (0 : Int32))) (h2 : (r2 = (1 : Int32) ∧ (n' = 7 ∧ ∀ i, i < n' → g i = own_of own_tx1 i)) ∨ (r2 = (0 : Int32) ∧ ¬ (n' = 7 ∧ ∀ i, i < n' → g i = own_of own_tx1 i))) (c2 : r2 = (0 : Int32)) (h3 : (r3 = (1 : Int32) ∧ (n' = 9 ∧ ∀ i, i < n' → g i = own_of own_tx2 i)) ∨ (r3 = (0 : Int32) ∧ ¬ (n' = 9 ∧ ∀ i, i < n' → g i = own_of own_tx2 i))) (c3 : r3 = (0 : Int32)) :
    ((0 : Int32) = (1 : Int32) ∧ (own_is n f own_tx0 ∧ (own_is n' g own_tx1 ∨ own_is n' g own_tx2))) ∨ ((0 : Int32) = (0 : Int32) ∧ ¬ (own_is n f own_tx0 ∧ (own_is n' g own_tx1 ∨ own_is n' g own_tx2))) :=
  Or.inr ⟨rfl, fun q => q.2.elim (fun z => own_eqF h2 c2 z) (fun z => own_eqF h3 c3 z)⟩
end OwnMb
theorem own_c255 (x : Int32) : ¬ ((255 : Int32) < nar .char ((x &&& (255 : Int32)).toUInt32.toUInt16.toUInt32.toInt32)) := by
  have h1 := c_mask x 255 8 (by decide) (by decide)
  have h2 := c_i2c (x &&& 255)
  have h3 := c_i2c ((x &&& (255 : Int32)).toUInt32.toUInt16.toUInt32.toInt32)
  have e : (nar .char ((x &&& (255 : Int32)).toUInt32.toUInt16.toUInt32.toInt32)).toInt = (((x &&& (255 : Int32)).toUInt32.toUInt16.toUInt32.toInt32).toUInt32.toUInt16.toUInt32.toInt32).toInt := rfl
  rw [Int32.lt_iff_toInt_lt, e]
  have e2 : (255 : Int32).toInt = 255 := rfl
  omega
theorem own_halL {vs : List Int32} (h : ∀ v ∈ vs, ¬ ((255 : Int32) < v)) : ∀ i, i < vs.length → ¬ ((255 : Int32) < own_of vs (0 + i)) := by
  intro i hi
  rw [Nat.zero_add]; unfold own_of; rw [List.getD_eq_getElem?_getD, List.getElem?_eq_getElem hi]
  exact h _ (List.getElem_mem hi)
theorem own_notL {n : Nat} {f : Nat → Int32} {vs : List Int32} (h : n ≠ vs.length) : ¬ own_is n f vs := fun q => h q.1
theorem own_b8a {v : Int32} (h0 : 0 ≤ v.toInt) (h1 : v.toInt < 128) : nar .byte (v.toInt8.toInt32) = v := by
  have q := c_i2b v
  have q2 := c_i2b (v.toInt8.toInt32)
  apply Int32.toInt_inj.mp
  have e : (nar .byte (v.toInt8.toInt32)).toInt = ((v.toInt8.toInt32).toInt8.toInt32).toInt := rfl
  omega
theorem own_halU {f : Nat → Int32} {n k : Nat} {x : Int32} (h : ∀ i, i < n → ¬ ((255 : Int32) < f (0 + i))) (hx : ¬ ((255 : Int32) < x)) : ∀ i, i < n → ¬ ((255 : Int32) < own_upd f k x (0 + i)) := by
  intro i hi
  unfold own_upd
  by_cases q : 0 + i = k
  · rw [if_pos q]; exact hx
  · rw [if_neg q]; exact h i hi
theorem own_byteq {x v : Int32} (hv : 0 ≤ v.toInt ∧ v.toInt < 128) (hx : 0 ≤ x.toInt ∧ x.toInt < 256) (h : nar .byte (x.toInt8.toInt32) = v) : v = x := by
  have q := c_i2b x
  have q2 := c_i2b (x.toInt8.toInt32)
  apply Int32.toInt_inj.mp
  have e : (nar .byte (x.toInt8.toInt32)).toInt = ((x.toInt8.toInt32).toInt8.toInt32).toInt := rfl
  rw [h] at e
  omega
theorem own_chg {L : List Int32} {n k : Nat} {r : Int32} (hn : L.length = n) (hL : ∀ i, i < n → 0 ≤ (own_of L i).toInt ∧ (own_of L i).toInt < 128) (hk : k < n) (hr : 0 ≤ r.toInt ∧ r.toInt < 256) : own_is n (own_b8 (own_upd (own_of L) k r) 0) L ↔ own_of L k = r := by
  constructor
  · intro q
    have z := q.2 k hk
    unfold own_b8 own_upd at z
    rw [if_pos (Nat.zero_add k)] at z
    exact own_byteq (hL k hk) hr z
  · intro q
    refine ⟨hn.symm, fun i hi => ?_⟩
    unfold own_b8 own_upd
    rw [Nat.zero_add]
    by_cases e : i = k
    · rw [if_pos e]; subst e; rw [← q]; exact own_b8a (hL i hi).1 (hL i hi).2
    · rw [if_neg e]; exact own_b8a (hL i hi).1 (hL i hi).2

theorem own_d8_0 : decode prog_69_method_8_code 0 = .ok (.ldc 13, 2) := by decide +kernel
theorem own_d8_2 : decode prog_69_method_8_code 2 = .ok (.aload_n 1, 1) := by decide +kernel
theorem own_d8_3 : decode prog_69_method_8_code 3 = .ok (.invokevirtual 23, 3) := by decide +kernel
theorem own_d8_6 : decode prog_69_method_8_code 6 = .ok (.ifCond .eq 25, 3) := by decide +kernel
theorem own_d8_9 : decode prog_69_method_8_code 9 = .ok (.aload_n 2, 1) := by decide +kernel
theorem own_d8_10 : decode prog_69_method_8_code 10 = .ok (.ldc 29, 2) := by decide +kernel
theorem own_d8_12 : decode prog_69_method_8_code 12 = .ok (.invokevirtual 23, 3) := by decide +kernel
theorem own_d8_15 : decode prog_69_method_8_code 15 = .ok (.ifCond .ne 12, 3) := by decide +kernel
theorem own_d8_18 : decode prog_69_method_8_code 18 = .ok (.aload_n 2, 1) := by decide +kernel
theorem own_d8_19 : decode prog_69_method_8_code 19 = .ok (.ldc 31, 2) := by decide +kernel
theorem own_d8_21 : decode prog_69_method_8_code 21 = .ok (.invokevirtual 23, 3) := by decide +kernel
theorem own_d8_24 : decode prog_69_method_8_code 24 = .ok (.ifCond .eq 7, 3) := by decide +kernel
theorem own_d8_27 : decode prog_69_method_8_code 27 = .ok (.iconst 1, 1) := by decide +kernel
theorem own_d8_28 : decode prog_69_method_8_code 28 = .ok (.goto 4, 3) := by decide +kernel
theorem own_d8_31 : decode prog_69_method_8_code 31 = .ok (.iconst 0, 1) := by decide +kernel
theorem own_d8_32 : decode prog_69_method_8_code 32 = .ok (.ireturn, 1) := by decide +kernel
theorem own_pd5 : parseMethodDescriptor "(Ljava/lang/Object;)Z" = some ⟨[(.object "java/lang/Object")], some .boolean⟩ := by decide +kernel
theorem own_efmb (m : MethodId) (x0 : Addr) (x1 : Addr) (x2 : Addr) : entryFrame m #[(.ref x0), (.ref x1), (.ref x2)] 3 = mkF m 0 #[.val (.ref x0), .val (.ref x1), .val (.ref x2)] [] := by first | (simp [entryFrame, mkF, argsToLocals, Value.category]; done) | rfl
def own_Qmb (Z : State) (a : Addr) (p1 : Addr) (p2 : Addr) (ba_ : Addr) (bb_ : Addr) (na : Nat) (fa : Nat → Int32) (nb : Nat) (fb : Nat → Int32) (cs : Int32) (h0 : Heap) (n0 : Nat) (v : Option Value) (h : Heap) (L : List Loc) : Prop := ∃ (r : Int32), v = some (.int r) ∧ Fr n0 L ∧ Keep h0 h [] ∧ ((r = (1 : Int32) ∧ (own_is na fa own_tx0 ∧ (own_is nb fb own_tx1 ∨ own_is nb fb own_tx2))) ∨ (r = (0 : Int32) ∧ ¬ (own_is na fa own_tx0 ∧ (own_is nb fb own_tx1 ∨ own_is nb fb own_tx2))))
def own_Rmb : Room := { frames := 2, cells := 6, slots := 184, locals := 28 }
set_option maxRecDepth 65536 in
set_option maxHeartbeats 40000000 in
theorem own_rmmb (l : Launch) (Z : State) (a0 : Array Value) (hw : ∀ d ∈ tables_1, d.before a0 Z = true) (ws : List Jvm.Cond) (a : Addr) (p1 : Addr) (p2 : Addr) (ba_ : Addr) (bb_ : Addr) (na : Nat) (fa : Nat → Int32) (nb : Nat) (fb : Nat → Int32) (cs : Int32) (h0 : Heap) (n0 : Nat) (Z0 : n0 ≤ h0.size) (P0 : Exa Z h0 p1 "java/lang/String") (P1 : Fld Z h0 p1 "java/lang/String" "value" "[B" (.ref ba_)) (P2 : Fld Z h0 p1 "java/lang/String" "coder" "B" (.int (0 : Int32))) (P3 : own_G Z h0 ba_ .byte na fa) (P4 : Exa Z h0 p2 "java/lang/String") (P5 : Fld Z h0 p2 "java/lang/String" "value" "[B" (.ref bb_)) (P6 : Fld Z h0 p2 "java/lang/String" "coder" "B" (.int (0 : Int32))) (P7 : own_G Z h0 bb_ .byte nb fb) (Xo : Old Z n0 h0) (SC : Sta Z Z.heap "java/lang/String" "COMPACT_STRINGS" "Z" (.int cs)) (hcs : ¬ (cs = (0 : Int32))) (hs1 : na ≤ 1000000) (hs2 : nb ≤ 1000000) :
    MetFree l (⟨"com/example/domicile/domicile/tei/TeiVocabulary", "mayBeRecord", "(Ljava/lang/String;Ljava/lang/String;)Z"⟩ : MethodName) (head1 (Jvm.Cond.code (⟨"com/example/domicile/domicile/tei/TeiVocabulary", "mayBeRecord", "(Ljava/lang/String;Ljava/lang/String;)Z"⟩ : MethodName) prog_69_method_8_code 3 (some .boolean) :: ws) own_Rmb) (fun aa U => aa = #[(.ref a), (.ref p1), (.ref p2)] ∧ Z.Warmed39 U.vm ∧ U.heap = h0 ∧ CHv Z own_EL U.vm h0) (fun _ _ _ _ _ => True) (fun _ U o U' => ∃ v L, o = .returned v ∧ own_Qmb Z a p1 p2 ba_ bb_ na fa nb fb cs h0 n0 v U'.heap L ∧ ReturnedEndW U o U' L own_Rmb.cells own_Rmb.slots) := by
  refine MetFree.of_bodySF (plainFor_of_name own_pn3) hisR ?_
  intro p e s m args below meth c s₁ Bd hml0 hP hK
  obtain ⟨rfl, hZ, hh, hH0⟩ := hP
  have hx := Bd.exec
  have hby := Bd.bytes
  have hml : c.maxLocals = 3 := hml0
  have hown : s.vm.findClass "com/example/domicile/domicile/tei/TeiVocabulary" = some m.cls := findClass_of_methodNamed Bd.named
  have hnm := (name_of_methodNamed Bd.named Bd.method).1
  have X0 : Stand p l e own_Rmb s m #[(.ref a), (.ref p1), (.ref p2)] below meth c s₁ [] 0 0 := Stand.of_body Bd
  have e0 : s₁.heap = h0 := by rw [← hh, Bd.state]; rfl
  have N0 := Fr.nil n0
  have pre0 : ∀ t, Steps p.tables e below (s₁.setTop (mkF m 0 #[.val (.ref a), .val (.ref p1), .val (.ref p2)] [])) t → Steps p.tables e below (s₁.setTop (entryFrame m #[(.ref a), (.ref p1), (.ref p2)] 3)) t := fun t k => castTop (own_efmb m a p1 p2) k
  obtain ⟨lt1, T1, h1, lb1, k11, X1, e1, E1, Si1, hk1, Zw1, Ow1, Ea1, Fc1, Fv1, Gb1, Cl1, Li1, st1⟩ := own_ldcL (s := s) (vm0 := s.vm) (text := "http://www.tei-c.org/ns/1.0") (vs := own_tx0) (n := 27) (z := 27) X0 hx hZ hown hw (hw _ (List.mem_of_getElem? (i := 45) rfl)) (List.mem_of_getElem? (i := 0) rfl) e0 (own_since s 0) (Nat.zero_le _) hH0 (by decide +kernel) (by first | rfl | decide +kernel) rfl rfl (g := (mkF m 0 #[.val (.ref a), .val (.ref p1), .val (.ref p2)] [])) rfl (hb hby own_d8_0) (cap := 108) (by decide +kernel) (by decide) (by decide) (by decide)
  have hZ : Z.Warmed39 (s.setVm T1.vm).vm := Zw1
  have hown : (s.setVm T1.vm).vm.findClass "com/example/domicile/domicile/tei/TeiVocabulary" = some m.cls := Ow1
  have f2 := P0.ext E1
  have f3 := P1.ext E1
  have f4 := P2.ext E1
  have f5 := P3.ext E1
  have f6 := P4.ext E1
  have f7 := P5.ext E1
  have f8 := P6.ext E1
  have f9 := P7.ext E1
  have Z1 : n0 ≤ h1.size := Nat.le_trans Z0 E1.1
  have K1 : Keep h0 h1 [] := (Keep.refl h0 []).ext E1
  have Xo1 := Xo.ext E1
  have k10 : ∀ t, Steps p.tables e below (T1.setTop (mkF m 2 #[.val (.ref a), .val (.ref p1), .val (.ref p2)] [(.ref lt1)])) t → Steps p.tables e below (s₁.setTop (entryFrame m #[(.ref a), (.ref p1), (.ref p2)] 3)) t := fun t k => pre0 t (st1 t k)
  have k11 : ∀ t, Steps p.tables e below (T1.setTop (mkF m 3 #[.val (.ref a), .val (.ref p1), .val (.ref p2)] [(.ref p1), (.ref lt1)])) t → Steps p.tables e below (s₁.setTop (entryFrame m #[(.ref a), (.ref p1), (.ref p2)] 3)) t := by
    intro t k
    refine k10 t ?_
    show Steps p.tables e below (T1.setTop (mkF m 2 #[.val (.ref a), .val (.ref p1), .val (.ref p2)] [(.ref lt1)])) _
    refine XS.aloadN X1.here hx rfl (hb hby own_d8_2) rfl rfl ?_
    exact k
  obtain ⟨cq12, kq12, q12a, q12b, q12c⟩ := isOf hZ e1 Ea1
  obtain ⟨_, _, ⟨T12, L12, k12c, n12⟩, -, X12, ⟨Lc12, hQ12, l12, y12, z12⟩, st12⟩ := X1.virtualBack hx (y := (⟨"java/lang/String", "equals", "(Ljava/lang/Object;)Z"⟩ : MethodName)) (z := (⟨"java/lang/String", "equals", "(Ljava/lang/Object;)Z"⟩ : MethodName)) hown (mvT hZ (hw _ (List.mem_of_getElem? (i := 46) rfl))) (mvT hZ (hw _ (List.mem_of_getElem? (i := 47) rfl))) (notFace_of_selects (args := #[]) (mvT hZ (hw _ (List.mem_of_getElem? (i := 49) rfl)))) (mvT hZ (hw _ (List.mem_of_getElem? (i := 49) rfl))) (mvT hZ (hw _ (List.mem_of_getElem? (i := 48) rfl))) (by decide) (backOf (W := 0) (own_rmeq l Z a0 hw [] lt1 p1 lb1 ba_ 27 (own_of own_tx0) na fa cs h1 n0 Z1 Ea1 Fv1 Fc1 Gb1 f2 f3 f4 f5 Xo1 SC hcs (by omega) (by omega)) hZ (hw _ (List.mem_of_getElem? (i := 50) rfl)) (hw _ (List.mem_of_getElem? (i := 1) rfl)) (by decide) (by decide)) q12a q12c (g := (mkF m 3 #[.val (.ref a), .val (.ref p1), .val (.ref p2)] [(.ref p1), (.ref lt1)])) rfl (by rw [hml]; rfl) (Steps.refl _) (argsL := [(.ref p1)]) (rest := []) (lenOf own_pd5 rfl) rfl (by show 2 * 0 + _ ≤ _; exact Nat.le_of_eq rfl) (hb hby own_d8_3) (fun _ _ => ⟨rfl, e1, (by decide : 2 + 0 ≤ _), (by decide : 112 + 0 ≤ _)⟩)
  dsimp only [Pt.U, Pt.locs, Pt.cells, Pt.slots] at X12 l12 y12 z12 st12 hQ12
  subst l12 y12 z12
  obtain ⟨r_12, rfl, N12q, e12, hq12_hr⟩ := hQ12
  have N12 := Fr.app N0 N12q
  have k13 : ∀ t, Steps p.tables e below (T12.setTop (mkF m 6 #[.val (.ref a), .val (.ref p1), .val (.ref p2)] [(.int r_12)])) t → Steps p.tables e below (s₁.setTop (entryFrame m #[(.ref a), (.ref p1), (.ref p2)] 3)) t := fun t k => k11 t (st12.trans k)
  by_cases hc6_14 : r_12 = (0 : Int32)
  · have k15 : ∀ t, Steps p.tables e below (T12.setTop (mkF m 32 #[.val (.ref a), .val (.ref p1), .val (.ref p2)] [(.int (0 : Int32))])) t → Steps p.tables e below (s₁.setTop (entryFrame m #[(.ref a), (.ref p1), (.ref p2)] 3)) t := by
      intro t k
      refine k13 t ?_
      show Steps p.tables e below (T12.setTop (mkF m 6 #[.val (.ref a), .val (.ref p1), .val (.ref p2)] [(.int r_12)])) _
      refine XS.ifYes X12.here hx rfl (pc0 := 6) (pc' := 31) rfl (hb hby own_d8_6) rfl ((if0 _ _).trans (teq hc6_14).1) (by decide) (by decide) ?_
      show Steps p.tables e below (T12.setTop (mkF m 31 #[.val (.ref a), .val (.ref p1), .val (.ref p2)] [])) _
      refine XS.iconst X12.here hx rfl (hb hby own_d8_31) ?_
      exact k
    obtain ⟨fs, hr, hrun, hended, hE⟩ := Stand.leaveW (s := s) X12 Si1 (by rw [e12]; exact Nat.le_trans (Nat.le_refl _) (hk1)) (v := (some (.int (0 : Int32)))) (fun h => by rw [Bd.returns] at h; cases h)
    refine ⟨_, _, k15 _ ?_, hrun, hended, _, _, rfl, ?_, ⟨_, rfl⟩, hE.2.1, hE.2.2.1, hE.2.2.2.mono (by decide) (by decide)⟩
    · exact retN X12 hx (t := .boolean) Bd.returns (by simp) (hb hby own_d8_32) hr
    · show own_Qmb Z a p1 p2 ba_ bb_ na fa nb fb cs h0 n0 _ T12.heap _
      rw [e12]
      exact ⟨(0 : Int32), rfl, N12, K1, (own_mb10 hq12_hr hc6_14)⟩
  · have k16 : ∀ t, Steps p.tables e below (T12.setTop (mkF m 10 #[.val (.ref a), .val (.ref p1), .val (.ref p2)] [(.ref p2)])) t → Steps p.tables e below (s₁.setTop (entryFrame m #[(.ref a), (.ref p1), (.ref p2)] 3)) t := by
      intro t k
      refine k13 t ?_
      show Steps p.tables e below (T12.setTop (mkF m 6 #[.val (.ref a), .val (.ref p1), .val (.ref p2)] [(.int r_12)])) _
      refine XS.ifNo X12.here hx rfl (hb hby own_d8_6) rfl ((if0 _ _).trans (feq hc6_14).1) ?_
      show Steps p.tables e below (T12.setTop (mkF m 9 #[.val (.ref a), .val (.ref p1), .val (.ref p2)] [])) _
      refine XS.aloadN X12.here hx rfl (hb hby own_d8_9) rfl rfl ?_
      exact k
    obtain ⟨lt17, T17, h17, lb17, k117, X17, e17, E17, Si17, hk17, Zw17, Ow17, Ea17, Fc17, Fv17, Gb17, Cl17, Li17, st17⟩ := own_ldcL (s := s) (vm0 := T1.vm) (text := "address") (vs := own_tx1) (n := 7) (z := 7) X12 hx hZ hown hw (hw _ (List.mem_of_getElem? (i := 51) rfl)) (List.mem_of_getElem? (i := 1) rfl) e12 Si1 (Nat.le_trans (Nat.le_refl _) (hk1)) Cl1.1 (by decide +kernel) (by first | rfl | decide +kernel) rfl rfl (g := (mkF m 10 #[.val (.ref a), .val (.ref p1), .val (.ref p2)] [(.ref p2)])) rfl (hb hby own_d8_10) (cap := 28) (by decide +kernel) (by decide) (by decide) (by decide)
    have hZ : Z.Warmed39 (s.setVm T17.vm).vm := Zw17
    have hown : (s.setVm T17.vm).vm.findClass "com/example/domicile/domicile/tei/TeiVocabulary" = some m.cls := Ow17
    have f18 := f2.ext E17
    have f19 := f3.ext E17
    have f20 := f4.ext E17
    have f21 := f5.ext E17
    have f22 := f6.ext E17
    have f23 := f7.ext E17
    have f24 := f8.ext E17
    have f25 := f9.ext E17
    have f26 := Ea1.ext E17
    have f27 := Fc1.ext E17
    have f28 := Fv1.ext E17
    have f29 := Gb1.ext E17
    have Z17 : n0 ≤ h17.size := Nat.le_trans Z1 E17.1
    have K17 : Keep h0 h17 [] := K1.ext E17
    have Xo17 := Xo1.ext E17
    have k30 : ∀ t, Steps p.tables e below (T17.setTop (mkF m 12 #[.val (.ref a), .val (.ref p1), .val (.ref p2)] [(.ref lt17), (.ref p2)])) t → Steps p.tables e below (s₁.setTop (entryFrame m #[(.ref a), (.ref p1), (.ref p2)] 3)) t := fun t k => k16 t (st17 t k)
    obtain ⟨cq31, kq31, q31a, q31b, q31c⟩ := isOf hZ e17 f22
    obtain ⟨_, _, ⟨T31, L31, k31c, n31⟩, -, X31, ⟨Lc31, hQ31, l31, y31, z31⟩, st31⟩ := X17.virtualBack hx (y := (⟨"java/lang/String", "equals", "(Ljava/lang/Object;)Z"⟩ : MethodName)) (z := (⟨"java/lang/String", "equals", "(Ljava/lang/Object;)Z"⟩ : MethodName)) hown (mvT hZ (hw _ (List.mem_of_getElem? (i := 46) rfl))) (mvT hZ (hw _ (List.mem_of_getElem? (i := 47) rfl))) (notFace_of_selects (args := #[]) (mvT hZ (hw _ (List.mem_of_getElem? (i := 49) rfl)))) (mvT hZ (hw _ (List.mem_of_getElem? (i := 49) rfl))) (mvT hZ (hw _ (List.mem_of_getElem? (i := 48) rfl))) (by decide) (backOf (W := 0) (own_rmeq l Z a0 hw [] p2 lt17 bb_ lb17 nb fb 7 (own_of own_tx1) cs h17 n0 Z17 f22 f23 f24 f25 Ea17 Fv17 Fc17 Gb17 Xo17 SC hcs (by omega) (by omega)) hZ (hw _ (List.mem_of_getElem? (i := 50) rfl)) (hw _ (List.mem_of_getElem? (i := 1) rfl)) (by decide) (by decide)) q31a q31c (g := (mkF m 12 #[.val (.ref a), .val (.ref p1), .val (.ref p2)] [(.ref lt17), (.ref p2)])) rfl (by rw [hml]; rfl) (Steps.refl _) (argsL := [(.ref lt17)]) (rest := []) (lenOf own_pd5 rfl) rfl (by show 2 * 0 + _ ≤ _; exact Nat.le_of_eq rfl) (hb hby own_d8_12) (fun _ _ => ⟨rfl, e17, (by decide : 4 + 0 ≤ _), (by decide : 144 + 0 ≤ _)⟩)
    dsimp only [Pt.U, Pt.locs, Pt.cells, Pt.slots] at X31 l31 y31 z31 st31 hQ31
    subst l31 y31 z31
    obtain ⟨r_31, rfl, N31q, e31, hq31_hr⟩ := hQ31
    have N31 := Fr.app N12 N31q
    have k32 : ∀ t, Steps p.tables e below (T31.setTop (mkF m 15 #[.val (.ref a), .val (.ref p1), .val (.ref p2)] [(.int r_31)])) t → Steps p.tables e below (s₁.setTop (entryFrame m #[(.ref a), (.ref p1), (.ref p2)] 3)) t := fun t k => k30 t (st31.trans k)
    by_cases hc15_33 : r_31 = (0 : Int32)
    · have k34 : ∀ t, Steps p.tables e below (T31.setTop (mkF m 19 #[.val (.ref a), .val (.ref p1), .val (.ref p2)] [(.ref p2)])) t → Steps p.tables e below (s₁.setTop (entryFrame m #[(.ref a), (.ref p1), (.ref p2)] 3)) t := by
        intro t k
        refine k32 t ?_
        show Steps p.tables e below (T31.setTop (mkF m 15 #[.val (.ref a), .val (.ref p1), .val (.ref p2)] [(.int r_31)])) _
        refine XS.ifNo X31.here hx rfl (hb hby own_d8_15) rfl ((if0 _ _).trans (teq hc15_33).2) ?_
        show Steps p.tables e below (T31.setTop (mkF m 18 #[.val (.ref a), .val (.ref p1), .val (.ref p2)] [])) _
        refine XS.aloadN X31.here hx rfl (hb hby own_d8_18) rfl rfl ?_
        exact k
      obtain ⟨lt35, T35, h35, lb35, k135, X35, e35, E35, Si35, hk35, Zw35, Ow35, Ea35, Fc35, Fv35, Gb35, Cl35, Li35, st35⟩ := own_ldcL (s := s) (vm0 := T17.vm) (text := "residence") (vs := own_tx2) (n := 9) (z := 9) X31 hx hZ hown hw (hw _ (List.mem_of_getElem? (i := 57) rfl)) (List.mem_of_getElem? (i := 2) rfl) e31 Si17 (Nat.le_trans (Nat.le_refl _) (hk17)) Cl17.1 (by decide +kernel) (by first | rfl | decide +kernel) rfl rfl (g := (mkF m 19 #[.val (.ref a), .val (.ref p1), .val (.ref p2)] [(.ref p2)])) rfl (hb hby own_d8_19) (cap := 36) (by decide +kernel) (by decide) (by decide) (by decide)
      have hZ : Z.Warmed39 (s.setVm T35.vm).vm := Zw35
      have hown : (s.setVm T35.vm).vm.findClass "com/example/domicile/domicile/tei/TeiVocabulary" = some m.cls := Ow35
      have f36 := f18.ext E35
      have f37 := f19.ext E35
      have f38 := f20.ext E35
      have f39 := f21.ext E35
      have f40 := f22.ext E35
      have f41 := f23.ext E35
      have f42 := f24.ext E35
      have f43 := f25.ext E35
      have f44 := f26.ext E35
      have f45 := f27.ext E35
      have f46 := f28.ext E35
      have f47 := f29.ext E35
      have f48 := Ea17.ext E35
      have f49 := Fc17.ext E35
      have f50 := Fv17.ext E35
      have f51 := Gb17.ext E35
      have Z35 : n0 ≤ h35.size := Nat.le_trans Z17 E35.1
      have K35 : Keep h0 h35 [] := K17.ext E35
      have Xo35 := Xo17.ext E35
      have k52 : ∀ t, Steps p.tables e below (T35.setTop (mkF m 21 #[.val (.ref a), .val (.ref p1), .val (.ref p2)] [(.ref lt35), (.ref p2)])) t → Steps p.tables e below (s₁.setTop (entryFrame m #[(.ref a), (.ref p1), (.ref p2)] 3)) t := fun t k => k34 t (st35 t k)
      obtain ⟨cq53, kq53, q53a, q53b, q53c⟩ := isOf hZ e35 f40
      obtain ⟨_, _, ⟨T53, L53, k53c, n53⟩, -, X53, ⟨Lc53, hQ53, l53, y53, z53⟩, st53⟩ := X35.virtualBack hx (y := (⟨"java/lang/String", "equals", "(Ljava/lang/Object;)Z"⟩ : MethodName)) (z := (⟨"java/lang/String", "equals", "(Ljava/lang/Object;)Z"⟩ : MethodName)) hown (mvT hZ (hw _ (List.mem_of_getElem? (i := 46) rfl))) (mvT hZ (hw _ (List.mem_of_getElem? (i := 47) rfl))) (notFace_of_selects (args := #[]) (mvT hZ (hw _ (List.mem_of_getElem? (i := 49) rfl)))) (mvT hZ (hw _ (List.mem_of_getElem? (i := 49) rfl))) (mvT hZ (hw _ (List.mem_of_getElem? (i := 48) rfl))) (by decide) (backOf (W := 0) (own_rmeq l Z a0 hw [] p2 lt35 bb_ lb35 nb fb 9 (own_of own_tx2) cs h35 n0 Z35 f40 f41 f42 f43 Ea35 Fv35 Fc35 Gb35 Xo35 SC hcs (by omega) (by omega)) hZ (hw _ (List.mem_of_getElem? (i := 50) rfl)) (hw _ (List.mem_of_getElem? (i := 1) rfl)) (by decide) (by decide)) q53a q53c (g := (mkF m 21 #[.val (.ref a), .val (.ref p1), .val (.ref p2)] [(.ref lt35), (.ref p2)])) rfl (by rw [hml]; rfl) (Steps.refl _) (argsL := [(.ref lt35)]) (rest := []) (lenOf own_pd5 rfl) rfl (by show 2 * 0 + _ ≤ _; exact Nat.le_of_eq rfl) (hb hby own_d8_21) (fun _ _ => ⟨rfl, e35, (by decide : 6 + 0 ≤ _), (by decide : 184 + 0 ≤ _)⟩)
      dsimp only [Pt.U, Pt.locs, Pt.cells, Pt.slots] at X53 l53 y53 z53 st53 hQ53
      subst l53 y53 z53
      obtain ⟨r_53, rfl, N53q, e53, hq53_hr⟩ := hQ53
      have N53 := Fr.app N31 N53q
      have k54 : ∀ t, Steps p.tables e below (T53.setTop (mkF m 24 #[.val (.ref a), .val (.ref p1), .val (.ref p2)] [(.int r_53)])) t → Steps p.tables e below (s₁.setTop (entryFrame m #[(.ref a), (.ref p1), (.ref p2)] 3)) t := fun t k => k52 t (st53.trans k)
      by_cases hc24_55 : r_53 = (0 : Int32)
      · have k56 : ∀ t, Steps p.tables e below (T53.setTop (mkF m 32 #[.val (.ref a), .val (.ref p1), .val (.ref p2)] [(.int (0 : Int32))])) t → Steps p.tables e below (s₁.setTop (entryFrame m #[(.ref a), (.ref p1), (.ref p2)] 3)) t := by
          intro t k
          refine k54 t ?_
          show Steps p.tables e below (T53.setTop (mkF m 24 #[.val (.ref a), .val (.ref p1), .val (.ref p2)] [(.int r_53)])) _
          refine XS.ifYes X53.here hx rfl (pc0 := 24) (pc' := 31) rfl (hb hby own_d8_24) rfl ((if0 _ _).trans (teq hc24_55).1) (by decide) (by decide) ?_
          show Steps p.tables e below (T53.setTop (mkF m 31 #[.val (.ref a), .val (.ref p1), .val (.ref p2)] [])) _
          refine XS.iconst X53.here hx rfl (hb hby own_d8_31) ?_
          exact k
        obtain ⟨fs, hr, hrun, hended, hE⟩ := Stand.leaveW (s := s) X53 Si35 (by rw [e53]; exact Nat.le_trans (Nat.le_refl _) (hk35)) (v := (some (.int (0 : Int32)))) (fun h => by rw [Bd.returns] at h; cases h)
        refine ⟨_, _, k56 _ ?_, hrun, hended, _, _, rfl, ?_, ⟨_, rfl⟩, hE.2.1, hE.2.2.1, hE.2.2.2.mono (by decide) (by decide)⟩
        · exact retN X53 hx (t := .boolean) Bd.returns (by simp) (hb hby own_d8_32) hr
        · show own_Qmb Z a p1 p2 ba_ bb_ na fa nb fb cs h0 n0 _ T53.heap _
          rw [e53]
          exact ⟨(0 : Int32), rfl, N53, K35, (own_mb30 hq12_hr hc6_14 hq31_hr hc15_33 hq53_hr hc24_55)⟩
      · have k57 : ∀ t, Steps p.tables e below (T53.setTop (mkF m 32 #[.val (.ref a), .val (.ref p1), .val (.ref p2)] [(.int (1 : Int32))])) t → Steps p.tables e below (s₁.setTop (entryFrame m #[(.ref a), (.ref p1), (.ref p2)] 3)) t := by
          intro t k
          refine k54 t ?_
          show Steps p.tables e below (T53.setTop (mkF m 24 #[.val (.ref a), .val (.ref p1), .val (.ref p2)] [(.int r_53)])) _
          refine XS.ifNo X53.here hx rfl (hb hby own_d8_24) rfl ((if0 _ _).trans (feq hc24_55).1) ?_
          show Steps p.tables e below (T53.setTop (mkF m 27 #[.val (.ref a), .val (.ref p1), .val (.ref p2)] [])) _
          refine XS.iconst X53.here hx rfl (hb hby own_d8_27) ?_
          show Steps p.tables e below (T53.setTop (mkF m 28 #[.val (.ref a), .val (.ref p1), .val (.ref p2)] [(.int (1 : Int32))])) _
          refine XS.goto X53.here hx rfl (pc0 := 28) (pc' := 32) rfl (hb hby own_d8_28) (by decide) (by decide) ?_
          exact k
        obtain ⟨fs, hr, hrun, hended, hE⟩ := Stand.leaveW (s := s) X53 Si35 (by rw [e53]; exact Nat.le_trans (Nat.le_refl _) (hk35)) (v := (some (.int (1 : Int32)))) (fun h => by rw [Bd.returns] at h; cases h)
        refine ⟨_, _, k57 _ ?_, hrun, hended, _, _, rfl, ?_, ⟨_, rfl⟩, hE.2.1, hE.2.2.1, hE.2.2.2.mono (by decide) (by decide)⟩
        · exact retN X53 hx (t := .boolean) Bd.returns (by simp) (hb hby own_d8_32) hr
        · show own_Qmb Z a p1 p2 ba_ bb_ na fa nb fb cs h0 n0 _ T53.heap _
          rw [e53]
          exact ⟨(1 : Int32), rfl, N53, K35, (own_mb31 hq12_hr hc6_14 hq31_hr hc15_33 hq53_hr hc24_55)⟩
    · have k58 : ∀ t, Steps p.tables e below (T31.setTop (mkF m 32 #[.val (.ref a), .val (.ref p1), .val (.ref p2)] [(.int (1 : Int32))])) t → Steps p.tables e below (s₁.setTop (entryFrame m #[(.ref a), (.ref p1), (.ref p2)] 3)) t := by
        intro t k
        refine k32 t ?_
        show Steps p.tables e below (T31.setTop (mkF m 15 #[.val (.ref a), .val (.ref p1), .val (.ref p2)] [(.int r_31)])) _
        refine XS.ifYes X31.here hx rfl (pc0 := 15) (pc' := 27) rfl (hb hby own_d8_15) rfl ((if0 _ _).trans (feq hc15_33).2) (by decide) (by decide) ?_
        show Steps p.tables e below (T31.setTop (mkF m 27 #[.val (.ref a), .val (.ref p1), .val (.ref p2)] [])) _
        refine XS.iconst X31.here hx rfl (hb hby own_d8_27) ?_
        show Steps p.tables e below (T31.setTop (mkF m 28 #[.val (.ref a), .val (.ref p1), .val (.ref p2)] [(.int (1 : Int32))])) _
        refine XS.goto X31.here hx rfl (pc0 := 28) (pc' := 32) rfl (hb hby own_d8_28) (by decide) (by decide) ?_
        exact k
      obtain ⟨fs, hr, hrun, hended, hE⟩ := Stand.leaveW (s := s) X31 Si17 (by rw [e31]; exact Nat.le_trans (Nat.le_refl _) (hk17)) (v := (some (.int (1 : Int32)))) (fun h => by rw [Bd.returns] at h; cases h)
      refine ⟨_, _, k58 _ ?_, hrun, hended, _, _, rfl, ?_, ⟨_, rfl⟩, hE.2.1, hE.2.2.1, hE.2.2.2.mono (by decide) (by decide)⟩
      · exact retN X31 hx (t := .boolean) Bd.returns (by simp) (hb hby own_d8_32) hr
      · show own_Qmb Z a p1 p2 ba_ bb_ na fa nb fb cs h0 n0 _ T31.heap _
        rw [e31]
        exact ⟨(1 : Int32), rfl, N31, K17, (own_mb21 hq12_hr hc6_14 hq31_hr hc15_33)⟩
theorem own_d11_0 : decode method_2_code 0 = .ok (.iload_n 1, 1) := by decide +kernel
theorem own_d11_1 : decode method_2_code 1 = .ok (.sipush 255, 3) := by decide +kernel
theorem own_d11_4 : decode method_2_code 4 = .ok (.iand, 1) := by decide +kernel
theorem own_d11_5 : decode method_2_code 5 = .ok (.i2c, 1) := by decide +kernel
theorem own_d11_6 : decode method_2_code 6 = .ok (.istore_n 2, 1) := by decide +kernel
theorem own_d11_7 : decode method_2_code 7 = .ok (.iload_n 1, 1) := by decide +kernel
theorem own_d11_8 : decode method_2_code 8 = .ok (.bipush 8, 2) := by decide +kernel
theorem own_d11_10 : decode method_2_code 10 = .ok (.iushr, 1) := by decide +kernel
theorem own_d11_11 : decode method_2_code 11 = .ok (.sipush 255, 3) := by decide +kernel
theorem own_d11_14 : decode method_2_code 14 = .ok (.iand, 1) := by decide +kernel
theorem own_d11_15 : decode method_2_code 15 = .ok (.i2c, 1) := by decide +kernel
theorem own_d11_16 : decode method_2_code 16 = .ok (.istore_n 3, 1) := by decide +kernel
theorem own_d11_17 : decode method_2_code 17 = .ok (.iload_n 1, 1) := by decide +kernel
theorem own_d11_18 : decode method_2_code 18 = .ok (.bipush 16, 2) := by decide +kernel
theorem own_d11_20 : decode method_2_code 20 = .ok (.iushr, 1) := by decide +kernel
theorem own_d11_21 : decode method_2_code 21 = .ok (.sipush 255, 3) := by decide +kernel
theorem own_d11_24 : decode method_2_code 24 = .ok (.iand, 1) := by decide +kernel
theorem own_d11_25 : decode method_2_code 25 = .ok (.i2c, 1) := by decide +kernel
theorem own_d11_26 : decode method_2_code 26 = .ok (.istore 4, 2) := by decide +kernel
theorem own_d11_28 : decode method_2_code 28 = .ok (.iload_n 0, 1) := by decide +kernel
theorem own_d11_29 : decode method_2_code 29 = .ok (.ifCond .ne 14, 3) := by decide +kernel
theorem own_d11_32 : decode method_2_code 32 = .ok (.new 7, 3) := by decide +kernel
theorem own_d11_35 : decode method_2_code 35 = .ok (.dup, 1) := by decide +kernel
theorem own_d11_36 : decode method_2_code 36 = .ok (.iconst 0, 1) := by decide +kernel
theorem own_d11_37 : decode method_2_code 37 = .ok (.newarray .char, 2) := by decide +kernel
theorem own_d11_39 : decode method_2_code 39 = .ok (.invokespecial 9, 3) := by decide +kernel
theorem own_d11_42 : decode method_2_code 42 = .ok (.areturn, 1) := by decide +kernel
theorem own_d11_43 : decode method_2_code 43 = .ok (.iload_n 0, 1) := by decide +kernel
theorem own_d11_44 : decode method_2_code 44 = .ok (.iconst 1, 1) := by decide +kernel
theorem own_d11_45 : decode method_2_code 45 = .ok (.if_icmp .ne 18, 3) := by decide +kernel
theorem own_d11_48 : decode method_2_code 48 = .ok (.new 7, 3) := by decide +kernel
theorem own_d11_51 : decode method_2_code 51 = .ok (.dup, 1) := by decide +kernel
theorem own_d11_52 : decode method_2_code 52 = .ok (.iconst 1, 1) := by decide +kernel
theorem own_d11_53 : decode method_2_code 53 = .ok (.newarray .char, 2) := by decide +kernel
theorem own_d11_55 : decode method_2_code 55 = .ok (.dup, 1) := by decide +kernel
theorem own_d11_56 : decode method_2_code 56 = .ok (.iconst 0, 1) := by decide +kernel
theorem own_d11_57 : decode method_2_code 57 = .ok (.iload_n 2, 1) := by decide +kernel
theorem own_d11_58 : decode method_2_code 58 = .ok (.castore, 1) := by decide +kernel
theorem own_d11_59 : decode method_2_code 59 = .ok (.invokespecial 9, 3) := by decide +kernel
theorem own_d11_62 : decode method_2_code 62 = .ok (.areturn, 1) := by decide +kernel
theorem own_d11_63 : decode method_2_code 63 = .ok (.iload_n 0, 1) := by decide +kernel
theorem own_d11_64 : decode method_2_code 64 = .ok (.iconst 2, 1) := by decide +kernel
theorem own_d11_65 : decode method_2_code 65 = .ok (.if_icmp .ne 22, 3) := by decide +kernel
theorem own_d11_68 : decode method_2_code 68 = .ok (.new 7, 3) := by decide +kernel
theorem own_d11_71 : decode method_2_code 71 = .ok (.dup, 1) := by decide +kernel
theorem own_d11_72 : decode method_2_code 72 = .ok (.iconst 2, 1) := by decide +kernel
theorem own_d11_73 : decode method_2_code 73 = .ok (.newarray .char, 2) := by decide +kernel
theorem own_d11_75 : decode method_2_code 75 = .ok (.dup, 1) := by decide +kernel
theorem own_d11_76 : decode method_2_code 76 = .ok (.iconst 0, 1) := by decide +kernel
theorem own_d11_77 : decode method_2_code 77 = .ok (.iload_n 2, 1) := by decide +kernel
theorem own_d11_78 : decode method_2_code 78 = .ok (.castore, 1) := by decide +kernel
theorem own_d11_79 : decode method_2_code 79 = .ok (.dup, 1) := by decide +kernel
theorem own_d11_80 : decode method_2_code 80 = .ok (.iconst 1, 1) := by decide +kernel
theorem own_d11_81 : decode method_2_code 81 = .ok (.iload_n 3, 1) := by decide +kernel
theorem own_d11_82 : decode method_2_code 82 = .ok (.castore, 1) := by decide +kernel
theorem own_d11_83 : decode method_2_code 83 = .ok (.invokespecial 9, 3) := by decide +kernel
theorem own_d11_86 : decode method_2_code 86 = .ok (.areturn, 1) := by decide +kernel
theorem own_d11_87 : decode method_2_code 87 = .ok (.new 7, 3) := by decide +kernel
theorem own_d11_90 : decode method_2_code 90 = .ok (.dup, 1) := by decide +kernel
theorem own_d11_91 : decode method_2_code 91 = .ok (.iconst 3, 1) := by decide +kernel
theorem own_d11_92 : decode method_2_code 92 = .ok (.newarray .char, 2) := by decide +kernel
theorem own_d11_94 : decode method_2_code 94 = .ok (.dup, 1) := by decide +kernel
theorem own_d11_95 : decode method_2_code 95 = .ok (.iconst 0, 1) := by decide +kernel
theorem own_d11_96 : decode method_2_code 96 = .ok (.iload_n 2, 1) := by decide +kernel
theorem own_d11_97 : decode method_2_code 97 = .ok (.castore, 1) := by decide +kernel
theorem own_d11_98 : decode method_2_code 98 = .ok (.dup, 1) := by decide +kernel
theorem own_d11_99 : decode method_2_code 99 = .ok (.iconst 1, 1) := by decide +kernel
theorem own_d11_100 : decode method_2_code 100 = .ok (.iload_n 3, 1) := by decide +kernel
theorem own_d11_101 : decode method_2_code 101 = .ok (.castore, 1) := by decide +kernel
theorem own_d11_102 : decode method_2_code 102 = .ok (.dup, 1) := by decide +kernel
theorem own_d11_103 : decode method_2_code 103 = .ok (.iconst 2, 1) := by decide +kernel
theorem own_d11_104 : decode method_2_code 104 = .ok (.iload 4, 2) := by decide +kernel
theorem own_d11_106 : decode method_2_code 106 = .ok (.castore, 1) := by decide +kernel
theorem own_d11_107 : decode method_2_code 107 = .ok (.invokespecial 9, 3) := by decide +kernel
theorem own_d11_110 : decode method_2_code 110 = .ok (.areturn, 1) := by decide +kernel
theorem own_pd6 : parseMethodDescriptor "([C)V" = some ⟨[(.array .char)], none⟩ := by decide +kernel
theorem own_pn4 : plainName "com/example/domicile/domicile/tei/TeiVocabularyMayBeRecordPinLaw" = true := by first | (simp [plainName, overriddenIn]; done) | decide +kernel
theorem own_efdr (m : MethodId) (x0 : Int32) (x1 : Int32) : entryFrame m #[(.int x0), (.int x1)] 5 = mkF m 0 #[.val (.int x0), .val (.int x1), .unset, .unset, .unset] [] := by first | (simp [entryFrame, mkF, argsToLocals, Value.category]; done) | rfl
def own_Qdr (Z : State) (p1 : Int32) (p2 : Int32) (cs : Int32) (h0 : Heap) (n0 : Nat) (v : Option Value) (h : Heap) (L : List Loc) : Prop := ∃ (s_ : Addr) (b : Addr) (n_ : Nat) (f_ : Nat → Int32), v = some (.ref s_) ∧ Fr n0 L ∧ Keep h0 h [] ∧ h0.size ≤ s_ ∧ Exa Z h s_ "java/lang/String" ∧ Fld Z h s_ "java/lang/String" "value" "[B" (.ref b) ∧ Fld Z h s_ "java/lang/String" "coder" "B" (.int (0 : Int32)) ∧ own_G Z h b .byte n_ f_ ∧ (n_ ≤ 3)
def own_Rdr : Room := { frames := 4, cells := 4, slots := 35, locals := 66 }
set_option maxRecDepth 65536 in
set_option maxHeartbeats 40000000 in
theorem own_rmdr (l : Launch) (Z : State) (a0 : Array Value) (hw : ∀ d ∈ tables_1, d.before a0 Z = true) (ws : List Jvm.Cond) (p1 : Int32) (p2 : Int32) (cs : Int32) (h0 : Heap) (n0 : Nat) (Z0 : n0 ≤ h0.size) (Xo : Old Z n0 h0) (SC : Sta Z Z.heap "java/lang/String" "COMPACT_STRINGS" "Z" (.int cs)) (hcs : ¬ (cs = (0 : Int32))) :
    MetFree l (⟨"com/example/domicile/domicile/tei/TeiVocabularyMayBeRecordPinLaw", "drawn", "(II)Ljava/lang/String;"⟩ : MethodName) (head1 (Jvm.Cond.code (⟨"com/example/domicile/domicile/tei/TeiVocabularyMayBeRecordPinLaw", "drawn", "(II)Ljava/lang/String;"⟩ : MethodName) method_2_code 5 (some (.object "java/lang/String")) :: ws) own_Rdr) (fun aa U => aa = #[(.int p1), (.int p2)] ∧ Z.Warmed39 U.vm ∧ U.heap = h0 ∧ CHv Z own_EL U.vm h0) (fun _ _ _ _ _ => True) (fun _ U o U' => ∃ v L, o = .returned v ∧ own_Qdr Z p1 p2 cs h0 n0 v U'.heap L ∧ CHr Z own_EL U.vm U.heap U'.vm U'.heap ∧ ReturnedEndW U o U' L own_Rdr.cells own_Rdr.slots) := by
  refine MetFree.of_bodySF (plainFor_of_name own_pn4) hisR ?_
  intro p e s m args below meth c s₁ Bd hml0 hP hK
  obtain ⟨rfl, hZ, hh, hH0⟩ := hP
  have hx := Bd.exec
  have hby := Bd.bytes
  have hml : c.maxLocals = 5 := hml0
  have hown : s.vm.findClass "com/example/domicile/domicile/tei/TeiVocabularyMayBeRecordPinLaw" = some m.cls := findClass_of_methodNamed Bd.named
  have hnm := (name_of_methodNamed Bd.named Bd.method).1
  have X0 : Stand p l e own_Rdr s m #[(.int p1), (.int p2)] below meth c s₁ [] 0 0 := Stand.of_body Bd
  have e0 : s₁.heap = h0 := by rw [← hh, Bd.state]; rfl
  have N0 := Fr.nil n0
  have pre0 : ∀ t, Steps p.tables e below (s₁.setTop (mkF m 0 #[.val (.int p1), .val (.int p2), .unset, .unset, .unset] [])) t → Steps p.tables e below (s₁.setTop (entryFrame m #[(.int p1), (.int p2)] 5)) t := fun t k => castTop (own_efdr m p1 p2) k
  have k1 : ∀ t, Steps p.tables e below (s₁.setTop (mkF m 29 #[.val (.int p1), .val (.int p2), .val (.int ((p2 &&& (255 : Int32)).toUInt32.toUInt16.toUInt32.toInt32)), .val (.int ((((p2.toUInt32 >>> ((8 : Int32) &&& 31).toUInt32).toInt32) &&& (255 : Int32)).toUInt32.toUInt16.toUInt32.toInt32)), .val (.int ((((p2.toUInt32 >>> ((16 : Int32) &&& 31).toUInt32).toInt32) &&& (255 : Int32)).toUInt32.toUInt16.toUInt32.toInt32))] [(.int p1)])) t → Steps p.tables e below (s₁.setTop (entryFrame m #[(.int p1), (.int p2)] 5)) t := by
    intro t k
    refine pre0 t ?_
    show Steps p.tables e below (s₁.setTop (mkF m 0 #[.val (.int p1), .val (.int p2), .unset, .unset, .unset] [])) _
    refine XS.iloadN X0.here hx rfl (hb hby own_d11_0) rfl ?_
    show Steps p.tables e below (s₁.setTop (mkF m 1 #[.val (.int p1), .val (.int p2), .unset, .unset, .unset] [(.int p2)])) _
    refine XS.sipush X0.here hx rfl (hb hby own_d11_1) ?_
    show Steps p.tables e below (s₁.setTop (mkF m 4 #[.val (.int p1), .val (.int p2), .unset, .unset, .unset] [(.int (255 : Int32)), (.int p2)])) _
    refine XS.iand X0.here hx rfl (hb hby own_d11_4) rfl ?_
    show Steps p.tables e below (s₁.setTop (mkF m 5 #[.val (.int p1), .val (.int p2), .unset, .unset, .unset] [(.int (p2 &&& (255 : Int32)))])) _
    refine XS.i2c X0.here hx rfl (hb hby own_d11_5) rfl ?_
    show Steps p.tables e below (s₁.setTop (mkF m 6 #[.val (.int p1), .val (.int p2), .unset, .unset, .unset] [(.int ((p2 &&& (255 : Int32)).toUInt32.toUInt16.toUInt32.toInt32))])) _
    refine XS.istoreN X0.here hx rfl (hb hby own_d11_6) rfl (l' := #[.val (.int p1), .val (.int p2), .val (.int ((p2 &&& (255 : Int32)).toUInt32.toUInt16.toUInt32.toInt32)), .unset, .unset]) rfl ?_
    show Steps p.tables e below (s₁.setTop (mkF m 7 #[.val (.int p1), .val (.int p2), .val (.int ((p2 &&& (255 : Int32)).toUInt32.toUInt16.toUInt32.toInt32)), .unset, .unset] [])) _
    refine XS.iloadN X0.here hx rfl (hb hby own_d11_7) rfl ?_
    show Steps p.tables e below (s₁.setTop (mkF m 8 #[.val (.int p1), .val (.int p2), .val (.int ((p2 &&& (255 : Int32)).toUInt32.toUInt16.toUInt32.toInt32)), .unset, .unset] [(.int p2)])) _
    refine XS.bipush X0.here hx rfl (hb hby own_d11_8) ?_
    show Steps p.tables e below (s₁.setTop (mkF m 10 #[.val (.int p1), .val (.int p2), .val (.int ((p2 &&& (255 : Int32)).toUInt32.toUInt16.toUInt32.toInt32)), .unset, .unset] [(.int (8 : Int32)), (.int p2)])) _
    refine XS.iushr X0.here hx rfl (hb hby own_d11_10) rfl ?_
    show Steps p.tables e below (s₁.setTop (mkF m 11 #[.val (.int p1), .val (.int p2), .val (.int ((p2 &&& (255 : Int32)).toUInt32.toUInt16.toUInt32.toInt32)), .unset, .unset] [(.int ((p2.toUInt32 >>> ((8 : Int32) &&& 31).toUInt32).toInt32))])) _
    refine XS.sipush X0.here hx rfl (hb hby own_d11_11) ?_
    show Steps p.tables e below (s₁.setTop (mkF m 14 #[.val (.int p1), .val (.int p2), .val (.int ((p2 &&& (255 : Int32)).toUInt32.toUInt16.toUInt32.toInt32)), .unset, .unset] [(.int (255 : Int32)), (.int ((p2.toUInt32 >>> ((8 : Int32) &&& 31).toUInt32).toInt32))])) _
    refine XS.iand X0.here hx rfl (hb hby own_d11_14) rfl ?_
    show Steps p.tables e below (s₁.setTop (mkF m 15 #[.val (.int p1), .val (.int p2), .val (.int ((p2 &&& (255 : Int32)).toUInt32.toUInt16.toUInt32.toInt32)), .unset, .unset] [(.int (((p2.toUInt32 >>> ((8 : Int32) &&& 31).toUInt32).toInt32) &&& (255 : Int32)))])) _
    refine XS.i2c X0.here hx rfl (hb hby own_d11_15) rfl ?_
    show Steps p.tables e below (s₁.setTop (mkF m 16 #[.val (.int p1), .val (.int p2), .val (.int ((p2 &&& (255 : Int32)).toUInt32.toUInt16.toUInt32.toInt32)), .unset, .unset] [(.int ((((p2.toUInt32 >>> ((8 : Int32) &&& 31).toUInt32).toInt32) &&& (255 : Int32)).toUInt32.toUInt16.toUInt32.toInt32))])) _
    refine XS.istoreN X0.here hx rfl (hb hby own_d11_16) rfl (l' := #[.val (.int p1), .val (.int p2), .val (.int ((p2 &&& (255 : Int32)).toUInt32.toUInt16.toUInt32.toInt32)), .val (.int ((((p2.toUInt32 >>> ((8 : Int32) &&& 31).toUInt32).toInt32) &&& (255 : Int32)).toUInt32.toUInt16.toUInt32.toInt32)), .unset]) rfl ?_
    show Steps p.tables e below (s₁.setTop (mkF m 17 #[.val (.int p1), .val (.int p2), .val (.int ((p2 &&& (255 : Int32)).toUInt32.toUInt16.toUInt32.toInt32)), .val (.int ((((p2.toUInt32 >>> ((8 : Int32) &&& 31).toUInt32).toInt32) &&& (255 : Int32)).toUInt32.toUInt16.toUInt32.toInt32)), .unset] [])) _
    refine XS.iloadN X0.here hx rfl (hb hby own_d11_17) rfl ?_
    show Steps p.tables e below (s₁.setTop (mkF m 18 #[.val (.int p1), .val (.int p2), .val (.int ((p2 &&& (255 : Int32)).toUInt32.toUInt16.toUInt32.toInt32)), .val (.int ((((p2.toUInt32 >>> ((8 : Int32) &&& 31).toUInt32).toInt32) &&& (255 : Int32)).toUInt32.toUInt16.toUInt32.toInt32)), .unset] [(.int p2)])) _
    refine XS.bipush X0.here hx rfl (hb hby own_d11_18) ?_
    show Steps p.tables e below (s₁.setTop (mkF m 20 #[.val (.int p1), .val (.int p2), .val (.int ((p2 &&& (255 : Int32)).toUInt32.toUInt16.toUInt32.toInt32)), .val (.int ((((p2.toUInt32 >>> ((8 : Int32) &&& 31).toUInt32).toInt32) &&& (255 : Int32)).toUInt32.toUInt16.toUInt32.toInt32)), .unset] [(.int (16 : Int32)), (.int p2)])) _
    refine XS.iushr X0.here hx rfl (hb hby own_d11_20) rfl ?_
    show Steps p.tables e below (s₁.setTop (mkF m 21 #[.val (.int p1), .val (.int p2), .val (.int ((p2 &&& (255 : Int32)).toUInt32.toUInt16.toUInt32.toInt32)), .val (.int ((((p2.toUInt32 >>> ((8 : Int32) &&& 31).toUInt32).toInt32) &&& (255 : Int32)).toUInt32.toUInt16.toUInt32.toInt32)), .unset] [(.int ((p2.toUInt32 >>> ((16 : Int32) &&& 31).toUInt32).toInt32))])) _
    refine XS.sipush X0.here hx rfl (hb hby own_d11_21) ?_
    show Steps p.tables e below (s₁.setTop (mkF m 24 #[.val (.int p1), .val (.int p2), .val (.int ((p2 &&& (255 : Int32)).toUInt32.toUInt16.toUInt32.toInt32)), .val (.int ((((p2.toUInt32 >>> ((8 : Int32) &&& 31).toUInt32).toInt32) &&& (255 : Int32)).toUInt32.toUInt16.toUInt32.toInt32)), .unset] [(.int (255 : Int32)), (.int ((p2.toUInt32 >>> ((16 : Int32) &&& 31).toUInt32).toInt32))])) _
    refine XS.iand X0.here hx rfl (hb hby own_d11_24) rfl ?_
    show Steps p.tables e below (s₁.setTop (mkF m 25 #[.val (.int p1), .val (.int p2), .val (.int ((p2 &&& (255 : Int32)).toUInt32.toUInt16.toUInt32.toInt32)), .val (.int ((((p2.toUInt32 >>> ((8 : Int32) &&& 31).toUInt32).toInt32) &&& (255 : Int32)).toUInt32.toUInt16.toUInt32.toInt32)), .unset] [(.int (((p2.toUInt32 >>> ((16 : Int32) &&& 31).toUInt32).toInt32) &&& (255 : Int32)))])) _
    refine XS.i2c X0.here hx rfl (hb hby own_d11_25) rfl ?_
    show Steps p.tables e below (s₁.setTop (mkF m 26 #[.val (.int p1), .val (.int p2), .val (.int ((p2 &&& (255 : Int32)).toUInt32.toUInt16.toUInt32.toInt32)), .val (.int ((((p2.toUInt32 >>> ((8 : Int32) &&& 31).toUInt32).toInt32) &&& (255 : Int32)).toUInt32.toUInt16.toUInt32.toInt32)), .unset] [(.int ((((p2.toUInt32 >>> ((16 : Int32) &&& 31).toUInt32).toInt32) &&& (255 : Int32)).toUInt32.toUInt16.toUInt32.toInt32))])) _
    refine XS.istore X0.here hx rfl (hb hby own_d11_26) rfl (l' := #[.val (.int p1), .val (.int p2), .val (.int ((p2 &&& (255 : Int32)).toUInt32.toUInt16.toUInt32.toInt32)), .val (.int ((((p2.toUInt32 >>> ((8 : Int32) &&& 31).toUInt32).toInt32) &&& (255 : Int32)).toUInt32.toUInt16.toUInt32.toInt32)), .val (.int ((((p2.toUInt32 >>> ((16 : Int32) &&& 31).toUInt32).toInt32) &&& (255 : Int32)).toUInt32.toUInt16.toUInt32.toInt32))]) rfl ?_
    show Steps p.tables e below (s₁.setTop (mkF m 28 #[.val (.int p1), .val (.int p2), .val (.int ((p2 &&& (255 : Int32)).toUInt32.toUInt16.toUInt32.toInt32)), .val (.int ((((p2.toUInt32 >>> ((8 : Int32) &&& 31).toUInt32).toInt32) &&& (255 : Int32)).toUInt32.toUInt16.toUInt32.toInt32)), .val (.int ((((p2.toUInt32 >>> ((16 : Int32) &&& 31).toUInt32).toInt32) &&& (255 : Int32)).toUInt32.toUInt16.toUInt32.toInt32))] [])) _
    refine XS.iloadN X0.here hx rfl (hb hby own_d11_28) rfl ?_
    exact k
  by_cases hc29_2 : p1 = (0 : Int32)
  · have k3 : ∀ t, Steps p.tables e below (s₁.setTop (mkF m 32 #[.val (.int p1), .val (.int p2), .val (.int ((p2 &&& (255 : Int32)).toUInt32.toUInt16.toUInt32.toInt32)), .val (.int ((((p2.toUInt32 >>> ((8 : Int32) &&& 31).toUInt32).toInt32) &&& (255 : Int32)).toUInt32.toUInt16.toUInt32.toInt32)), .val (.int ((((p2.toUInt32 >>> ((16 : Int32) &&& 31).toUInt32).toInt32) &&& (255 : Int32)).toUInt32.toUInt16.toUInt32.toInt32))] [])) t → Steps p.tables e below (s₁.setTop (entryFrame m #[(.int p1), (.int p2)] 5)) t := by
      intro t k
      refine k1 t ?_
      show Steps p.tables e below (s₁.setTop (mkF m 29 #[.val (.int p1), .val (.int p2), .val (.int ((p2 &&& (255 : Int32)).toUInt32.toUInt16.toUInt32.toInt32)), .val (.int ((((p2.toUInt32 >>> ((8 : Int32) &&& 31).toUInt32).toInt32) &&& (255 : Int32)).toUInt32.toUInt16.toUInt32.toInt32)), .val (.int ((((p2.toUInt32 >>> ((16 : Int32) &&& 31).toUInt32).toInt32) &&& (255 : Int32)).toUInt32.toUInt16.toUInt32.toInt32))] [(.int p1)])) _
      refine XS.ifNo X0.here hx rfl (hb hby own_d11_29) rfl ((if0 _ _).trans (teq hc29_2).2) ?_
      exact k
    obtain ⟨T4, h4, X4, e4, E4, A4, D4, -, st4⟩ := newO X0 hx hZ hown (hw _ (List.mem_of_getElem? (i := 9) rfl)) (hw _ (List.mem_of_getElem? (i := 2) rfl)) (hw _ (List.mem_of_getElem? (i := 1) rfl)) e0 (g := (mkF m 32 #[.val (.int p1), .val (.int p2), .val (.int ((p2 &&& (255 : Int32)).toUInt32.toUInt16.toUInt32.toInt32)), .val (.int ((((p2.toUInt32 >>> ((8 : Int32) &&& 31).toUInt32).toInt32) &&& (255 : Int32)).toUInt32.toUInt16.toUInt32.toInt32)), .val (.int ((((p2.toUInt32 >>> ((16 : Int32) &&& 31).toUInt32).toInt32) &&& (255 : Int32)).toUInt32.toUInt16.toUInt32.toInt32))] [])) rfl (hb hby own_d11_32) (by decide) (by decide)
    obtain ⟨b4, g4⟩ : ∃ z, z = h0.size := ⟨_, rfl⟩
    rw [← g4] at A4 D4 st4
    have ge4 : n0 ≤ b4 := Nat.le_trans Z0 (Nat.le_of_eq g4.symm)
    have bo4 : h0.size ≤ b4 := Nat.le_trans (Keep.refl h0 []).1 (Nat.le_of_eq g4.symm)
    have Z4 : n0 ≤ h4.size := Nat.le_trans Z0 E4.1
    have K4 : Keep h0 h4 [] := (Keep.refl h0 []).ext E4
    have Xo4 := Xo.ext E4
    have f5 : Fld Z h4 b4 "java/lang/String" "value" "[B" .null := D4 (Or.inr (hw _ (List.mem_of_getElem? (i := 4) rfl))) (ty := (.array .byte)) (by decide)
    have f6 : Fld Z h4 b4 "java/lang/String" "coder" "B" (.int (0 : Int32)) := D4 (Or.inr (hw _ (List.mem_of_getElem? (i := 5) rfl))) (ty := .byte) (by decide)
    have k7 : ∀ t, Steps p.tables e below (T4.setTop (mkF m 35 #[.val (.int p1), .val (.int p2), .val (.int ((p2 &&& (255 : Int32)).toUInt32.toUInt16.toUInt32.toInt32)), .val (.int ((((p2.toUInt32 >>> ((8 : Int32) &&& 31).toUInt32).toInt32) &&& (255 : Int32)).toUInt32.toUInt16.toUInt32.toInt32)), .val (.int ((((p2.toUInt32 >>> ((16 : Int32) &&& 31).toUInt32).toInt32) &&& (255 : Int32)).toUInt32.toUInt16.toUInt32.toInt32))] [(.ref b4)])) t → Steps p.tables e below (s₁.setTop (entryFrame m #[(.int p1), (.int p2)] 5)) t := fun t k => k3 t (st4 t k)
    have k8 : ∀ t, Steps p.tables e below (T4.setTop (mkF m 37 #[.val (.int p1), .val (.int p2), .val (.int ((p2 &&& (255 : Int32)).toUInt32.toUInt16.toUInt32.toInt32)), .val (.int ((((p2.toUInt32 >>> ((8 : Int32) &&& 31).toUInt32).toInt32) &&& (255 : Int32)).toUInt32.toUInt16.toUInt32.toInt32)), .val (.int ((((p2.toUInt32 >>> ((16 : Int32) &&& 31).toUInt32).toInt32) &&& (255 : Int32)).toUInt32.toUInt16.toUInt32.toInt32))] [(.int (0 : Int32)), (.ref b4), (.ref b4)])) t → Steps p.tables e below (s₁.setTop (entryFrame m #[(.int p1), (.int p2)] 5)) t := by
      intro t k
      refine k7 t ?_
      show Steps p.tables e below (T4.setTop (mkF m 35 #[.val (.int p1), .val (.int p2), .val (.int ((p2 &&& (255 : Int32)).toUInt32.toUInt16.toUInt32.toInt32)), .val (.int ((((p2.toUInt32 >>> ((8 : Int32) &&& 31).toUInt32).toInt32) &&& (255 : Int32)).toUInt32.toUInt16.toUInt32.toInt32)), .val (.int ((((p2.toUInt32 >>> ((16 : Int32) &&& 31).toUInt32).toInt32) &&& (255 : Int32)).toUInt32.toUInt16.toUInt32.toInt32))] [(.ref b4)])) _
      refine XS.dup X4.here hx rfl (hb hby own_d11_35) rfl rfl ?_
      show Steps p.tables e below (T4.setTop (mkF m 36 #[.val (.int p1), .val (.int p2), .val (.int ((p2 &&& (255 : Int32)).toUInt32.toUInt16.toUInt32.toInt32)), .val (.int ((((p2.toUInt32 >>> ((8 : Int32) &&& 31).toUInt32).toInt32) &&& (255 : Int32)).toUInt32.toUInt16.toUInt32.toInt32)), .val (.int ((((p2.toUInt32 >>> ((16 : Int32) &&& 31).toUInt32).toInt32) &&& (255 : Int32)).toUInt32.toUInt16.toUInt32.toInt32))] [(.ref b4), (.ref b4)])) _
      refine XS.iconst X4.here hx rfl (hb hby own_d11_36) ?_
      exact k
    obtain ⟨T9, h9, c9, X9, e9, E9, A9, st9⟩ := newP X4 hx hZ (hw _ (List.mem_of_getElem? (i := 8) rfl)) e4 (g := (mkF m 37 #[.val (.int p1), .val (.int p2), .val (.int ((p2 &&& (255 : Int32)).toUInt32.toUInt16.toUInt32.toInt32)), .val (.int ((((p2.toUInt32 >>> ((8 : Int32) &&& 31).toUInt32).toInt32) &&& (255 : Int32)).toUInt32.toUInt16.toUInt32.toInt32)), .val (.int ((((p2.toUInt32 >>> ((16 : Int32) &&& 31).toUInt32).toInt32) &&& (255 : Int32)).toUInt32.toUInt16.toUInt32.toInt32))] [(.int (0 : Int32)), (.ref b4), (.ref b4)])) rfl (hb hby own_d11_37) rfl (by decide) (cap := 0) (by decide) (by decide) (by decide) (by decide)
    obtain ⟨b9, g9⟩ : ∃ z, z = h4.size := ⟨_, rfl⟩
    rw [← g9] at A9 st9
    have ge9 : n0 ≤ b9 := Nat.le_trans Z4 (Nat.le_of_eq g9.symm)
    have bo9 : h0.size ≤ b9 := Nat.le_trans K4.1 (Nat.le_of_eq g9.symm)
    have ne10 : b4 ≠ b9 := Nat.ne_of_lt (Nat.lt_of_lt_of_le A4.lt (Nat.le_of_eq g9.symm))
    have Z9 : n0 ≤ h9.size := Nat.le_trans Z4 E9.1
    have K9 : Keep h0 h9 [] := K4.ext E9
    have Xo9 := Xo4.ext E9
    have f11 := A4.ext E9
    have f12 := f5.ext E9
    have f13 := f6.ext E9
    have V9 : Arv Z h9 b9 c9 .char (0 : Int32) [] (.int (0 : Int32)) := (Arv.new A9 (by decide)).pad (pad_rep [] (.int (0 : Int32)) 0)
    have k14 : ∀ t, Steps p.tables e below (T9.setTop (mkF m 39 #[.val (.int p1), .val (.int p2), .val (.int ((p2 &&& (255 : Int32)).toUInt32.toUInt16.toUInt32.toInt32)), .val (.int ((((p2.toUInt32 >>> ((8 : Int32) &&& 31).toUInt32).toInt32) &&& (255 : Int32)).toUInt32.toUInt16.toUInt32.toInt32)), .val (.int ((((p2.toUInt32 >>> ((16 : Int32) &&& 31).toUInt32).toInt32) &&& (255 : Int32)).toUInt32.toUInt16.toUInt32.toInt32))] [(.ref b9), (.ref b4), (.ref b4)])) t → Steps p.tables e below (s₁.setTop (entryFrame m #[(.int p1), (.int p2)] 5)) t := fun t k => k8 t (st9 t k)
    have GA15 : own_G Z h9 b9 .char 0 (own_of []) := own_G.ofV (vs := []) (n := 0) V9 rfl
    have hal : ∀ i, i < 0 → ¬ ((255 : Int32) < own_of [] (0 + i)) := own_halL (vs := []) (fun v hv => by simp only [List.mem_cons, List.not_mem_nil, or_false] at hv)
    obtain ⟨_, T16, L16, X16, Si16, Zw16, Ow16, Cl16, hQ16, st16⟩ := own_callIH (s := s) (vm0 := s.vm) (W := 1) X9 hx hw hZ hown (own_since s 0) (Nat.zero_le _) (hH0.keep K9 (fun x hx => nomatch hx)) (hw _ (List.mem_of_getElem? (i := 10) rfl)) (hw _ (List.mem_of_getElem? (i := 11) rfl)) (hw _ (List.mem_of_getElem? (i := 1) rfl)) (hw _ (List.mem_of_getElem? (i := 12) rfl)) rfl (by decide) (own_rms1w l Z a0 hw [] b4 b9 (.int (0 : Int32)) (own_of []) h9 n0 Z9 f11 f12 f13 GA15 ge4 (Ne.symm ne10)) (by decide) (by decide) e9 (g := (mkF m 39 #[.val (.int p1), .val (.int p2), .val (.int ((p2 &&& (255 : Int32)).toUInt32.toUInt16.toUInt32.toInt32)), .val (.int ((((p2.toUInt32 >>> ((8 : Int32) &&& 31).toUInt32).toInt32) &&& (255 : Int32)).toUInt32.toUInt16.toUInt32.toInt32)), .val (.int ((((p2.toUInt32 >>> ((16 : Int32) &&& 31).toUInt32).toInt32) &&& (255 : Int32)).toUInt32.toUInt16.toUInt32.toInt32))] [(.ref b9), (.ref b4), (.ref b4)])) rfl (by rw [hml]; rfl) own_pd6 (a := b4) (argsL := [(.ref b9)]) (rest := [(.ref b4)]) rfl rfl rfl (by show 2 * 0 + _ ≤ _; exact Nat.le_of_eq rfl) (hb hby own_d11_39) (by decide) (by decide)
    have hZ : Z.Warmed39 (s.setVm T16.vm).vm := Zw16
    have hown : (s.setVm T16.vm).vm.findClass "com/example/domicile/domicile/tei/TeiVocabularyMayBeRecordPinLaw" = some m.cls := Ow16
    obtain ⟨b_16, rfl, N16q, Kq16, fq16_0, fq16_1, fq16_2⟩ := hQ16
    have N16 := Fr.app N0 N16q
    have f17 := f11.keep Kq16
    have f18 := GA15.keep Kq16 (List.not_mem_cons_of_ne_of_not_mem (Ne.symm ne10) List.not_mem_nil)
    have Z16 : n0 ≤ T16.heap.size := Nat.le_trans Z9 Kq16.1
    have K16 : Keep h0 T16.heap [] := K9.trans Kq16 (fun x hx => by rcases List.mem_cons.mp hx with rfl | hx; exact Or.inr bo4; exact nomatch hx)
    have Xo16 := Xo9.keep Kq16 (allS ge4 all0)
    have Cr16 := ((CHr.keep K9 (fun x hx => nomatch hx) hH0)).trans Cl16
    have k19 : ∀ t, Steps p.tables e below (T16.setTop (mkF m 42 #[.val (.int p1), .val (.int p2), .val (.int ((p2 &&& (255 : Int32)).toUInt32.toUInt16.toUInt32.toInt32)), .val (.int ((((p2.toUInt32 >>> ((8 : Int32) &&& 31).toUInt32).toInt32) &&& (255 : Int32)).toUInt32.toUInt16.toUInt32.toInt32)), .val (.int ((((p2.toUInt32 >>> ((16 : Int32) &&& 31).toUInt32).toInt32) &&& (255 : Int32)).toUInt32.toUInt16.toUInt32.toInt32))] [(.ref b4)])) t → Steps p.tables e below (s₁.setTop (entryFrame m #[(.int p1), (.int p2)] 5)) t := fun t k => k14 t (st16 t k)
    obtain ⟨fs, hr, hrun, hended, hE⟩ := Stand.leaveW (s := s) X16 Si16 (Nat.le_refl _) (v := (some (.ref b4))) (fun h => by rw [Bd.returns] at h; cases h)
    have Ce := own_chrE (s := s) (vm1 := T16.vm) X16 hw hZ Cr16
    refine ⟨_, _, k19 _ ?_, hrun, hended, _, _, rfl, ?_, (own_chrG hh rfl Ce), ⟨_, rfl⟩, hE.2.1, hE.2.2.1, hE.2.2.2.mono (by decide) (by decide)⟩
    · exact retOut X16 hx Bd.returns rfl (Or.inr (Or.inr (Or.inr (Or.inr ⟨rfl, rfl, rfl⟩)))) (hb hby own_d11_42) hr
    · show own_Qdr Z p1 p2 cs h0 n0 _ T16.heap _
      exact ⟨b4, b_16, 0, own_zero, rfl, N16, K16, bo4, f17, fq16_0, fq16_1, fq16_2, (by omega)⟩
  · have k20 : ∀ t, Steps p.tables e below (s₁.setTop (mkF m 45 #[.val (.int p1), .val (.int p2), .val (.int ((p2 &&& (255 : Int32)).toUInt32.toUInt16.toUInt32.toInt32)), .val (.int ((((p2.toUInt32 >>> ((8 : Int32) &&& 31).toUInt32).toInt32) &&& (255 : Int32)).toUInt32.toUInt16.toUInt32.toInt32)), .val (.int ((((p2.toUInt32 >>> ((16 : Int32) &&& 31).toUInt32).toInt32) &&& (255 : Int32)).toUInt32.toUInt16.toUInt32.toInt32))] [(.int (1 : Int32)), (.int p1)])) t → Steps p.tables e below (s₁.setTop (entryFrame m #[(.int p1), (.int p2)] 5)) t := by
      intro t k
      refine k1 t ?_
      show Steps p.tables e below (s₁.setTop (mkF m 29 #[.val (.int p1), .val (.int p2), .val (.int ((p2 &&& (255 : Int32)).toUInt32.toUInt16.toUInt32.toInt32)), .val (.int ((((p2.toUInt32 >>> ((8 : Int32) &&& 31).toUInt32).toInt32) &&& (255 : Int32)).toUInt32.toUInt16.toUInt32.toInt32)), .val (.int ((((p2.toUInt32 >>> ((16 : Int32) &&& 31).toUInt32).toInt32) &&& (255 : Int32)).toUInt32.toUInt16.toUInt32.toInt32))] [(.int p1)])) _
      refine XS.ifYes X0.here hx rfl (pc0 := 29) (pc' := 43) rfl (hb hby own_d11_29) rfl ((if0 _ _).trans (feq hc29_2).2) (by decide) (by decide) ?_
      show Steps p.tables e below (s₁.setTop (mkF m 43 #[.val (.int p1), .val (.int p2), .val (.int ((p2 &&& (255 : Int32)).toUInt32.toUInt16.toUInt32.toInt32)), .val (.int ((((p2.toUInt32 >>> ((8 : Int32) &&& 31).toUInt32).toInt32) &&& (255 : Int32)).toUInt32.toUInt16.toUInt32.toInt32)), .val (.int ((((p2.toUInt32 >>> ((16 : Int32) &&& 31).toUInt32).toInt32) &&& (255 : Int32)).toUInt32.toUInt16.toUInt32.toInt32))] [])) _
      refine XS.iloadN X0.here hx rfl (hb hby own_d11_43) rfl ?_
      show Steps p.tables e below (s₁.setTop (mkF m 44 #[.val (.int p1), .val (.int p2), .val (.int ((p2 &&& (255 : Int32)).toUInt32.toUInt16.toUInt32.toInt32)), .val (.int ((((p2.toUInt32 >>> ((8 : Int32) &&& 31).toUInt32).toInt32) &&& (255 : Int32)).toUInt32.toUInt16.toUInt32.toInt32)), .val (.int ((((p2.toUInt32 >>> ((16 : Int32) &&& 31).toUInt32).toInt32) &&& (255 : Int32)).toUInt32.toUInt16.toUInt32.toInt32))] [(.int p1)])) _
      refine XS.iconst X0.here hx rfl (hb hby own_d11_44) ?_
      exact k
    by_cases hc45_21 : p1 = (1 : Int32)
    · have k22 : ∀ t, Steps p.tables e below (s₁.setTop (mkF m 48 #[.val (.int p1), .val (.int p2), .val (.int ((p2 &&& (255 : Int32)).toUInt32.toUInt16.toUInt32.toInt32)), .val (.int ((((p2.toUInt32 >>> ((8 : Int32) &&& 31).toUInt32).toInt32) &&& (255 : Int32)).toUInt32.toUInt16.toUInt32.toInt32)), .val (.int ((((p2.toUInt32 >>> ((16 : Int32) &&& 31).toUInt32).toInt32) &&& (255 : Int32)).toUInt32.toUInt16.toUInt32.toInt32))] [])) t → Steps p.tables e below (s₁.setTop (entryFrame m #[(.int p1), (.int p2)] 5)) t := by
        intro t k
        refine k20 t ?_
        show Steps p.tables e below (s₁.setTop (mkF m 45 #[.val (.int p1), .val (.int p2), .val (.int ((p2 &&& (255 : Int32)).toUInt32.toUInt16.toUInt32.toInt32)), .val (.int ((((p2.toUInt32 >>> ((8 : Int32) &&& 31).toUInt32).toInt32) &&& (255 : Int32)).toUInt32.toUInt16.toUInt32.toInt32)), .val (.int ((((p2.toUInt32 >>> ((16 : Int32) &&& 31).toUInt32).toInt32) &&& (255 : Int32)).toUInt32.toUInt16.toUInt32.toInt32))] [(.int (1 : Int32)), (.int p1)])) _
        refine XS.icmpNo X0.here hx rfl (hb hby own_d11_45) rfl (teq hc45_21).2 ?_
        exact k
      obtain ⟨T23, h23, X23, e23, E23, A23, D23, -, st23⟩ := newO X0 hx hZ hown (hw _ (List.mem_of_getElem? (i := 9) rfl)) (hw _ (List.mem_of_getElem? (i := 2) rfl)) (hw _ (List.mem_of_getElem? (i := 1) rfl)) e0 (g := (mkF m 48 #[.val (.int p1), .val (.int p2), .val (.int ((p2 &&& (255 : Int32)).toUInt32.toUInt16.toUInt32.toInt32)), .val (.int ((((p2.toUInt32 >>> ((8 : Int32) &&& 31).toUInt32).toInt32) &&& (255 : Int32)).toUInt32.toUInt16.toUInt32.toInt32)), .val (.int ((((p2.toUInt32 >>> ((16 : Int32) &&& 31).toUInt32).toInt32) &&& (255 : Int32)).toUInt32.toUInt16.toUInt32.toInt32))] [])) rfl (hb hby own_d11_48) (by decide) (by decide)
      obtain ⟨b23, g23⟩ : ∃ z, z = h0.size := ⟨_, rfl⟩
      rw [← g23] at A23 D23 st23
      have ge23 : n0 ≤ b23 := Nat.le_trans Z0 (Nat.le_of_eq g23.symm)
      have bo23 : h0.size ≤ b23 := Nat.le_trans (Keep.refl h0 []).1 (Nat.le_of_eq g23.symm)
      have Z23 : n0 ≤ h23.size := Nat.le_trans Z0 E23.1
      have K23 : Keep h0 h23 [] := (Keep.refl h0 []).ext E23
      have Xo23 := Xo.ext E23
      have f24 : Fld Z h23 b23 "java/lang/String" "value" "[B" .null := D23 (Or.inr (hw _ (List.mem_of_getElem? (i := 4) rfl))) (ty := (.array .byte)) (by decide)
      have f25 : Fld Z h23 b23 "java/lang/String" "coder" "B" (.int (0 : Int32)) := D23 (Or.inr (hw _ (List.mem_of_getElem? (i := 5) rfl))) (ty := .byte) (by decide)
      have k26 : ∀ t, Steps p.tables e below (T23.setTop (mkF m 51 #[.val (.int p1), .val (.int p2), .val (.int ((p2 &&& (255 : Int32)).toUInt32.toUInt16.toUInt32.toInt32)), .val (.int ((((p2.toUInt32 >>> ((8 : Int32) &&& 31).toUInt32).toInt32) &&& (255 : Int32)).toUInt32.toUInt16.toUInt32.toInt32)), .val (.int ((((p2.toUInt32 >>> ((16 : Int32) &&& 31).toUInt32).toInt32) &&& (255 : Int32)).toUInt32.toUInt16.toUInt32.toInt32))] [(.ref b23)])) t → Steps p.tables e below (s₁.setTop (entryFrame m #[(.int p1), (.int p2)] 5)) t := fun t k => k22 t (st23 t k)
      have k27 : ∀ t, Steps p.tables e below (T23.setTop (mkF m 53 #[.val (.int p1), .val (.int p2), .val (.int ((p2 &&& (255 : Int32)).toUInt32.toUInt16.toUInt32.toInt32)), .val (.int ((((p2.toUInt32 >>> ((8 : Int32) &&& 31).toUInt32).toInt32) &&& (255 : Int32)).toUInt32.toUInt16.toUInt32.toInt32)), .val (.int ((((p2.toUInt32 >>> ((16 : Int32) &&& 31).toUInt32).toInt32) &&& (255 : Int32)).toUInt32.toUInt16.toUInt32.toInt32))] [(.int (1 : Int32)), (.ref b23), (.ref b23)])) t → Steps p.tables e below (s₁.setTop (entryFrame m #[(.int p1), (.int p2)] 5)) t := by
        intro t k
        refine k26 t ?_
        show Steps p.tables e below (T23.setTop (mkF m 51 #[.val (.int p1), .val (.int p2), .val (.int ((p2 &&& (255 : Int32)).toUInt32.toUInt16.toUInt32.toInt32)), .val (.int ((((p2.toUInt32 >>> ((8 : Int32) &&& 31).toUInt32).toInt32) &&& (255 : Int32)).toUInt32.toUInt16.toUInt32.toInt32)), .val (.int ((((p2.toUInt32 >>> ((16 : Int32) &&& 31).toUInt32).toInt32) &&& (255 : Int32)).toUInt32.toUInt16.toUInt32.toInt32))] [(.ref b23)])) _
        refine XS.dup X23.here hx rfl (hb hby own_d11_51) rfl rfl ?_
        show Steps p.tables e below (T23.setTop (mkF m 52 #[.val (.int p1), .val (.int p2), .val (.int ((p2 &&& (255 : Int32)).toUInt32.toUInt16.toUInt32.toInt32)), .val (.int ((((p2.toUInt32 >>> ((8 : Int32) &&& 31).toUInt32).toInt32) &&& (255 : Int32)).toUInt32.toUInt16.toUInt32.toInt32)), .val (.int ((((p2.toUInt32 >>> ((16 : Int32) &&& 31).toUInt32).toInt32) &&& (255 : Int32)).toUInt32.toUInt16.toUInt32.toInt32))] [(.ref b23), (.ref b23)])) _
        refine XS.iconst X23.here hx rfl (hb hby own_d11_52) ?_
        exact k
      obtain ⟨T28, h28, c28, X28, e28, E28, A28, st28⟩ := newP X23 hx hZ (hw _ (List.mem_of_getElem? (i := 8) rfl)) e23 (g := (mkF m 53 #[.val (.int p1), .val (.int p2), .val (.int ((p2 &&& (255 : Int32)).toUInt32.toUInt16.toUInt32.toInt32)), .val (.int ((((p2.toUInt32 >>> ((8 : Int32) &&& 31).toUInt32).toInt32) &&& (255 : Int32)).toUInt32.toUInt16.toUInt32.toInt32)), .val (.int ((((p2.toUInt32 >>> ((16 : Int32) &&& 31).toUInt32).toInt32) &&& (255 : Int32)).toUInt32.toUInt16.toUInt32.toInt32))] [(.int (1 : Int32)), (.ref b23), (.ref b23)])) rfl (hb hby own_d11_53) rfl (by decide) (cap := 1) (by decide) (by decide) (by decide) (by decide)
      obtain ⟨b28, g28⟩ : ∃ z, z = h23.size := ⟨_, rfl⟩
      rw [← g28] at A28 st28
      have ge28 : n0 ≤ b28 := Nat.le_trans Z23 (Nat.le_of_eq g28.symm)
      have bo28 : h0.size ≤ b28 := Nat.le_trans K23.1 (Nat.le_of_eq g28.symm)
      have ne29 : b23 ≠ b28 := Nat.ne_of_lt (Nat.lt_of_lt_of_le A23.lt (Nat.le_of_eq g28.symm))
      have Z28 : n0 ≤ h28.size := Nat.le_trans Z23 E28.1
      have K28 : Keep h0 h28 [] := K23.ext E28
      have Xo28 := Xo23.ext E28
      have f30 := A23.ext E28
      have f31 := f24.ext E28
      have f32 := f25.ext E28
      have V28 : Arv Z h28 b28 c28 .char (1 : Int32) [(.int (0 : Int32))] (.int (0 : Int32)) := (Arv.new A28 (by decide)).pad (pad_rep [] (.int (0 : Int32)) 1)
      have k33 : ∀ t, Steps p.tables e below (T28.setTop (mkF m 55 #[.val (.int p1), .val (.int p2), .val (.int ((p2 &&& (255 : Int32)).toUInt32.toUInt16.toUInt32.toInt32)), .val (.int ((((p2.toUInt32 >>> ((8 : Int32) &&& 31).toUInt32).toInt32) &&& (255 : Int32)).toUInt32.toUInt16.toUInt32.toInt32)), .val (.int ((((p2.toUInt32 >>> ((16 : Int32) &&& 31).toUInt32).toInt32) &&& (255 : Int32)).toUInt32.toUInt16.toUInt32.toInt32))] [(.ref b28), (.ref b23), (.ref b23)])) t → Steps p.tables e below (s₁.setTop (entryFrame m #[(.int p1), (.int p2)] 5)) t := fun t k => k27 t (st28 t k)
      have k34 : ∀ t, Steps p.tables e below (T28.setTop (mkF m 58 #[.val (.int p1), .val (.int p2), .val (.int ((p2 &&& (255 : Int32)).toUInt32.toUInt16.toUInt32.toInt32)), .val (.int ((((p2.toUInt32 >>> ((8 : Int32) &&& 31).toUInt32).toInt32) &&& (255 : Int32)).toUInt32.toUInt16.toUInt32.toInt32)), .val (.int ((((p2.toUInt32 >>> ((16 : Int32) &&& 31).toUInt32).toInt32) &&& (255 : Int32)).toUInt32.toUInt16.toUInt32.toInt32))] [(.int ((p2 &&& (255 : Int32)).toUInt32.toUInt16.toUInt32.toInt32)), (.int (0 : Int32)), (.ref b28), (.ref b28), (.ref b23), (.ref b23)])) t → Steps p.tables e below (s₁.setTop (entryFrame m #[(.int p1), (.int p2)] 5)) t := by
        intro t k
        refine k33 t ?_
        show Steps p.tables e below (T28.setTop (mkF m 55 #[.val (.int p1), .val (.int p2), .val (.int ((p2 &&& (255 : Int32)).toUInt32.toUInt16.toUInt32.toInt32)), .val (.int ((((p2.toUInt32 >>> ((8 : Int32) &&& 31).toUInt32).toInt32) &&& (255 : Int32)).toUInt32.toUInt16.toUInt32.toInt32)), .val (.int ((((p2.toUInt32 >>> ((16 : Int32) &&& 31).toUInt32).toInt32) &&& (255 : Int32)).toUInt32.toUInt16.toUInt32.toInt32))] [(.ref b28), (.ref b23), (.ref b23)])) _
        refine XS.dup X28.here hx rfl (hb hby own_d11_55) rfl rfl ?_
        show Steps p.tables e below (T28.setTop (mkF m 56 #[.val (.int p1), .val (.int p2), .val (.int ((p2 &&& (255 : Int32)).toUInt32.toUInt16.toUInt32.toInt32)), .val (.int ((((p2.toUInt32 >>> ((8 : Int32) &&& 31).toUInt32).toInt32) &&& (255 : Int32)).toUInt32.toUInt16.toUInt32.toInt32)), .val (.int ((((p2.toUInt32 >>> ((16 : Int32) &&& 31).toUInt32).toInt32) &&& (255 : Int32)).toUInt32.toUInt16.toUInt32.toInt32))] [(.ref b28), (.ref b28), (.ref b23), (.ref b23)])) _
        refine XS.iconst X28.here hx rfl (hb hby own_d11_56) ?_
        show Steps p.tables e below (T28.setTop (mkF m 57 #[.val (.int p1), .val (.int p2), .val (.int ((p2 &&& (255 : Int32)).toUInt32.toUInt16.toUInt32.toInt32)), .val (.int ((((p2.toUInt32 >>> ((8 : Int32) &&& 31).toUInt32).toInt32) &&& (255 : Int32)).toUInt32.toUInt16.toUInt32.toInt32)), .val (.int ((((p2.toUInt32 >>> ((16 : Int32) &&& 31).toUInt32).toInt32) &&& (255 : Int32)).toUInt32.toUInt16.toUInt32.toInt32))] [(.int (0 : Int32)), (.ref b28), (.ref b28), (.ref b23), (.ref b23)])) _
        refine XS.iloadN X28.here hx rfl (hb hby own_d11_57) rfl ?_
        exact k
      obtain ⟨cl35, Ar35, qa35, Sa35, Na35, Ha35, Ga35⟩ := id V28
      have hin36 : ¬ ((0 : Int32) < 0 ∨ cl35.slots.size ≤ ((0 : Int32)).toNatClampNeg) := inb_of Sa35 ⟨by decide, by decide⟩
      obtain ⟨T37, h37, X37, e37, W37, st37⟩ := stC X28 hx hZ e28 Ar35 (j := (0 : Int32)) hin36 (g := (mkF m 58 #[.val (.int p1), .val (.int p2), .val (.int ((p2 &&& (255 : Int32)).toUInt32.toUInt16.toUInt32.toInt32)), .val (.int ((((p2.toUInt32 >>> ((8 : Int32) &&& 31).toUInt32).toInt32) &&& (255 : Int32)).toUInt32.toUInt16.toUInt32.toInt32)), .val (.int ((((p2.toUInt32 >>> ((16 : Int32) &&& 31).toUInt32).toInt32) &&& (255 : Int32)).toUInt32.toUInt16.toUInt32.toInt32))] [(.int ((p2 &&& (255 : Int32)).toUInt32.toUInt16.toUInt32.toInt32)), (.int (0 : Int32)), (.ref b28), (.ref b28), (.ref b23), (.ref b23)])) rfl rfl (hb hby own_d11_58)
      have f38 := f30.wr W37
      have f39 := f31.other W37 (Or.inl ne29)
      have f40 := f32.other W37 (Or.inl ne29)
      have V37 : Arv Z h37 b28 c28 .char (1 : Int32) [(.int (nar .char ((p2 &&& (255 : Int32)).toUInt32.toUInt16.toUInt32.toInt32)))] (.int (0 : Int32)) := Arv.set Ar35 qa35 Sa35 Na35 Ha35 Ga35 (fits_nar_char _) W37 0 rfl (Nat.le_of_ble_eq_true rfl)
      have N37 := Fr.snoc X37 N0 ge28
      have K37 : Keep h0 h37 [] := K28.wr W37 (Or.inr bo28)
      have Z37 : n0 ≤ h37.size := Nat.le_trans Z28 (Keep.of_wr W37).1
      have Xo37 := Xo28.wr W37 ge28
      have k41 : ∀ t, Steps p.tables e below (T37.setTop (mkF m 59 #[.val (.int p1), .val (.int p2), .val (.int ((p2 &&& (255 : Int32)).toUInt32.toUInt16.toUInt32.toInt32)), .val (.int ((((p2.toUInt32 >>> ((8 : Int32) &&& 31).toUInt32).toInt32) &&& (255 : Int32)).toUInt32.toUInt16.toUInt32.toInt32)), .val (.int ((((p2.toUInt32 >>> ((16 : Int32) &&& 31).toUInt32).toInt32) &&& (255 : Int32)).toUInt32.toUInt16.toUInt32.toInt32))] [(.ref b28), (.ref b23), (.ref b23)])) t → Steps p.tables e below (s₁.setTop (entryFrame m #[(.int p1), (.int p2)] 5)) t := fun t k => k34 t (st37 t k)
      have GA42 : own_G Z h37 b28 .char 1 (own_of [(nar .char ((p2 &&& (255 : Int32)).toUInt32.toUInt16.toUInt32.toInt32))]) := own_G.ofV (vs := [(nar .char ((p2 &&& (255 : Int32)).toUInt32.toUInt16.toUInt32.toInt32))]) (n := 1) V37 rfl
      have hal : ∀ i, i < 1 → ¬ ((255 : Int32) < own_of [(nar .char ((p2 &&& (255 : Int32)).toUInt32.toUInt16.toUInt32.toInt32))] (0 + i)) := own_halL (vs := [(nar .char ((p2 &&& (255 : Int32)).toUInt32.toUInt16.toUInt32.toInt32))]) (fun v hv => by simp only [List.mem_cons, List.not_mem_nil, or_false] at hv; rcases hv with rfl <;> exact own_c255 _)
      obtain ⟨_, _, ⟨T43, L43, k43c, n43⟩, -, X43, ⟨Lc43, hQ43, l43, y43, z43⟩, st43⟩ := X37.specialBack hx (y := (⟨"java/lang/String", "<init>", "([C)V"⟩ : MethodName)) rfl hown (mvT hZ (hw _ (List.mem_of_getElem? (i := 10) rfl))) (mvT hZ (hw _ (List.mem_of_getElem? (i := 11) rfl))) (mvT hZ (hw _ (List.mem_of_getElem? (i := 12) rfl))) (by decide) (backOf (W := 1) (own_rms1 l Z a0 hw [] b23 b28 .null (.int (0 : Int32)) 1 (own_of [ (nar .char ((p2 &&& (255 : Int32)).toUInt32.toUInt16.toUInt32.toInt32)) ]) cs h37 n0 Z37 f38 f39 f40 GA42 ge23 (Ne.symm ne29) Xo37 SC hcs (by omega) (by omega) hal) hZ (hw _ (List.mem_of_getElem? (i := 12) rfl)) (hw _ (List.mem_of_getElem? (i := 1) rfl)) (by decide) (by decide)) (g := (mkF m 59 #[.val (.int p1), .val (.int p2), .val (.int ((p2 &&& (255 : Int32)).toUInt32.toUInt16.toUInt32.toInt32)), .val (.int ((((p2.toUInt32 >>> ((8 : Int32) &&& 31).toUInt32).toInt32) &&& (255 : Int32)).toUInt32.toUInt16.toUInt32.toInt32)), .val (.int ((((p2.toUInt32 >>> ((16 : Int32) &&& 31).toUInt32).toInt32) &&& (255 : Int32)).toUInt32.toUInt16.toUInt32.toInt32))] [(.ref b28), (.ref b23), (.ref b23)])) rfl (by rw [hml]; rfl) (Steps.refl _) (a := b23) (argsL := [(.ref b28)]) (rest := [(.ref b23)]) (lenOf own_pd6 rfl) rfl (by show 2 * 0 + _ ≤ _; exact Nat.le_of_eq rfl) (hb hby own_d11_59) (fun _ _ => ⟨rfl, e37, (by decide : 2 + 1 ≤ _), (by decide : 5 + 28 ≤ _)⟩)
      dsimp only [Pt.U, Pt.locs, Pt.cells, Pt.slots] at X43 l43 y43 z43 st43 hQ43
      subst l43 y43 z43
      obtain ⟨rb_43, rfl, N43q, Kq43, gz43_b, fq43_0, fq43_1, fq43_2⟩ := hQ43
      have N43 := Fr.app N37 N43q
      have ge43_b : n0 ≤ rb_43 := Nat.le_trans Z37 gz43_b
      have bo43_b : h0.size ≤ rb_43 := Nat.le_trans K37.1 gz43_b
      have ne44 : b23 ≠ rb_43 := Nat.ne_of_lt (Nat.lt_of_lt_of_le f38.lt gz43_b)
      have ne45 : b28 ≠ rb_43 := Nat.ne_of_lt (Nat.lt_of_lt_of_le GA42.lt gz43_b)
      have f46 := f38.keep Kq43
      have f47 := GA42.keep Kq43 (List.not_mem_cons_of_ne_of_not_mem (Ne.symm ne29) List.not_mem_nil)
      have Z43 : n0 ≤ T43.heap.size := Nat.le_trans Z37 Kq43.1
      have K43 : Keep h0 T43.heap [] := K37.trans Kq43 (fun x hx => by rcases List.mem_cons.mp hx with rfl | hx; exact Or.inr bo23; exact nomatch hx)
      have Xo43 := Xo37.keep Kq43 (allS ge23 all0)
      have k48 : ∀ t, Steps p.tables e below (T43.setTop (mkF m 62 #[.val (.int p1), .val (.int p2), .val (.int ((p2 &&& (255 : Int32)).toUInt32.toUInt16.toUInt32.toInt32)), .val (.int ((((p2.toUInt32 >>> ((8 : Int32) &&& 31).toUInt32).toInt32) &&& (255 : Int32)).toUInt32.toUInt16.toUInt32.toInt32)), .val (.int ((((p2.toUInt32 >>> ((16 : Int32) &&& 31).toUInt32).toInt32) &&& (255 : Int32)).toUInt32.toUInt16.toUInt32.toInt32))] [(.ref b23)])) t → Steps p.tables e below (s₁.setTop (entryFrame m #[(.int p1), (.int p2)] 5)) t := fun t k => k41 t (st43.trans k)
      obtain ⟨fs, hr, hrun, hended, hW, hsame⟩ := X43.leave (v := (some (.ref b23))) (fun h => by rw [Bd.returns] at h; cases h)
      have Ce := own_chrN (s := s) X43 hw hZ K43 hH0
      refine ⟨_, _, k48 _ ?_, hrun, hended, _, _, rfl, ?_, (own_chrG hh rfl Ce), ⟨_, rfl⟩, hW.wide, hW.no_new_pair _, hsame.mono (by decide) (by decide)⟩
      · exact retOut X43 hx Bd.returns rfl (Or.inr (Or.inr (Or.inr (Or.inr ⟨rfl, rfl, rfl⟩)))) (hb hby own_d11_62) hr
      · show own_Qdr Z p1 p2 cs h0 n0 _ T43.heap _
        exact ⟨b23, rb_43, 1, (own_b8 (own_of [ (nar .char ((p2 &&& (255 : Int32)).toUInt32.toUInt16.toUInt32.toInt32)) ]) 0), rfl, N43, K43, bo23, f46, fq43_0, fq43_1, fq43_2, (by omega)⟩
    · have k49 : ∀ t, Steps p.tables e below (s₁.setTop (mkF m 65 #[.val (.int p1), .val (.int p2), .val (.int ((p2 &&& (255 : Int32)).toUInt32.toUInt16.toUInt32.toInt32)), .val (.int ((((p2.toUInt32 >>> ((8 : Int32) &&& 31).toUInt32).toInt32) &&& (255 : Int32)).toUInt32.toUInt16.toUInt32.toInt32)), .val (.int ((((p2.toUInt32 >>> ((16 : Int32) &&& 31).toUInt32).toInt32) &&& (255 : Int32)).toUInt32.toUInt16.toUInt32.toInt32))] [(.int (2 : Int32)), (.int p1)])) t → Steps p.tables e below (s₁.setTop (entryFrame m #[(.int p1), (.int p2)] 5)) t := by
        intro t k
        refine k20 t ?_
        show Steps p.tables e below (s₁.setTop (mkF m 45 #[.val (.int p1), .val (.int p2), .val (.int ((p2 &&& (255 : Int32)).toUInt32.toUInt16.toUInt32.toInt32)), .val (.int ((((p2.toUInt32 >>> ((8 : Int32) &&& 31).toUInt32).toInt32) &&& (255 : Int32)).toUInt32.toUInt16.toUInt32.toInt32)), .val (.int ((((p2.toUInt32 >>> ((16 : Int32) &&& 31).toUInt32).toInt32) &&& (255 : Int32)).toUInt32.toUInt16.toUInt32.toInt32))] [(.int (1 : Int32)), (.int p1)])) _
        refine XS.icmpYes X0.here hx rfl (pc0 := 45) (pc' := 63) rfl (hb hby own_d11_45) rfl (feq hc45_21).2 (by decide) (by decide) ?_
        show Steps p.tables e below (s₁.setTop (mkF m 63 #[.val (.int p1), .val (.int p2), .val (.int ((p2 &&& (255 : Int32)).toUInt32.toUInt16.toUInt32.toInt32)), .val (.int ((((p2.toUInt32 >>> ((8 : Int32) &&& 31).toUInt32).toInt32) &&& (255 : Int32)).toUInt32.toUInt16.toUInt32.toInt32)), .val (.int ((((p2.toUInt32 >>> ((16 : Int32) &&& 31).toUInt32).toInt32) &&& (255 : Int32)).toUInt32.toUInt16.toUInt32.toInt32))] [])) _
        refine XS.iloadN X0.here hx rfl (hb hby own_d11_63) rfl ?_
        show Steps p.tables e below (s₁.setTop (mkF m 64 #[.val (.int p1), .val (.int p2), .val (.int ((p2 &&& (255 : Int32)).toUInt32.toUInt16.toUInt32.toInt32)), .val (.int ((((p2.toUInt32 >>> ((8 : Int32) &&& 31).toUInt32).toInt32) &&& (255 : Int32)).toUInt32.toUInt16.toUInt32.toInt32)), .val (.int ((((p2.toUInt32 >>> ((16 : Int32) &&& 31).toUInt32).toInt32) &&& (255 : Int32)).toUInt32.toUInt16.toUInt32.toInt32))] [(.int p1)])) _
        refine XS.iconst X0.here hx rfl (hb hby own_d11_64) ?_
        exact k
      by_cases hc65_50 : p1 = (2 : Int32)
      · have k51 : ∀ t, Steps p.tables e below (s₁.setTop (mkF m 68 #[.val (.int p1), .val (.int p2), .val (.int ((p2 &&& (255 : Int32)).toUInt32.toUInt16.toUInt32.toInt32)), .val (.int ((((p2.toUInt32 >>> ((8 : Int32) &&& 31).toUInt32).toInt32) &&& (255 : Int32)).toUInt32.toUInt16.toUInt32.toInt32)), .val (.int ((((p2.toUInt32 >>> ((16 : Int32) &&& 31).toUInt32).toInt32) &&& (255 : Int32)).toUInt32.toUInt16.toUInt32.toInt32))] [])) t → Steps p.tables e below (s₁.setTop (entryFrame m #[(.int p1), (.int p2)] 5)) t := by
          intro t k
          refine k49 t ?_
          show Steps p.tables e below (s₁.setTop (mkF m 65 #[.val (.int p1), .val (.int p2), .val (.int ((p2 &&& (255 : Int32)).toUInt32.toUInt16.toUInt32.toInt32)), .val (.int ((((p2.toUInt32 >>> ((8 : Int32) &&& 31).toUInt32).toInt32) &&& (255 : Int32)).toUInt32.toUInt16.toUInt32.toInt32)), .val (.int ((((p2.toUInt32 >>> ((16 : Int32) &&& 31).toUInt32).toInt32) &&& (255 : Int32)).toUInt32.toUInt16.toUInt32.toInt32))] [(.int (2 : Int32)), (.int p1)])) _
          refine XS.icmpNo X0.here hx rfl (hb hby own_d11_65) rfl (teq hc65_50).2 ?_
          exact k
        obtain ⟨T52, h52, X52, e52, E52, A52, D52, -, st52⟩ := newO X0 hx hZ hown (hw _ (List.mem_of_getElem? (i := 9) rfl)) (hw _ (List.mem_of_getElem? (i := 2) rfl)) (hw _ (List.mem_of_getElem? (i := 1) rfl)) e0 (g := (mkF m 68 #[.val (.int p1), .val (.int p2), .val (.int ((p2 &&& (255 : Int32)).toUInt32.toUInt16.toUInt32.toInt32)), .val (.int ((((p2.toUInt32 >>> ((8 : Int32) &&& 31).toUInt32).toInt32) &&& (255 : Int32)).toUInt32.toUInt16.toUInt32.toInt32)), .val (.int ((((p2.toUInt32 >>> ((16 : Int32) &&& 31).toUInt32).toInt32) &&& (255 : Int32)).toUInt32.toUInt16.toUInt32.toInt32))] [])) rfl (hb hby own_d11_68) (by decide) (by decide)
        obtain ⟨b52, g52⟩ : ∃ z, z = h0.size := ⟨_, rfl⟩
        rw [← g52] at A52 D52 st52
        have ge52 : n0 ≤ b52 := Nat.le_trans Z0 (Nat.le_of_eq g52.symm)
        have bo52 : h0.size ≤ b52 := Nat.le_trans (Keep.refl h0 []).1 (Nat.le_of_eq g52.symm)
        have Z52 : n0 ≤ h52.size := Nat.le_trans Z0 E52.1
        have K52 : Keep h0 h52 [] := (Keep.refl h0 []).ext E52
        have Xo52 := Xo.ext E52
        have f53 : Fld Z h52 b52 "java/lang/String" "value" "[B" .null := D52 (Or.inr (hw _ (List.mem_of_getElem? (i := 4) rfl))) (ty := (.array .byte)) (by decide)
        have f54 : Fld Z h52 b52 "java/lang/String" "coder" "B" (.int (0 : Int32)) := D52 (Or.inr (hw _ (List.mem_of_getElem? (i := 5) rfl))) (ty := .byte) (by decide)
        have k55 : ∀ t, Steps p.tables e below (T52.setTop (mkF m 71 #[.val (.int p1), .val (.int p2), .val (.int ((p2 &&& (255 : Int32)).toUInt32.toUInt16.toUInt32.toInt32)), .val (.int ((((p2.toUInt32 >>> ((8 : Int32) &&& 31).toUInt32).toInt32) &&& (255 : Int32)).toUInt32.toUInt16.toUInt32.toInt32)), .val (.int ((((p2.toUInt32 >>> ((16 : Int32) &&& 31).toUInt32).toInt32) &&& (255 : Int32)).toUInt32.toUInt16.toUInt32.toInt32))] [(.ref b52)])) t → Steps p.tables e below (s₁.setTop (entryFrame m #[(.int p1), (.int p2)] 5)) t := fun t k => k51 t (st52 t k)
        have k56 : ∀ t, Steps p.tables e below (T52.setTop (mkF m 73 #[.val (.int p1), .val (.int p2), .val (.int ((p2 &&& (255 : Int32)).toUInt32.toUInt16.toUInt32.toInt32)), .val (.int ((((p2.toUInt32 >>> ((8 : Int32) &&& 31).toUInt32).toInt32) &&& (255 : Int32)).toUInt32.toUInt16.toUInt32.toInt32)), .val (.int ((((p2.toUInt32 >>> ((16 : Int32) &&& 31).toUInt32).toInt32) &&& (255 : Int32)).toUInt32.toUInt16.toUInt32.toInt32))] [(.int (2 : Int32)), (.ref b52), (.ref b52)])) t → Steps p.tables e below (s₁.setTop (entryFrame m #[(.int p1), (.int p2)] 5)) t := by
          intro t k
          refine k55 t ?_
          show Steps p.tables e below (T52.setTop (mkF m 71 #[.val (.int p1), .val (.int p2), .val (.int ((p2 &&& (255 : Int32)).toUInt32.toUInt16.toUInt32.toInt32)), .val (.int ((((p2.toUInt32 >>> ((8 : Int32) &&& 31).toUInt32).toInt32) &&& (255 : Int32)).toUInt32.toUInt16.toUInt32.toInt32)), .val (.int ((((p2.toUInt32 >>> ((16 : Int32) &&& 31).toUInt32).toInt32) &&& (255 : Int32)).toUInt32.toUInt16.toUInt32.toInt32))] [(.ref b52)])) _
          refine XS.dup X52.here hx rfl (hb hby own_d11_71) rfl rfl ?_
          show Steps p.tables e below (T52.setTop (mkF m 72 #[.val (.int p1), .val (.int p2), .val (.int ((p2 &&& (255 : Int32)).toUInt32.toUInt16.toUInt32.toInt32)), .val (.int ((((p2.toUInt32 >>> ((8 : Int32) &&& 31).toUInt32).toInt32) &&& (255 : Int32)).toUInt32.toUInt16.toUInt32.toInt32)), .val (.int ((((p2.toUInt32 >>> ((16 : Int32) &&& 31).toUInt32).toInt32) &&& (255 : Int32)).toUInt32.toUInt16.toUInt32.toInt32))] [(.ref b52), (.ref b52)])) _
          refine XS.iconst X52.here hx rfl (hb hby own_d11_72) ?_
          exact k
        obtain ⟨T57, h57, c57, X57, e57, E57, A57, st57⟩ := newP X52 hx hZ (hw _ (List.mem_of_getElem? (i := 8) rfl)) e52 (g := (mkF m 73 #[.val (.int p1), .val (.int p2), .val (.int ((p2 &&& (255 : Int32)).toUInt32.toUInt16.toUInt32.toInt32)), .val (.int ((((p2.toUInt32 >>> ((8 : Int32) &&& 31).toUInt32).toInt32) &&& (255 : Int32)).toUInt32.toUInt16.toUInt32.toInt32)), .val (.int ((((p2.toUInt32 >>> ((16 : Int32) &&& 31).toUInt32).toInt32) &&& (255 : Int32)).toUInt32.toUInt16.toUInt32.toInt32))] [(.int (2 : Int32)), (.ref b52), (.ref b52)])) rfl (hb hby own_d11_73) rfl (by decide) (cap := 2) (by decide) (by decide) (by decide) (by decide)
        obtain ⟨b57, g57⟩ : ∃ z, z = h52.size := ⟨_, rfl⟩
        rw [← g57] at A57 st57
        have ge57 : n0 ≤ b57 := Nat.le_trans Z52 (Nat.le_of_eq g57.symm)
        have bo57 : h0.size ≤ b57 := Nat.le_trans K52.1 (Nat.le_of_eq g57.symm)
        have ne58 : b52 ≠ b57 := Nat.ne_of_lt (Nat.lt_of_lt_of_le A52.lt (Nat.le_of_eq g57.symm))
        have Z57 : n0 ≤ h57.size := Nat.le_trans Z52 E57.1
        have K57 : Keep h0 h57 [] := K52.ext E57
        have Xo57 := Xo52.ext E57
        have f59 := A52.ext E57
        have f60 := f53.ext E57
        have f61 := f54.ext E57
        have V57 : Arv Z h57 b57 c57 .char (2 : Int32) [(.int (0 : Int32)), (.int (0 : Int32))] (.int (0 : Int32)) := (Arv.new A57 (by decide)).pad (pad_rep [] (.int (0 : Int32)) 2)
        have k62 : ∀ t, Steps p.tables e below (T57.setTop (mkF m 75 #[.val (.int p1), .val (.int p2), .val (.int ((p2 &&& (255 : Int32)).toUInt32.toUInt16.toUInt32.toInt32)), .val (.int ((((p2.toUInt32 >>> ((8 : Int32) &&& 31).toUInt32).toInt32) &&& (255 : Int32)).toUInt32.toUInt16.toUInt32.toInt32)), .val (.int ((((p2.toUInt32 >>> ((16 : Int32) &&& 31).toUInt32).toInt32) &&& (255 : Int32)).toUInt32.toUInt16.toUInt32.toInt32))] [(.ref b57), (.ref b52), (.ref b52)])) t → Steps p.tables e below (s₁.setTop (entryFrame m #[(.int p1), (.int p2)] 5)) t := fun t k => k56 t (st57 t k)
        have k63 : ∀ t, Steps p.tables e below (T57.setTop (mkF m 78 #[.val (.int p1), .val (.int p2), .val (.int ((p2 &&& (255 : Int32)).toUInt32.toUInt16.toUInt32.toInt32)), .val (.int ((((p2.toUInt32 >>> ((8 : Int32) &&& 31).toUInt32).toInt32) &&& (255 : Int32)).toUInt32.toUInt16.toUInt32.toInt32)), .val (.int ((((p2.toUInt32 >>> ((16 : Int32) &&& 31).toUInt32).toInt32) &&& (255 : Int32)).toUInt32.toUInt16.toUInt32.toInt32))] [(.int ((p2 &&& (255 : Int32)).toUInt32.toUInt16.toUInt32.toInt32)), (.int (0 : Int32)), (.ref b57), (.ref b57), (.ref b52), (.ref b52)])) t → Steps p.tables e below (s₁.setTop (entryFrame m #[(.int p1), (.int p2)] 5)) t := by
          intro t k
          refine k62 t ?_
          show Steps p.tables e below (T57.setTop (mkF m 75 #[.val (.int p1), .val (.int p2), .val (.int ((p2 &&& (255 : Int32)).toUInt32.toUInt16.toUInt32.toInt32)), .val (.int ((((p2.toUInt32 >>> ((8 : Int32) &&& 31).toUInt32).toInt32) &&& (255 : Int32)).toUInt32.toUInt16.toUInt32.toInt32)), .val (.int ((((p2.toUInt32 >>> ((16 : Int32) &&& 31).toUInt32).toInt32) &&& (255 : Int32)).toUInt32.toUInt16.toUInt32.toInt32))] [(.ref b57), (.ref b52), (.ref b52)])) _
          refine XS.dup X57.here hx rfl (hb hby own_d11_75) rfl rfl ?_
          show Steps p.tables e below (T57.setTop (mkF m 76 #[.val (.int p1), .val (.int p2), .val (.int ((p2 &&& (255 : Int32)).toUInt32.toUInt16.toUInt32.toInt32)), .val (.int ((((p2.toUInt32 >>> ((8 : Int32) &&& 31).toUInt32).toInt32) &&& (255 : Int32)).toUInt32.toUInt16.toUInt32.toInt32)), .val (.int ((((p2.toUInt32 >>> ((16 : Int32) &&& 31).toUInt32).toInt32) &&& (255 : Int32)).toUInt32.toUInt16.toUInt32.toInt32))] [(.ref b57), (.ref b57), (.ref b52), (.ref b52)])) _
          refine XS.iconst X57.here hx rfl (hb hby own_d11_76) ?_
          show Steps p.tables e below (T57.setTop (mkF m 77 #[.val (.int p1), .val (.int p2), .val (.int ((p2 &&& (255 : Int32)).toUInt32.toUInt16.toUInt32.toInt32)), .val (.int ((((p2.toUInt32 >>> ((8 : Int32) &&& 31).toUInt32).toInt32) &&& (255 : Int32)).toUInt32.toUInt16.toUInt32.toInt32)), .val (.int ((((p2.toUInt32 >>> ((16 : Int32) &&& 31).toUInt32).toInt32) &&& (255 : Int32)).toUInt32.toUInt16.toUInt32.toInt32))] [(.int (0 : Int32)), (.ref b57), (.ref b57), (.ref b52), (.ref b52)])) _
          refine XS.iloadN X57.here hx rfl (hb hby own_d11_77) rfl ?_
          exact k
        obtain ⟨cl64, Ar64, qa64, Sa64, Na64, Ha64, Ga64⟩ := id V57
        have hin65 : ¬ ((0 : Int32) < 0 ∨ cl64.slots.size ≤ ((0 : Int32)).toNatClampNeg) := inb_of Sa64 ⟨by decide, by decide⟩
        obtain ⟨T66, h66, X66, e66, W66, st66⟩ := stC X57 hx hZ e57 Ar64 (j := (0 : Int32)) hin65 (g := (mkF m 78 #[.val (.int p1), .val (.int p2), .val (.int ((p2 &&& (255 : Int32)).toUInt32.toUInt16.toUInt32.toInt32)), .val (.int ((((p2.toUInt32 >>> ((8 : Int32) &&& 31).toUInt32).toInt32) &&& (255 : Int32)).toUInt32.toUInt16.toUInt32.toInt32)), .val (.int ((((p2.toUInt32 >>> ((16 : Int32) &&& 31).toUInt32).toInt32) &&& (255 : Int32)).toUInt32.toUInt16.toUInt32.toInt32))] [(.int ((p2 &&& (255 : Int32)).toUInt32.toUInt16.toUInt32.toInt32)), (.int (0 : Int32)), (.ref b57), (.ref b57), (.ref b52), (.ref b52)])) rfl rfl (hb hby own_d11_78)
        have f67 := f59.wr W66
        have f68 := f60.other W66 (Or.inl ne58)
        have f69 := f61.other W66 (Or.inl ne58)
        have V66 : Arv Z h66 b57 c57 .char (2 : Int32) [(.int (nar .char ((p2 &&& (255 : Int32)).toUInt32.toUInt16.toUInt32.toInt32))), (.int (0 : Int32))] (.int (0 : Int32)) := Arv.set Ar64 qa64 Sa64 Na64 Ha64 Ga64 (fits_nar_char _) W66 0 rfl (Nat.le_of_ble_eq_true rfl)
        have N66 := Fr.snoc X66 N0 ge57
        have K66 : Keep h0 h66 [] := K57.wr W66 (Or.inr bo57)
        have Z66 : n0 ≤ h66.size := Nat.le_trans Z57 (Keep.of_wr W66).1
        have Xo66 := Xo57.wr W66 ge57
        have k70 : ∀ t, Steps p.tables e below (T66.setTop (mkF m 79 #[.val (.int p1), .val (.int p2), .val (.int ((p2 &&& (255 : Int32)).toUInt32.toUInt16.toUInt32.toInt32)), .val (.int ((((p2.toUInt32 >>> ((8 : Int32) &&& 31).toUInt32).toInt32) &&& (255 : Int32)).toUInt32.toUInt16.toUInt32.toInt32)), .val (.int ((((p2.toUInt32 >>> ((16 : Int32) &&& 31).toUInt32).toInt32) &&& (255 : Int32)).toUInt32.toUInt16.toUInt32.toInt32))] [(.ref b57), (.ref b52), (.ref b52)])) t → Steps p.tables e below (s₁.setTop (entryFrame m #[(.int p1), (.int p2)] 5)) t := fun t k => k63 t (st66 t k)
        have k71 : ∀ t, Steps p.tables e below (T66.setTop (mkF m 82 #[.val (.int p1), .val (.int p2), .val (.int ((p2 &&& (255 : Int32)).toUInt32.toUInt16.toUInt32.toInt32)), .val (.int ((((p2.toUInt32 >>> ((8 : Int32) &&& 31).toUInt32).toInt32) &&& (255 : Int32)).toUInt32.toUInt16.toUInt32.toInt32)), .val (.int ((((p2.toUInt32 >>> ((16 : Int32) &&& 31).toUInt32).toInt32) &&& (255 : Int32)).toUInt32.toUInt16.toUInt32.toInt32))] [(.int ((((p2.toUInt32 >>> ((8 : Int32) &&& 31).toUInt32).toInt32) &&& (255 : Int32)).toUInt32.toUInt16.toUInt32.toInt32)), (.int (1 : Int32)), (.ref b57), (.ref b57), (.ref b52), (.ref b52)])) t → Steps p.tables e below (s₁.setTop (entryFrame m #[(.int p1), (.int p2)] 5)) t := by
          intro t k
          refine k70 t ?_
          show Steps p.tables e below (T66.setTop (mkF m 79 #[.val (.int p1), .val (.int p2), .val (.int ((p2 &&& (255 : Int32)).toUInt32.toUInt16.toUInt32.toInt32)), .val (.int ((((p2.toUInt32 >>> ((8 : Int32) &&& 31).toUInt32).toInt32) &&& (255 : Int32)).toUInt32.toUInt16.toUInt32.toInt32)), .val (.int ((((p2.toUInt32 >>> ((16 : Int32) &&& 31).toUInt32).toInt32) &&& (255 : Int32)).toUInt32.toUInt16.toUInt32.toInt32))] [(.ref b57), (.ref b52), (.ref b52)])) _
          refine XS.dup X66.here hx rfl (hb hby own_d11_79) rfl rfl ?_
          show Steps p.tables e below (T66.setTop (mkF m 80 #[.val (.int p1), .val (.int p2), .val (.int ((p2 &&& (255 : Int32)).toUInt32.toUInt16.toUInt32.toInt32)), .val (.int ((((p2.toUInt32 >>> ((8 : Int32) &&& 31).toUInt32).toInt32) &&& (255 : Int32)).toUInt32.toUInt16.toUInt32.toInt32)), .val (.int ((((p2.toUInt32 >>> ((16 : Int32) &&& 31).toUInt32).toInt32) &&& (255 : Int32)).toUInt32.toUInt16.toUInt32.toInt32))] [(.ref b57), (.ref b57), (.ref b52), (.ref b52)])) _
          refine XS.iconst X66.here hx rfl (hb hby own_d11_80) ?_
          show Steps p.tables e below (T66.setTop (mkF m 81 #[.val (.int p1), .val (.int p2), .val (.int ((p2 &&& (255 : Int32)).toUInt32.toUInt16.toUInt32.toInt32)), .val (.int ((((p2.toUInt32 >>> ((8 : Int32) &&& 31).toUInt32).toInt32) &&& (255 : Int32)).toUInt32.toUInt16.toUInt32.toInt32)), .val (.int ((((p2.toUInt32 >>> ((16 : Int32) &&& 31).toUInt32).toInt32) &&& (255 : Int32)).toUInt32.toUInt16.toUInt32.toInt32))] [(.int (1 : Int32)), (.ref b57), (.ref b57), (.ref b52), (.ref b52)])) _
          refine XS.iloadN X66.here hx rfl (hb hby own_d11_81) rfl ?_
          exact k
        obtain ⟨cl72, Ar72, qa72, Sa72, Na72, Ha72, Ga72⟩ := id V66
        have hin73 : ¬ ((1 : Int32) < 0 ∨ cl72.slots.size ≤ ((1 : Int32)).toNatClampNeg) := inb_of Sa72 ⟨by decide, by decide⟩
        obtain ⟨T74, h74, X74, e74, W74, st74⟩ := stC X66 hx hZ e66 Ar72 (j := (1 : Int32)) hin73 (g := (mkF m 82 #[.val (.int p1), .val (.int p2), .val (.int ((p2 &&& (255 : Int32)).toUInt32.toUInt16.toUInt32.toInt32)), .val (.int ((((p2.toUInt32 >>> ((8 : Int32) &&& 31).toUInt32).toInt32) &&& (255 : Int32)).toUInt32.toUInt16.toUInt32.toInt32)), .val (.int ((((p2.toUInt32 >>> ((16 : Int32) &&& 31).toUInt32).toInt32) &&& (255 : Int32)).toUInt32.toUInt16.toUInt32.toInt32))] [(.int ((((p2.toUInt32 >>> ((8 : Int32) &&& 31).toUInt32).toInt32) &&& (255 : Int32)).toUInt32.toUInt16.toUInt32.toInt32)), (.int (1 : Int32)), (.ref b57), (.ref b57), (.ref b52), (.ref b52)])) rfl rfl (hb hby own_d11_82)
        have f75 := f67.wr W74
        have f76 := f68.other W74 (Or.inl ne58)
        have f77 := f69.other W74 (Or.inl ne58)
        have V74 : Arv Z h74 b57 c57 .char (2 : Int32) [(.int (nar .char ((p2 &&& (255 : Int32)).toUInt32.toUInt16.toUInt32.toInt32))), (.int (nar .char ((((p2.toUInt32 >>> ((8 : Int32) &&& 31).toUInt32).toInt32) &&& (255 : Int32)).toUInt32.toUInt16.toUInt32.toInt32)))] (.int (0 : Int32)) := Arv.set Ar72 qa72 Sa72 Na72 Ha72 Ga72 (fits_nar_char _) W74 1 rfl (Nat.le_of_ble_eq_true rfl)
        have N74 := Fr.snoc X74 N66 ge57
        have K74 : Keep h0 h74 [] := K66.wr W74 (Or.inr bo57)
        have Z74 : n0 ≤ h74.size := Nat.le_trans Z66 (Keep.of_wr W74).1
        have Xo74 := Xo66.wr W74 ge57
        have k78 : ∀ t, Steps p.tables e below (T74.setTop (mkF m 83 #[.val (.int p1), .val (.int p2), .val (.int ((p2 &&& (255 : Int32)).toUInt32.toUInt16.toUInt32.toInt32)), .val (.int ((((p2.toUInt32 >>> ((8 : Int32) &&& 31).toUInt32).toInt32) &&& (255 : Int32)).toUInt32.toUInt16.toUInt32.toInt32)), .val (.int ((((p2.toUInt32 >>> ((16 : Int32) &&& 31).toUInt32).toInt32) &&& (255 : Int32)).toUInt32.toUInt16.toUInt32.toInt32))] [(.ref b57), (.ref b52), (.ref b52)])) t → Steps p.tables e below (s₁.setTop (entryFrame m #[(.int p1), (.int p2)] 5)) t := fun t k => k71 t (st74 t k)
        have GA79 : own_G Z h74 b57 .char 2 (own_of [(nar .char ((p2 &&& (255 : Int32)).toUInt32.toUInt16.toUInt32.toInt32)), (nar .char ((((p2.toUInt32 >>> ((8 : Int32) &&& 31).toUInt32).toInt32) &&& (255 : Int32)).toUInt32.toUInt16.toUInt32.toInt32))]) := own_G.ofV (vs := [(nar .char ((p2 &&& (255 : Int32)).toUInt32.toUInt16.toUInt32.toInt32)), (nar .char ((((p2.toUInt32 >>> ((8 : Int32) &&& 31).toUInt32).toInt32) &&& (255 : Int32)).toUInt32.toUInt16.toUInt32.toInt32))]) (n := 2) V74 rfl
        have hal : ∀ i, i < 2 → ¬ ((255 : Int32) < own_of [(nar .char ((p2 &&& (255 : Int32)).toUInt32.toUInt16.toUInt32.toInt32)), (nar .char ((((p2.toUInt32 >>> ((8 : Int32) &&& 31).toUInt32).toInt32) &&& (255 : Int32)).toUInt32.toUInt16.toUInt32.toInt32))] (0 + i)) := own_halL (vs := [(nar .char ((p2 &&& (255 : Int32)).toUInt32.toUInt16.toUInt32.toInt32)), (nar .char ((((p2.toUInt32 >>> ((8 : Int32) &&& 31).toUInt32).toInt32) &&& (255 : Int32)).toUInt32.toUInt16.toUInt32.toInt32))]) (fun v hv => by simp only [List.mem_cons, List.not_mem_nil, or_false] at hv; rcases hv with rfl | rfl <;> exact own_c255 _)
        obtain ⟨_, _, ⟨T80, L80, k80c, n80⟩, -, X80, ⟨Lc80, hQ80, l80, y80, z80⟩, st80⟩ := X74.specialBack hx (y := (⟨"java/lang/String", "<init>", "([C)V"⟩ : MethodName)) rfl hown (mvT hZ (hw _ (List.mem_of_getElem? (i := 10) rfl))) (mvT hZ (hw _ (List.mem_of_getElem? (i := 11) rfl))) (mvT hZ (hw _ (List.mem_of_getElem? (i := 12) rfl))) (by decide) (backOf (W := 1) (own_rms1 l Z a0 hw [] b52 b57 .null (.int (0 : Int32)) 2 (own_of [ (nar .char ((p2 &&& (255 : Int32)).toUInt32.toUInt16.toUInt32.toInt32)) , (nar .char ((((p2.toUInt32 >>> ((8 : Int32) &&& 31).toUInt32).toInt32) &&& (255 : Int32)).toUInt32.toUInt16.toUInt32.toInt32)) ]) cs h74 n0 Z74 f75 f76 f77 GA79 ge52 (Ne.symm ne58) Xo74 SC hcs (by omega) (by omega) hal) hZ (hw _ (List.mem_of_getElem? (i := 12) rfl)) (hw _ (List.mem_of_getElem? (i := 1) rfl)) (by decide) (by decide)) (g := (mkF m 83 #[.val (.int p1), .val (.int p2), .val (.int ((p2 &&& (255 : Int32)).toUInt32.toUInt16.toUInt32.toInt32)), .val (.int ((((p2.toUInt32 >>> ((8 : Int32) &&& 31).toUInt32).toInt32) &&& (255 : Int32)).toUInt32.toUInt16.toUInt32.toInt32)), .val (.int ((((p2.toUInt32 >>> ((16 : Int32) &&& 31).toUInt32).toInt32) &&& (255 : Int32)).toUInt32.toUInt16.toUInt32.toInt32))] [(.ref b57), (.ref b52), (.ref b52)])) rfl (by rw [hml]; rfl) (Steps.refl _) (a := b52) (argsL := [(.ref b57)]) (rest := [(.ref b52)]) (lenOf own_pd6 rfl) rfl (by show 2 * 0 + _ ≤ _; exact Nat.le_of_eq rfl) (hb hby own_d11_83) (fun _ _ => ⟨rfl, e74, (by decide : 2 + 1 ≤ _), (by decide : 6 + 28 ≤ _)⟩)
        dsimp only [Pt.U, Pt.locs, Pt.cells, Pt.slots] at X80 l80 y80 z80 st80 hQ80
        subst l80 y80 z80
        obtain ⟨rb_80, rfl, N80q, Kq80, gz80_b, fq80_0, fq80_1, fq80_2⟩ := hQ80
        have N80 := Fr.app N74 N80q
        have ge80_b : n0 ≤ rb_80 := Nat.le_trans Z74 gz80_b
        have bo80_b : h0.size ≤ rb_80 := Nat.le_trans K74.1 gz80_b
        have ne81 : b52 ≠ rb_80 := Nat.ne_of_lt (Nat.lt_of_lt_of_le f75.lt gz80_b)
        have ne82 : b57 ≠ rb_80 := Nat.ne_of_lt (Nat.lt_of_lt_of_le GA79.lt gz80_b)
        have f83 := f75.keep Kq80
        have f84 := GA79.keep Kq80 (List.not_mem_cons_of_ne_of_not_mem (Ne.symm ne58) List.not_mem_nil)
        have Z80 : n0 ≤ T80.heap.size := Nat.le_trans Z74 Kq80.1
        have K80 : Keep h0 T80.heap [] := K74.trans Kq80 (fun x hx => by rcases List.mem_cons.mp hx with rfl | hx; exact Or.inr bo52; exact nomatch hx)
        have Xo80 := Xo74.keep Kq80 (allS ge52 all0)
        have k85 : ∀ t, Steps p.tables e below (T80.setTop (mkF m 86 #[.val (.int p1), .val (.int p2), .val (.int ((p2 &&& (255 : Int32)).toUInt32.toUInt16.toUInt32.toInt32)), .val (.int ((((p2.toUInt32 >>> ((8 : Int32) &&& 31).toUInt32).toInt32) &&& (255 : Int32)).toUInt32.toUInt16.toUInt32.toInt32)), .val (.int ((((p2.toUInt32 >>> ((16 : Int32) &&& 31).toUInt32).toInt32) &&& (255 : Int32)).toUInt32.toUInt16.toUInt32.toInt32))] [(.ref b52)])) t → Steps p.tables e below (s₁.setTop (entryFrame m #[(.int p1), (.int p2)] 5)) t := fun t k => k78 t (st80.trans k)
        obtain ⟨fs, hr, hrun, hended, hW, hsame⟩ := X80.leave (v := (some (.ref b52))) (fun h => by rw [Bd.returns] at h; cases h)
        have Ce := own_chrN (s := s) X80 hw hZ K80 hH0
        refine ⟨_, _, k85 _ ?_, hrun, hended, _, _, rfl, ?_, (own_chrG hh rfl Ce), ⟨_, rfl⟩, hW.wide, hW.no_new_pair _, hsame.mono (by decide) (by decide)⟩
        · exact retOut X80 hx Bd.returns rfl (Or.inr (Or.inr (Or.inr (Or.inr ⟨rfl, rfl, rfl⟩)))) (hb hby own_d11_86) hr
        · show own_Qdr Z p1 p2 cs h0 n0 _ T80.heap _
          exact ⟨b52, rb_80, 2, (own_b8 (own_of [ (nar .char ((p2 &&& (255 : Int32)).toUInt32.toUInt16.toUInt32.toInt32)) , (nar .char ((((p2.toUInt32 >>> ((8 : Int32) &&& 31).toUInt32).toInt32) &&& (255 : Int32)).toUInt32.toUInt16.toUInt32.toInt32)) ]) 0), rfl, N80, K80, bo52, f83, fq80_0, fq80_1, fq80_2, (by omega)⟩
      · have k86 : ∀ t, Steps p.tables e below (s₁.setTop (mkF m 87 #[.val (.int p1), .val (.int p2), .val (.int ((p2 &&& (255 : Int32)).toUInt32.toUInt16.toUInt32.toInt32)), .val (.int ((((p2.toUInt32 >>> ((8 : Int32) &&& 31).toUInt32).toInt32) &&& (255 : Int32)).toUInt32.toUInt16.toUInt32.toInt32)), .val (.int ((((p2.toUInt32 >>> ((16 : Int32) &&& 31).toUInt32).toInt32) &&& (255 : Int32)).toUInt32.toUInt16.toUInt32.toInt32))] [])) t → Steps p.tables e below (s₁.setTop (entryFrame m #[(.int p1), (.int p2)] 5)) t := by
          intro t k
          refine k49 t ?_
          show Steps p.tables e below (s₁.setTop (mkF m 65 #[.val (.int p1), .val (.int p2), .val (.int ((p2 &&& (255 : Int32)).toUInt32.toUInt16.toUInt32.toInt32)), .val (.int ((((p2.toUInt32 >>> ((8 : Int32) &&& 31).toUInt32).toInt32) &&& (255 : Int32)).toUInt32.toUInt16.toUInt32.toInt32)), .val (.int ((((p2.toUInt32 >>> ((16 : Int32) &&& 31).toUInt32).toInt32) &&& (255 : Int32)).toUInt32.toUInt16.toUInt32.toInt32))] [(.int (2 : Int32)), (.int p1)])) _
          refine XS.icmpYes X0.here hx rfl (pc0 := 65) (pc' := 87) rfl (hb hby own_d11_65) rfl (feq hc65_50).2 (by decide) (by decide) ?_
          exact k
        obtain ⟨T87, h87, X87, e87, E87, A87, D87, -, st87⟩ := newO X0 hx hZ hown (hw _ (List.mem_of_getElem? (i := 9) rfl)) (hw _ (List.mem_of_getElem? (i := 2) rfl)) (hw _ (List.mem_of_getElem? (i := 1) rfl)) e0 (g := (mkF m 87 #[.val (.int p1), .val (.int p2), .val (.int ((p2 &&& (255 : Int32)).toUInt32.toUInt16.toUInt32.toInt32)), .val (.int ((((p2.toUInt32 >>> ((8 : Int32) &&& 31).toUInt32).toInt32) &&& (255 : Int32)).toUInt32.toUInt16.toUInt32.toInt32)), .val (.int ((((p2.toUInt32 >>> ((16 : Int32) &&& 31).toUInt32).toInt32) &&& (255 : Int32)).toUInt32.toUInt16.toUInt32.toInt32))] [])) rfl (hb hby own_d11_87) (by decide) (by decide)
        obtain ⟨b87, g87⟩ : ∃ z, z = h0.size := ⟨_, rfl⟩
        rw [← g87] at A87 D87 st87
        have ge87 : n0 ≤ b87 := Nat.le_trans Z0 (Nat.le_of_eq g87.symm)
        have bo87 : h0.size ≤ b87 := Nat.le_trans (Keep.refl h0 []).1 (Nat.le_of_eq g87.symm)
        have Z87 : n0 ≤ h87.size := Nat.le_trans Z0 E87.1
        have K87 : Keep h0 h87 [] := (Keep.refl h0 []).ext E87
        have Xo87 := Xo.ext E87
        have f88 : Fld Z h87 b87 "java/lang/String" "value" "[B" .null := D87 (Or.inr (hw _ (List.mem_of_getElem? (i := 4) rfl))) (ty := (.array .byte)) (by decide)
        have f89 : Fld Z h87 b87 "java/lang/String" "coder" "B" (.int (0 : Int32)) := D87 (Or.inr (hw _ (List.mem_of_getElem? (i := 5) rfl))) (ty := .byte) (by decide)
        have k90 : ∀ t, Steps p.tables e below (T87.setTop (mkF m 90 #[.val (.int p1), .val (.int p2), .val (.int ((p2 &&& (255 : Int32)).toUInt32.toUInt16.toUInt32.toInt32)), .val (.int ((((p2.toUInt32 >>> ((8 : Int32) &&& 31).toUInt32).toInt32) &&& (255 : Int32)).toUInt32.toUInt16.toUInt32.toInt32)), .val (.int ((((p2.toUInt32 >>> ((16 : Int32) &&& 31).toUInt32).toInt32) &&& (255 : Int32)).toUInt32.toUInt16.toUInt32.toInt32))] [(.ref b87)])) t → Steps p.tables e below (s₁.setTop (entryFrame m #[(.int p1), (.int p2)] 5)) t := fun t k => k86 t (st87 t k)
        have k91 : ∀ t, Steps p.tables e below (T87.setTop (mkF m 92 #[.val (.int p1), .val (.int p2), .val (.int ((p2 &&& (255 : Int32)).toUInt32.toUInt16.toUInt32.toInt32)), .val (.int ((((p2.toUInt32 >>> ((8 : Int32) &&& 31).toUInt32).toInt32) &&& (255 : Int32)).toUInt32.toUInt16.toUInt32.toInt32)), .val (.int ((((p2.toUInt32 >>> ((16 : Int32) &&& 31).toUInt32).toInt32) &&& (255 : Int32)).toUInt32.toUInt16.toUInt32.toInt32))] [(.int (3 : Int32)), (.ref b87), (.ref b87)])) t → Steps p.tables e below (s₁.setTop (entryFrame m #[(.int p1), (.int p2)] 5)) t := by
          intro t k
          refine k90 t ?_
          show Steps p.tables e below (T87.setTop (mkF m 90 #[.val (.int p1), .val (.int p2), .val (.int ((p2 &&& (255 : Int32)).toUInt32.toUInt16.toUInt32.toInt32)), .val (.int ((((p2.toUInt32 >>> ((8 : Int32) &&& 31).toUInt32).toInt32) &&& (255 : Int32)).toUInt32.toUInt16.toUInt32.toInt32)), .val (.int ((((p2.toUInt32 >>> ((16 : Int32) &&& 31).toUInt32).toInt32) &&& (255 : Int32)).toUInt32.toUInt16.toUInt32.toInt32))] [(.ref b87)])) _
          refine XS.dup X87.here hx rfl (hb hby own_d11_90) rfl rfl ?_
          show Steps p.tables e below (T87.setTop (mkF m 91 #[.val (.int p1), .val (.int p2), .val (.int ((p2 &&& (255 : Int32)).toUInt32.toUInt16.toUInt32.toInt32)), .val (.int ((((p2.toUInt32 >>> ((8 : Int32) &&& 31).toUInt32).toInt32) &&& (255 : Int32)).toUInt32.toUInt16.toUInt32.toInt32)), .val (.int ((((p2.toUInt32 >>> ((16 : Int32) &&& 31).toUInt32).toInt32) &&& (255 : Int32)).toUInt32.toUInt16.toUInt32.toInt32))] [(.ref b87), (.ref b87)])) _
          refine XS.iconst X87.here hx rfl (hb hby own_d11_91) ?_
          exact k
        obtain ⟨T92, h92, c92, X92, e92, E92, A92, st92⟩ := newP X87 hx hZ (hw _ (List.mem_of_getElem? (i := 8) rfl)) e87 (g := (mkF m 92 #[.val (.int p1), .val (.int p2), .val (.int ((p2 &&& (255 : Int32)).toUInt32.toUInt16.toUInt32.toInt32)), .val (.int ((((p2.toUInt32 >>> ((8 : Int32) &&& 31).toUInt32).toInt32) &&& (255 : Int32)).toUInt32.toUInt16.toUInt32.toInt32)), .val (.int ((((p2.toUInt32 >>> ((16 : Int32) &&& 31).toUInt32).toInt32) &&& (255 : Int32)).toUInt32.toUInt16.toUInt32.toInt32))] [(.int (3 : Int32)), (.ref b87), (.ref b87)])) rfl (hb hby own_d11_92) rfl (by decide) (cap := 3) (by decide) (by decide) (by decide) (by decide)
        obtain ⟨b92, g92⟩ : ∃ z, z = h87.size := ⟨_, rfl⟩
        rw [← g92] at A92 st92
        have ge92 : n0 ≤ b92 := Nat.le_trans Z87 (Nat.le_of_eq g92.symm)
        have bo92 : h0.size ≤ b92 := Nat.le_trans K87.1 (Nat.le_of_eq g92.symm)
        have ne93 : b87 ≠ b92 := Nat.ne_of_lt (Nat.lt_of_lt_of_le A87.lt (Nat.le_of_eq g92.symm))
        have Z92 : n0 ≤ h92.size := Nat.le_trans Z87 E92.1
        have K92 : Keep h0 h92 [] := K87.ext E92
        have Xo92 := Xo87.ext E92
        have f94 := A87.ext E92
        have f95 := f88.ext E92
        have f96 := f89.ext E92
        have V92 : Arv Z h92 b92 c92 .char (3 : Int32) [(.int (0 : Int32)), (.int (0 : Int32)), (.int (0 : Int32))] (.int (0 : Int32)) := (Arv.new A92 (by decide)).pad (pad_rep [] (.int (0 : Int32)) 3)
        have k97 : ∀ t, Steps p.tables e below (T92.setTop (mkF m 94 #[.val (.int p1), .val (.int p2), .val (.int ((p2 &&& (255 : Int32)).toUInt32.toUInt16.toUInt32.toInt32)), .val (.int ((((p2.toUInt32 >>> ((8 : Int32) &&& 31).toUInt32).toInt32) &&& (255 : Int32)).toUInt32.toUInt16.toUInt32.toInt32)), .val (.int ((((p2.toUInt32 >>> ((16 : Int32) &&& 31).toUInt32).toInt32) &&& (255 : Int32)).toUInt32.toUInt16.toUInt32.toInt32))] [(.ref b92), (.ref b87), (.ref b87)])) t → Steps p.tables e below (s₁.setTop (entryFrame m #[(.int p1), (.int p2)] 5)) t := fun t k => k91 t (st92 t k)
        have k98 : ∀ t, Steps p.tables e below (T92.setTop (mkF m 97 #[.val (.int p1), .val (.int p2), .val (.int ((p2 &&& (255 : Int32)).toUInt32.toUInt16.toUInt32.toInt32)), .val (.int ((((p2.toUInt32 >>> ((8 : Int32) &&& 31).toUInt32).toInt32) &&& (255 : Int32)).toUInt32.toUInt16.toUInt32.toInt32)), .val (.int ((((p2.toUInt32 >>> ((16 : Int32) &&& 31).toUInt32).toInt32) &&& (255 : Int32)).toUInt32.toUInt16.toUInt32.toInt32))] [(.int ((p2 &&& (255 : Int32)).toUInt32.toUInt16.toUInt32.toInt32)), (.int (0 : Int32)), (.ref b92), (.ref b92), (.ref b87), (.ref b87)])) t → Steps p.tables e below (s₁.setTop (entryFrame m #[(.int p1), (.int p2)] 5)) t := by
          intro t k
          refine k97 t ?_
          show Steps p.tables e below (T92.setTop (mkF m 94 #[.val (.int p1), .val (.int p2), .val (.int ((p2 &&& (255 : Int32)).toUInt32.toUInt16.toUInt32.toInt32)), .val (.int ((((p2.toUInt32 >>> ((8 : Int32) &&& 31).toUInt32).toInt32) &&& (255 : Int32)).toUInt32.toUInt16.toUInt32.toInt32)), .val (.int ((((p2.toUInt32 >>> ((16 : Int32) &&& 31).toUInt32).toInt32) &&& (255 : Int32)).toUInt32.toUInt16.toUInt32.toInt32))] [(.ref b92), (.ref b87), (.ref b87)])) _
          refine XS.dup X92.here hx rfl (hb hby own_d11_94) rfl rfl ?_
          show Steps p.tables e below (T92.setTop (mkF m 95 #[.val (.int p1), .val (.int p2), .val (.int ((p2 &&& (255 : Int32)).toUInt32.toUInt16.toUInt32.toInt32)), .val (.int ((((p2.toUInt32 >>> ((8 : Int32) &&& 31).toUInt32).toInt32) &&& (255 : Int32)).toUInt32.toUInt16.toUInt32.toInt32)), .val (.int ((((p2.toUInt32 >>> ((16 : Int32) &&& 31).toUInt32).toInt32) &&& (255 : Int32)).toUInt32.toUInt16.toUInt32.toInt32))] [(.ref b92), (.ref b92), (.ref b87), (.ref b87)])) _
          refine XS.iconst X92.here hx rfl (hb hby own_d11_95) ?_
          show Steps p.tables e below (T92.setTop (mkF m 96 #[.val (.int p1), .val (.int p2), .val (.int ((p2 &&& (255 : Int32)).toUInt32.toUInt16.toUInt32.toInt32)), .val (.int ((((p2.toUInt32 >>> ((8 : Int32) &&& 31).toUInt32).toInt32) &&& (255 : Int32)).toUInt32.toUInt16.toUInt32.toInt32)), .val (.int ((((p2.toUInt32 >>> ((16 : Int32) &&& 31).toUInt32).toInt32) &&& (255 : Int32)).toUInt32.toUInt16.toUInt32.toInt32))] [(.int (0 : Int32)), (.ref b92), (.ref b92), (.ref b87), (.ref b87)])) _
          refine XS.iloadN X92.here hx rfl (hb hby own_d11_96) rfl ?_
          exact k
        obtain ⟨cl99, Ar99, qa99, Sa99, Na99, Ha99, Ga99⟩ := id V92
        have hin100 : ¬ ((0 : Int32) < 0 ∨ cl99.slots.size ≤ ((0 : Int32)).toNatClampNeg) := inb_of Sa99 ⟨by decide, by decide⟩
        obtain ⟨T101, h101, X101, e101, W101, st101⟩ := stC X92 hx hZ e92 Ar99 (j := (0 : Int32)) hin100 (g := (mkF m 97 #[.val (.int p1), .val (.int p2), .val (.int ((p2 &&& (255 : Int32)).toUInt32.toUInt16.toUInt32.toInt32)), .val (.int ((((p2.toUInt32 >>> ((8 : Int32) &&& 31).toUInt32).toInt32) &&& (255 : Int32)).toUInt32.toUInt16.toUInt32.toInt32)), .val (.int ((((p2.toUInt32 >>> ((16 : Int32) &&& 31).toUInt32).toInt32) &&& (255 : Int32)).toUInt32.toUInt16.toUInt32.toInt32))] [(.int ((p2 &&& (255 : Int32)).toUInt32.toUInt16.toUInt32.toInt32)), (.int (0 : Int32)), (.ref b92), (.ref b92), (.ref b87), (.ref b87)])) rfl rfl (hb hby own_d11_97)
        have f102 := f94.wr W101
        have f103 := f95.other W101 (Or.inl ne93)
        have f104 := f96.other W101 (Or.inl ne93)
        have V101 : Arv Z h101 b92 c92 .char (3 : Int32) [(.int (nar .char ((p2 &&& (255 : Int32)).toUInt32.toUInt16.toUInt32.toInt32))), (.int (0 : Int32)), (.int (0 : Int32))] (.int (0 : Int32)) := Arv.set Ar99 qa99 Sa99 Na99 Ha99 Ga99 (fits_nar_char _) W101 0 rfl (Nat.le_of_ble_eq_true rfl)
        have N101 := Fr.snoc X101 N0 ge92
        have K101 : Keep h0 h101 [] := K92.wr W101 (Or.inr bo92)
        have Z101 : n0 ≤ h101.size := Nat.le_trans Z92 (Keep.of_wr W101).1
        have Xo101 := Xo92.wr W101 ge92
        have k105 : ∀ t, Steps p.tables e below (T101.setTop (mkF m 98 #[.val (.int p1), .val (.int p2), .val (.int ((p2 &&& (255 : Int32)).toUInt32.toUInt16.toUInt32.toInt32)), .val (.int ((((p2.toUInt32 >>> ((8 : Int32) &&& 31).toUInt32).toInt32) &&& (255 : Int32)).toUInt32.toUInt16.toUInt32.toInt32)), .val (.int ((((p2.toUInt32 >>> ((16 : Int32) &&& 31).toUInt32).toInt32) &&& (255 : Int32)).toUInt32.toUInt16.toUInt32.toInt32))] [(.ref b92), (.ref b87), (.ref b87)])) t → Steps p.tables e below (s₁.setTop (entryFrame m #[(.int p1), (.int p2)] 5)) t := fun t k => k98 t (st101 t k)
        have k106 : ∀ t, Steps p.tables e below (T101.setTop (mkF m 101 #[.val (.int p1), .val (.int p2), .val (.int ((p2 &&& (255 : Int32)).toUInt32.toUInt16.toUInt32.toInt32)), .val (.int ((((p2.toUInt32 >>> ((8 : Int32) &&& 31).toUInt32).toInt32) &&& (255 : Int32)).toUInt32.toUInt16.toUInt32.toInt32)), .val (.int ((((p2.toUInt32 >>> ((16 : Int32) &&& 31).toUInt32).toInt32) &&& (255 : Int32)).toUInt32.toUInt16.toUInt32.toInt32))] [(.int ((((p2.toUInt32 >>> ((8 : Int32) &&& 31).toUInt32).toInt32) &&& (255 : Int32)).toUInt32.toUInt16.toUInt32.toInt32)), (.int (1 : Int32)), (.ref b92), (.ref b92), (.ref b87), (.ref b87)])) t → Steps p.tables e below (s₁.setTop (entryFrame m #[(.int p1), (.int p2)] 5)) t := by
          intro t k
          refine k105 t ?_
          show Steps p.tables e below (T101.setTop (mkF m 98 #[.val (.int p1), .val (.int p2), .val (.int ((p2 &&& (255 : Int32)).toUInt32.toUInt16.toUInt32.toInt32)), .val (.int ((((p2.toUInt32 >>> ((8 : Int32) &&& 31).toUInt32).toInt32) &&& (255 : Int32)).toUInt32.toUInt16.toUInt32.toInt32)), .val (.int ((((p2.toUInt32 >>> ((16 : Int32) &&& 31).toUInt32).toInt32) &&& (255 : Int32)).toUInt32.toUInt16.toUInt32.toInt32))] [(.ref b92), (.ref b87), (.ref b87)])) _
          refine XS.dup X101.here hx rfl (hb hby own_d11_98) rfl rfl ?_
          show Steps p.tables e below (T101.setTop (mkF m 99 #[.val (.int p1), .val (.int p2), .val (.int ((p2 &&& (255 : Int32)).toUInt32.toUInt16.toUInt32.toInt32)), .val (.int ((((p2.toUInt32 >>> ((8 : Int32) &&& 31).toUInt32).toInt32) &&& (255 : Int32)).toUInt32.toUInt16.toUInt32.toInt32)), .val (.int ((((p2.toUInt32 >>> ((16 : Int32) &&& 31).toUInt32).toInt32) &&& (255 : Int32)).toUInt32.toUInt16.toUInt32.toInt32))] [(.ref b92), (.ref b92), (.ref b87), (.ref b87)])) _
          refine XS.iconst X101.here hx rfl (hb hby own_d11_99) ?_
          show Steps p.tables e below (T101.setTop (mkF m 100 #[.val (.int p1), .val (.int p2), .val (.int ((p2 &&& (255 : Int32)).toUInt32.toUInt16.toUInt32.toInt32)), .val (.int ((((p2.toUInt32 >>> ((8 : Int32) &&& 31).toUInt32).toInt32) &&& (255 : Int32)).toUInt32.toUInt16.toUInt32.toInt32)), .val (.int ((((p2.toUInt32 >>> ((16 : Int32) &&& 31).toUInt32).toInt32) &&& (255 : Int32)).toUInt32.toUInt16.toUInt32.toInt32))] [(.int (1 : Int32)), (.ref b92), (.ref b92), (.ref b87), (.ref b87)])) _
          refine XS.iloadN X101.here hx rfl (hb hby own_d11_100) rfl ?_
          exact k
        obtain ⟨cl107, Ar107, qa107, Sa107, Na107, Ha107, Ga107⟩ := id V101
        have hin108 : ¬ ((1 : Int32) < 0 ∨ cl107.slots.size ≤ ((1 : Int32)).toNatClampNeg) := inb_of Sa107 ⟨by decide, by decide⟩
        obtain ⟨T109, h109, X109, e109, W109, st109⟩ := stC X101 hx hZ e101 Ar107 (j := (1 : Int32)) hin108 (g := (mkF m 101 #[.val (.int p1), .val (.int p2), .val (.int ((p2 &&& (255 : Int32)).toUInt32.toUInt16.toUInt32.toInt32)), .val (.int ((((p2.toUInt32 >>> ((8 : Int32) &&& 31).toUInt32).toInt32) &&& (255 : Int32)).toUInt32.toUInt16.toUInt32.toInt32)), .val (.int ((((p2.toUInt32 >>> ((16 : Int32) &&& 31).toUInt32).toInt32) &&& (255 : Int32)).toUInt32.toUInt16.toUInt32.toInt32))] [(.int ((((p2.toUInt32 >>> ((8 : Int32) &&& 31).toUInt32).toInt32) &&& (255 : Int32)).toUInt32.toUInt16.toUInt32.toInt32)), (.int (1 : Int32)), (.ref b92), (.ref b92), (.ref b87), (.ref b87)])) rfl rfl (hb hby own_d11_101)
        have f110 := f102.wr W109
        have f111 := f103.other W109 (Or.inl ne93)
        have f112 := f104.other W109 (Or.inl ne93)
        have V109 : Arv Z h109 b92 c92 .char (3 : Int32) [(.int (nar .char ((p2 &&& (255 : Int32)).toUInt32.toUInt16.toUInt32.toInt32))), (.int (nar .char ((((p2.toUInt32 >>> ((8 : Int32) &&& 31).toUInt32).toInt32) &&& (255 : Int32)).toUInt32.toUInt16.toUInt32.toInt32))), (.int (0 : Int32))] (.int (0 : Int32)) := Arv.set Ar107 qa107 Sa107 Na107 Ha107 Ga107 (fits_nar_char _) W109 1 rfl (Nat.le_of_ble_eq_true rfl)
        have N109 := Fr.snoc X109 N101 ge92
        have K109 : Keep h0 h109 [] := K101.wr W109 (Or.inr bo92)
        have Z109 : n0 ≤ h109.size := Nat.le_trans Z101 (Keep.of_wr W109).1
        have Xo109 := Xo101.wr W109 ge92
        have k113 : ∀ t, Steps p.tables e below (T109.setTop (mkF m 102 #[.val (.int p1), .val (.int p2), .val (.int ((p2 &&& (255 : Int32)).toUInt32.toUInt16.toUInt32.toInt32)), .val (.int ((((p2.toUInt32 >>> ((8 : Int32) &&& 31).toUInt32).toInt32) &&& (255 : Int32)).toUInt32.toUInt16.toUInt32.toInt32)), .val (.int ((((p2.toUInt32 >>> ((16 : Int32) &&& 31).toUInt32).toInt32) &&& (255 : Int32)).toUInt32.toUInt16.toUInt32.toInt32))] [(.ref b92), (.ref b87), (.ref b87)])) t → Steps p.tables e below (s₁.setTop (entryFrame m #[(.int p1), (.int p2)] 5)) t := fun t k => k106 t (st109 t k)
        have k114 : ∀ t, Steps p.tables e below (T109.setTop (mkF m 106 #[.val (.int p1), .val (.int p2), .val (.int ((p2 &&& (255 : Int32)).toUInt32.toUInt16.toUInt32.toInt32)), .val (.int ((((p2.toUInt32 >>> ((8 : Int32) &&& 31).toUInt32).toInt32) &&& (255 : Int32)).toUInt32.toUInt16.toUInt32.toInt32)), .val (.int ((((p2.toUInt32 >>> ((16 : Int32) &&& 31).toUInt32).toInt32) &&& (255 : Int32)).toUInt32.toUInt16.toUInt32.toInt32))] [(.int ((((p2.toUInt32 >>> ((16 : Int32) &&& 31).toUInt32).toInt32) &&& (255 : Int32)).toUInt32.toUInt16.toUInt32.toInt32)), (.int (2 : Int32)), (.ref b92), (.ref b92), (.ref b87), (.ref b87)])) t → Steps p.tables e below (s₁.setTop (entryFrame m #[(.int p1), (.int p2)] 5)) t := by
          intro t k
          refine k113 t ?_
          show Steps p.tables e below (T109.setTop (mkF m 102 #[.val (.int p1), .val (.int p2), .val (.int ((p2 &&& (255 : Int32)).toUInt32.toUInt16.toUInt32.toInt32)), .val (.int ((((p2.toUInt32 >>> ((8 : Int32) &&& 31).toUInt32).toInt32) &&& (255 : Int32)).toUInt32.toUInt16.toUInt32.toInt32)), .val (.int ((((p2.toUInt32 >>> ((16 : Int32) &&& 31).toUInt32).toInt32) &&& (255 : Int32)).toUInt32.toUInt16.toUInt32.toInt32))] [(.ref b92), (.ref b87), (.ref b87)])) _
          refine XS.dup X109.here hx rfl (hb hby own_d11_102) rfl rfl ?_
          show Steps p.tables e below (T109.setTop (mkF m 103 #[.val (.int p1), .val (.int p2), .val (.int ((p2 &&& (255 : Int32)).toUInt32.toUInt16.toUInt32.toInt32)), .val (.int ((((p2.toUInt32 >>> ((8 : Int32) &&& 31).toUInt32).toInt32) &&& (255 : Int32)).toUInt32.toUInt16.toUInt32.toInt32)), .val (.int ((((p2.toUInt32 >>> ((16 : Int32) &&& 31).toUInt32).toInt32) &&& (255 : Int32)).toUInt32.toUInt16.toUInt32.toInt32))] [(.ref b92), (.ref b92), (.ref b87), (.ref b87)])) _
          refine XS.iconst X109.here hx rfl (hb hby own_d11_103) ?_
          show Steps p.tables e below (T109.setTop (mkF m 104 #[.val (.int p1), .val (.int p2), .val (.int ((p2 &&& (255 : Int32)).toUInt32.toUInt16.toUInt32.toInt32)), .val (.int ((((p2.toUInt32 >>> ((8 : Int32) &&& 31).toUInt32).toInt32) &&& (255 : Int32)).toUInt32.toUInt16.toUInt32.toInt32)), .val (.int ((((p2.toUInt32 >>> ((16 : Int32) &&& 31).toUInt32).toInt32) &&& (255 : Int32)).toUInt32.toUInt16.toUInt32.toInt32))] [(.int (2 : Int32)), (.ref b92), (.ref b92), (.ref b87), (.ref b87)])) _
          refine XS.iload X109.here hx rfl (hb hby own_d11_104) rfl ?_
          exact k
        obtain ⟨cl115, Ar115, qa115, Sa115, Na115, Ha115, Ga115⟩ := id V109
        have hin116 : ¬ ((2 : Int32) < 0 ∨ cl115.slots.size ≤ ((2 : Int32)).toNatClampNeg) := inb_of Sa115 ⟨by decide, by decide⟩
        obtain ⟨T117, h117, X117, e117, W117, st117⟩ := stC X109 hx hZ e109 Ar115 (j := (2 : Int32)) hin116 (g := (mkF m 106 #[.val (.int p1), .val (.int p2), .val (.int ((p2 &&& (255 : Int32)).toUInt32.toUInt16.toUInt32.toInt32)), .val (.int ((((p2.toUInt32 >>> ((8 : Int32) &&& 31).toUInt32).toInt32) &&& (255 : Int32)).toUInt32.toUInt16.toUInt32.toInt32)), .val (.int ((((p2.toUInt32 >>> ((16 : Int32) &&& 31).toUInt32).toInt32) &&& (255 : Int32)).toUInt32.toUInt16.toUInt32.toInt32))] [(.int ((((p2.toUInt32 >>> ((16 : Int32) &&& 31).toUInt32).toInt32) &&& (255 : Int32)).toUInt32.toUInt16.toUInt32.toInt32)), (.int (2 : Int32)), (.ref b92), (.ref b92), (.ref b87), (.ref b87)])) rfl rfl (hb hby own_d11_106)
        have f118 := f110.wr W117
        have f119 := f111.other W117 (Or.inl ne93)
        have f120 := f112.other W117 (Or.inl ne93)
        have V117 : Arv Z h117 b92 c92 .char (3 : Int32) [(.int (nar .char ((p2 &&& (255 : Int32)).toUInt32.toUInt16.toUInt32.toInt32))), (.int (nar .char ((((p2.toUInt32 >>> ((8 : Int32) &&& 31).toUInt32).toInt32) &&& (255 : Int32)).toUInt32.toUInt16.toUInt32.toInt32))), (.int (nar .char ((((p2.toUInt32 >>> ((16 : Int32) &&& 31).toUInt32).toInt32) &&& (255 : Int32)).toUInt32.toUInt16.toUInt32.toInt32)))] (.int (0 : Int32)) := Arv.set Ar115 qa115 Sa115 Na115 Ha115 Ga115 (fits_nar_char _) W117 2 rfl (Nat.le_of_ble_eq_true rfl)
        have N117 := Fr.snoc X117 N109 ge92
        have K117 : Keep h0 h117 [] := K109.wr W117 (Or.inr bo92)
        have Z117 : n0 ≤ h117.size := Nat.le_trans Z109 (Keep.of_wr W117).1
        have Xo117 := Xo109.wr W117 ge92
        have k121 : ∀ t, Steps p.tables e below (T117.setTop (mkF m 107 #[.val (.int p1), .val (.int p2), .val (.int ((p2 &&& (255 : Int32)).toUInt32.toUInt16.toUInt32.toInt32)), .val (.int ((((p2.toUInt32 >>> ((8 : Int32) &&& 31).toUInt32).toInt32) &&& (255 : Int32)).toUInt32.toUInt16.toUInt32.toInt32)), .val (.int ((((p2.toUInt32 >>> ((16 : Int32) &&& 31).toUInt32).toInt32) &&& (255 : Int32)).toUInt32.toUInt16.toUInt32.toInt32))] [(.ref b92), (.ref b87), (.ref b87)])) t → Steps p.tables e below (s₁.setTop (entryFrame m #[(.int p1), (.int p2)] 5)) t := fun t k => k114 t (st117 t k)
        have GA122 : own_G Z h117 b92 .char 3 (own_of [(nar .char ((p2 &&& (255 : Int32)).toUInt32.toUInt16.toUInt32.toInt32)), (nar .char ((((p2.toUInt32 >>> ((8 : Int32) &&& 31).toUInt32).toInt32) &&& (255 : Int32)).toUInt32.toUInt16.toUInt32.toInt32)), (nar .char ((((p2.toUInt32 >>> ((16 : Int32) &&& 31).toUInt32).toInt32) &&& (255 : Int32)).toUInt32.toUInt16.toUInt32.toInt32))]) := own_G.ofV (vs := [(nar .char ((p2 &&& (255 : Int32)).toUInt32.toUInt16.toUInt32.toInt32)), (nar .char ((((p2.toUInt32 >>> ((8 : Int32) &&& 31).toUInt32).toInt32) &&& (255 : Int32)).toUInt32.toUInt16.toUInt32.toInt32)), (nar .char ((((p2.toUInt32 >>> ((16 : Int32) &&& 31).toUInt32).toInt32) &&& (255 : Int32)).toUInt32.toUInt16.toUInt32.toInt32))]) (n := 3) V117 rfl
        have hal : ∀ i, i < 3 → ¬ ((255 : Int32) < own_of [(nar .char ((p2 &&& (255 : Int32)).toUInt32.toUInt16.toUInt32.toInt32)), (nar .char ((((p2.toUInt32 >>> ((8 : Int32) &&& 31).toUInt32).toInt32) &&& (255 : Int32)).toUInt32.toUInt16.toUInt32.toInt32)), (nar .char ((((p2.toUInt32 >>> ((16 : Int32) &&& 31).toUInt32).toInt32) &&& (255 : Int32)).toUInt32.toUInt16.toUInt32.toInt32))] (0 + i)) := own_halL (vs := [(nar .char ((p2 &&& (255 : Int32)).toUInt32.toUInt16.toUInt32.toInt32)), (nar .char ((((p2.toUInt32 >>> ((8 : Int32) &&& 31).toUInt32).toInt32) &&& (255 : Int32)).toUInt32.toUInt16.toUInt32.toInt32)), (nar .char ((((p2.toUInt32 >>> ((16 : Int32) &&& 31).toUInt32).toInt32) &&& (255 : Int32)).toUInt32.toUInt16.toUInt32.toInt32))]) (fun v hv => by simp only [List.mem_cons, List.not_mem_nil, or_false] at hv; rcases hv with rfl | rfl | rfl <;> exact own_c255 _)
        obtain ⟨_, _, ⟨T123, L123, k123c, n123⟩, -, X123, ⟨Lc123, hQ123, l123, y123, z123⟩, st123⟩ := X117.specialBack hx (y := (⟨"java/lang/String", "<init>", "([C)V"⟩ : MethodName)) rfl hown (mvT hZ (hw _ (List.mem_of_getElem? (i := 10) rfl))) (mvT hZ (hw _ (List.mem_of_getElem? (i := 11) rfl))) (mvT hZ (hw _ (List.mem_of_getElem? (i := 12) rfl))) (by decide) (backOf (W := 1) (own_rms1 l Z a0 hw [] b87 b92 .null (.int (0 : Int32)) 3 (own_of [ (nar .char ((p2 &&& (255 : Int32)).toUInt32.toUInt16.toUInt32.toInt32)) , (nar .char ((((p2.toUInt32 >>> ((8 : Int32) &&& 31).toUInt32).toInt32) &&& (255 : Int32)).toUInt32.toUInt16.toUInt32.toInt32)) , (nar .char ((((p2.toUInt32 >>> ((16 : Int32) &&& 31).toUInt32).toInt32) &&& (255 : Int32)).toUInt32.toUInt16.toUInt32.toInt32)) ]) cs h117 n0 Z117 f118 f119 f120 GA122 ge87 (Ne.symm ne93) Xo117 SC hcs (by omega) (by omega) hal) hZ (hw _ (List.mem_of_getElem? (i := 12) rfl)) (hw _ (List.mem_of_getElem? (i := 1) rfl)) (by decide) (by decide)) (g := (mkF m 107 #[.val (.int p1), .val (.int p2), .val (.int ((p2 &&& (255 : Int32)).toUInt32.toUInt16.toUInt32.toInt32)), .val (.int ((((p2.toUInt32 >>> ((8 : Int32) &&& 31).toUInt32).toInt32) &&& (255 : Int32)).toUInt32.toUInt16.toUInt32.toInt32)), .val (.int ((((p2.toUInt32 >>> ((16 : Int32) &&& 31).toUInt32).toInt32) &&& (255 : Int32)).toUInt32.toUInt16.toUInt32.toInt32))] [(.ref b92), (.ref b87), (.ref b87)])) rfl (by rw [hml]; rfl) (Steps.refl _) (a := b87) (argsL := [(.ref b92)]) (rest := [(.ref b87)]) (lenOf own_pd6 rfl) rfl (by show 2 * 0 + _ ≤ _; exact Nat.le_of_eq rfl) (hb hby own_d11_107) (fun _ _ => ⟨rfl, e117, (by decide : 2 + 1 ≤ _), (by decide : 7 + 28 ≤ _)⟩)
        dsimp only [Pt.U, Pt.locs, Pt.cells, Pt.slots] at X123 l123 y123 z123 st123 hQ123
        subst l123 y123 z123
        obtain ⟨rb_123, rfl, N123q, Kq123, gz123_b, fq123_0, fq123_1, fq123_2⟩ := hQ123
        have N123 := Fr.app N117 N123q
        have ge123_b : n0 ≤ rb_123 := Nat.le_trans Z117 gz123_b
        have bo123_b : h0.size ≤ rb_123 := Nat.le_trans K117.1 gz123_b
        have ne124 : b87 ≠ rb_123 := Nat.ne_of_lt (Nat.lt_of_lt_of_le f118.lt gz123_b)
        have ne125 : b92 ≠ rb_123 := Nat.ne_of_lt (Nat.lt_of_lt_of_le GA122.lt gz123_b)
        have f126 := f118.keep Kq123
        have f127 := GA122.keep Kq123 (List.not_mem_cons_of_ne_of_not_mem (Ne.symm ne93) List.not_mem_nil)
        have Z123 : n0 ≤ T123.heap.size := Nat.le_trans Z117 Kq123.1
        have K123 : Keep h0 T123.heap [] := K117.trans Kq123 (fun x hx => by rcases List.mem_cons.mp hx with rfl | hx; exact Or.inr bo87; exact nomatch hx)
        have Xo123 := Xo117.keep Kq123 (allS ge87 all0)
        have k128 : ∀ t, Steps p.tables e below (T123.setTop (mkF m 110 #[.val (.int p1), .val (.int p2), .val (.int ((p2 &&& (255 : Int32)).toUInt32.toUInt16.toUInt32.toInt32)), .val (.int ((((p2.toUInt32 >>> ((8 : Int32) &&& 31).toUInt32).toInt32) &&& (255 : Int32)).toUInt32.toUInt16.toUInt32.toInt32)), .val (.int ((((p2.toUInt32 >>> ((16 : Int32) &&& 31).toUInt32).toInt32) &&& (255 : Int32)).toUInt32.toUInt16.toUInt32.toInt32))] [(.ref b87)])) t → Steps p.tables e below (s₁.setTop (entryFrame m #[(.int p1), (.int p2)] 5)) t := fun t k => k121 t (st123.trans k)
        obtain ⟨fs, hr, hrun, hended, hW, hsame⟩ := X123.leave (v := (some (.ref b87))) (fun h => by rw [Bd.returns] at h; cases h)
        have Ce := own_chrN (s := s) X123 hw hZ K123 hH0
        refine ⟨_, _, k128 _ ?_, hrun, hended, _, _, rfl, ?_, (own_chrG hh rfl Ce), ⟨_, rfl⟩, hW.wide, hW.no_new_pair _, hsame.mono (by decide) (by decide)⟩
        · exact retOut X123 hx Bd.returns rfl (Or.inr (Or.inr (Or.inr (Or.inr ⟨rfl, rfl, rfl⟩)))) (hb hby own_d11_110) hr
        · show own_Qdr Z p1 p2 cs h0 n0 _ T123.heap _
          exact ⟨b87, rb_123, 3, (own_b8 (own_of [ (nar .char ((p2 &&& (255 : Int32)).toUInt32.toUInt16.toUInt32.toInt32)) , (nar .char ((((p2.toUInt32 >>> ((8 : Int32) &&& 31).toUInt32).toInt32) &&& (255 : Int32)).toUInt32.toUInt16.toUInt32.toInt32)) , (nar .char ((((p2.toUInt32 >>> ((16 : Int32) &&& 31).toUInt32).toInt32) &&& (255 : Int32)).toUInt32.toUInt16.toUInt32.toInt32)) ]) 0), rfl, N123, K123, bo87, f126, fq123_0, fq123_1, fq123_2, (by omega)⟩
def own_k1 (p1 : Int32) : Int32 := (((p1.toUInt32 >>> ((3 : Int32) &&& 31).toUInt32).toInt32) % (27 : Int32))
def own_r1 (p3 : Int32) : Int32 := ((p3 &&& (255 : Int32)).toUInt32.toUInt16.toUInt32.toInt32)
def own_k2 (p2 : Int32) : Int32 := (((p2.toUInt32 >>> ((4 : Int32) &&& 31).toUInt32).toInt32) % (7 : Int32))
def own_r2 (p4 : Int32) : Int32 := ((p4 &&& (255 : Int32)).toUInt32.toUInt16.toUInt32.toInt32)
def own_k3 (p2 : Int32) : Int32 := (((p2.toUInt32 >>> ((4 : Int32) &&& 31).toUInt32).toInt32) % (9 : Int32))
def own_r3 (p4 : Int32) : Int32 := ((((p4.toUInt32 >>> ((8 : Int32) &&& 31).toUInt32).toInt32) &&& (255 : Int32)).toUInt32.toUInt16.toUInt32.toInt32)
def own_ex (flju : Int32) (fljv : Int32) : Int32 := if flju = (0 : Int32) then (0 : Int32) else if fljv = (0 : Int32) then (0 : Int32) else (1 : Int32)
theorem own_fill1 : ∀ i, i < 27 → (own_upd (own_upd (own_upd (own_upd (own_upd (own_upd (own_upd (own_upd (own_upd (own_upd (own_upd (own_upd (own_upd (own_upd (own_upd (own_upd (own_upd (own_upd (own_upd (own_upd (own_upd (own_upd (own_upd (own_upd (own_upd (own_upd (own_upd own_zero 0 (nar .char (104 : Int32))) 1 (nar .char (116 : Int32))) 2 (nar .char (116 : Int32))) 3 (nar .char (112 : Int32))) 4 (nar .char (58 : Int32))) 5 (nar .char (47 : Int32))) 6 (nar .char (47 : Int32))) 7 (nar .char (119 : Int32))) 8 (nar .char (119 : Int32))) 9 (nar .char (119 : Int32))) 10 (nar .char (46 : Int32))) 11 (nar .char (116 : Int32))) 12 (nar .char (101 : Int32))) 13 (nar .char (105 : Int32))) 14 (nar .char (45 : Int32))) 15 (nar .char (99 : Int32))) 16 (nar .char (46 : Int32))) 17 (nar .char (111 : Int32))) 18 (nar .char (114 : Int32))) 19 (nar .char (103 : Int32))) 20 (nar .char (47 : Int32))) 21 (nar .char (110 : Int32))) 22 (nar .char (115 : Int32))) 23 (nar .char (47 : Int32))) 24 (nar .char (49 : Int32))) 25 (nar .char (46 : Int32))) 26 (nar .char (48 : Int32))) i = own_of own_tx0 i := by decide +kernel
theorem own_halT1 : ∀ i, i < 27 → ¬ ((255 : Int32) < own_of own_tx0 (0 + i)) := by decide +kernel
theorem own_lowT1 : ∀ i, i < 27 → 0 ≤ (own_of own_tx0 i).toInt ∧ (own_of own_tx0 i).toInt < 128 := by decide +kernel
theorem own_fill2 : ∀ i, i < 7 → (own_upd (own_upd (own_upd (own_upd (own_upd (own_upd (own_upd own_zero 0 (nar .char (97 : Int32))) 1 (nar .char (100 : Int32))) 2 (nar .char (100 : Int32))) 3 (nar .char (114 : Int32))) 4 (nar .char (101 : Int32))) 5 (nar .char (115 : Int32))) 6 (nar .char (115 : Int32))) i = own_of own_tx1 i := by decide +kernel
theorem own_halT2 : ∀ i, i < 7 → ¬ ((255 : Int32) < own_of own_tx1 (0 + i)) := by decide +kernel
theorem own_lowT2 : ∀ i, i < 7 → 0 ≤ (own_of own_tx1 i).toInt ∧ (own_of own_tx1 i).toInt < 128 := by decide +kernel
theorem own_fill3 : ∀ i, i < 9 → (own_upd (own_upd (own_upd (own_upd (own_upd (own_upd (own_upd (own_upd (own_upd own_zero 0 (nar .char (114 : Int32))) 1 (nar .char (101 : Int32))) 2 (nar .char (115 : Int32))) 3 (nar .char (105 : Int32))) 4 (nar .char (100 : Int32))) 5 (nar .char (101 : Int32))) 6 (nar .char (110 : Int32))) 7 (nar .char (99 : Int32))) 8 (nar .char (101 : Int32))) i = own_of own_tx2 i := by decide +kernel
theorem own_halT3 : ∀ i, i < 9 → ¬ ((255 : Int32) < own_of own_tx2 (0 + i)) := by decide +kernel
theorem own_lowT3 : ∀ i, i < 9 → 0 ≤ (own_of own_tx2 i).toInt ∧ (own_of own_tx2 i).toInt < 128 := by decide +kernel
theorem own_i9 : (9 : Int32).toInt = ((9 : Nat) : Int) := rfl
theorem own_i10 : (10 : Int32).toInt = ((10 : Nat) : Int) := rfl
theorem own_i11 : (11 : Int32).toInt = ((11 : Nat) : Int) := rfl
theorem own_i12 : (12 : Int32).toInt = ((12 : Nat) : Int) := rfl
theorem own_i13 : (13 : Int32).toInt = ((13 : Nat) : Int) := rfl
theorem own_i14 : (14 : Int32).toInt = ((14 : Nat) : Int) := rfl
theorem own_i15 : (15 : Int32).toInt = ((15 : Nat) : Int) := rfl
theorem own_i16 : (16 : Int32).toInt = ((16 : Nat) : Int) := rfl
theorem own_i17 : (17 : Int32).toInt = ((17 : Nat) : Int) := rfl
theorem own_i18 : (18 : Int32).toInt = ((18 : Nat) : Int) := rfl
theorem own_i19 : (19 : Int32).toInt = ((19 : Nat) : Int) := rfl
theorem own_i20 : (20 : Int32).toInt = ((20 : Nat) : Int) := rfl
theorem own_i21 : (21 : Int32).toInt = ((21 : Nat) : Int) := rfl
theorem own_i22 : (22 : Int32).toInt = ((22 : Nat) : Int) := rfl
theorem own_i23 : (23 : Int32).toInt = ((23 : Nat) : Int) := rfl
theorem own_i24 : (24 : Int32).toInt = ((24 : Nat) : Int) := rfl
theorem own_i25 : (25 : Int32).toInt = ((25 : Nat) : Int) := rfl
theorem own_i26 : (26 : Int32).toInt = ((26 : Nat) : Int) := rfl
theorem own_i27 : (27 : Int32).toInt = ((27 : Nat) : Int) := rfl
theorem own_not3 {n : Nat} {f : Nat → Int32} {vs : List Int32} (h : n ≤ 3) (hv : 3 < vs.length) : ¬ own_is n f vs := fun q => by have := q.1; omega
theorem own_us (p q : Int32) (k : Nat) (hk : q.toBitVec.toNat % 32 = k) (h0 : 0 < k) : 0 ≤ ((p.toUInt32 >>> (q &&& 31).toUInt32).toInt32).toInt := by
  rw [c_iushr p q k hk h0]; exact Int.ediv_nonneg (Int.emod_nonneg _ (by decide)) (Int.natCast_nonneg _)
theorem own_kN1 (p1 : Int32) : ∃ kn : Nat, (own_k1 p1).toInt = (kn : Int) ∧ kn < 27 := by
  have h := own_us p1 3 3 (by decide) (by decide)
  have h2 := (c_irem ((p1.toUInt32 >>> ((3 : Int32) &&& 31).toUInt32).toInt32) 27 27 (by decide)).1 h
  refine ⟨(own_k1 p1).toInt.toNat, ?_, ?_⟩ <;> unfold own_k1 <;> omega
theorem own_kN2 (p2 : Int32) : ∃ kn : Nat, (own_k2 p2).toInt = (kn : Int) ∧ kn < 7 := by
  have h := own_us p2 4 4 (by decide) (by decide)
  have h2 := (c_irem ((p2.toUInt32 >>> ((4 : Int32) &&& 31).toUInt32).toInt32) 7 7 (by decide)).1 h
  refine ⟨(own_k2 p2).toInt.toNat, ?_, ?_⟩ <;> unfold own_k2 <;> omega
theorem own_kN3 (p2 : Int32) : ∃ kn : Nat, (own_k3 p2).toInt = (kn : Int) ∧ kn < 9 := by
  have h := own_us p2 4 4 (by decide) (by decide)
  have h2 := (c_irem ((p2.toUInt32 >>> ((4 : Int32) &&& 31).toUInt32).toInt32) 9 9 (by decide)).1 h
  refine ⟨(own_k3 p2).toInt.toNat, ?_, ?_⟩ <;> unfold own_k3 <;> omega
theorem own_rr (x : Int32) : nar .char ((x &&& (255 : Int32)).toUInt32.toUInt16.toUInt32.toInt32) = (x &&& (255 : Int32)).toUInt32.toUInt16.toUInt32.toInt32 ∧ (0 ≤ ((x &&& (255 : Int32)).toUInt32.toUInt16.toUInt32.toInt32).toInt ∧ ((x &&& (255 : Int32)).toUInt32.toUInt16.toUInt32.toInt32).toInt < 256) ∧ ¬ ((255 : Int32) < nar .char ((x &&& (255 : Int32)).toUInt32.toUInt16.toUInt32.toInt32)) := by
  have h1 := c_mask x 255 8 (by decide) (by decide)
  have h2 := c_i2c (x &&& 255)
  have h3 := c_i2c ((x &&& (255 : Int32)).toUInt32.toUInt16.toUInt32.toInt32)
  have e : (nar .char ((x &&& (255 : Int32)).toUInt32.toUInt16.toUInt32.toInt32)).toInt = (((x &&& (255 : Int32)).toUInt32.toUInt16.toUInt32.toInt32).toUInt32.toUInt16.toUInt32.toInt32).toInt := rfl
  exact ⟨Int32.toInt_inj.mp (by omega), ⟨by omega, by omega⟩, own_c255 x⟩
theorem own_rr1 (p3 : Int32) : nar .char (own_r1 p3) = own_r1 p3 ∧ (0 ≤ (own_r1 p3).toInt ∧ (own_r1 p3).toInt < 256) ∧ ¬ ((255 : Int32) < nar .char (own_r1 p3)) := own_rr _
theorem own_rr2 (p4 : Int32) : nar .char (own_r2 p4) = own_r2 p4 ∧ (0 ≤ (own_r2 p4).toInt ∧ (own_r2 p4).toInt < 256) ∧ ¬ ((255 : Int32) < nar .char (own_r2 p4)) := own_rr _
theorem own_rr3 (p4 : Int32) : nar .char (own_r3 p4) = own_r3 p4 ∧ (0 ≤ (own_r3 p4).toInt ∧ (own_r3 p4).toInt < 256) ∧ ¬ ((255 : Int32) < nar .char (own_r3 p4)) := own_rr _
theorem own_chgR {L : List Int32} {n k : Nat} {r : Int32} (hr : nar .char r = r ∧ (0 ≤ r.toInt ∧ r.toInt < 256) ∧ ¬ ((255 : Int32) < nar .char r)) (hn : L.length = n) (hL : ∀ i, i < n → 0 ≤ (own_of L i).toInt ∧ (own_of L i).toInt < 128) (hk : k < n) : own_is n (own_b8 (own_upd (own_of L) k (nar .char r)) 0) L ↔ own_of L k = r := by
  rw [hr.1]; exact own_chg hn hL hk hr.2.1
theorem own_last {P Q : Prop} {u v r : Int32} (hu : (u = (1 : Int32) ∧ P) ∨ (u = (0 : Int32) ∧ ¬ P)) (hv : (v = (1 : Int32) ∧ Q) ∨ (v = (0 : Int32) ∧ ¬ Q)) (hr : (r = (1 : Int32) ∧ (P ∧ Q)) ∨ (r = (0 : Int32) ∧ ¬ (P ∧ Q))) : r = own_ex u v := by
  rcases hu with ⟨rfl, h1⟩ | ⟨rfl, h1⟩ <;> rcases hv with ⟨rfl, h2⟩ | ⟨rfl, h2⟩ <;> rcases hr with ⟨rfl, h3⟩ | ⟨rfl, h3⟩ <;> first | rfl | exact absurd ⟨h1, h2⟩ h3 | exact absurd h3.1 h1 | exact absurd h3.2 h2
section OwnVH
variable {p : Program} {l : Launch} {e : Env} {R : Room} {s : State} {m : MethodId} {args : Array Value} {below : List Frame} {meth : Method} {c : Code} {T : State} {locs : List Loc} {cells slots : Nat} {Z : State} {a0 : Array Value} {h : Heap} {vm0 : Vm} {k0 : Nat}
/-- a wide virtual callee, CHr not asked, in a walk that may have interned already -/
theorem own_callVH {own C : String} {index : Nat} {y : MethodName} {bytes : ByteArray} {ml W : Nat} {rt : Option FieldType} {rm : Room} {A : Array Value} {Q : Option Value → Heap → List Loc → Prop} (X : Stand p l e R (s.setVm vm0) m args below meth c T locs cells slots) (hx : p.tables.exec = Jvm.exec) (hw : ∀ d ∈ tables_1, d.before a0 Z = true) (hZ : Z.Warmed39 vm0) (hown : vm0.findClass own = some m.cls) (hS : s.Since vm0 k0) (hk : k0 ≤ h.size) (H : CHv Z own_EL vm0 h)
    (w1 : (Cond.methodLink own index y).before a0 Z = true) (w2 : (Cond.declares y).before a0 Z = true) (w5 : (Cond.selects C y y).before a0 Z = true) (w6 : (Cond.instanceMethod y).before a0 Z = true) (w3 : (Cond.initialized y.cls).before a0 Z = true) (w4 : (Cond.code y bytes ml rt).before a0 Z = true) (hy : y.cls ≠ "java/lang/invoke/MethodHandle" ∧ y.cls ≠ "java/lang/invoke/VarHandle")
    (hM : MetFree l y (head1 [Cond.code y bytes ml rt] rm) (fun a U => a = A ∧ Z.Warmed39 U.vm ∧ U.heap = h ∧ CHv Z own_EL U.vm h) (fun _ _ _ _ _ => True) (fun _ U o U' => ∃ v L, o = .returned v ∧ Q v U'.heap L ∧ ReturnedEndW U o U' L rm.cells rm.slots)) (hf : rm.frames + 1 ≤ R.frames) (hl : W + (ml + 11) + rm.locals ≤ R.locals) (hT : T.heap = h) {a : Addr} (hE : Exa Z h a C) {g : JFrame} (hg : g.method = m) (hsize : g.locals.size = c.maxLocals)
    {ps : List FieldType} {r : Option FieldType} (hp : parseMethodDescriptor y.desc = some ⟨ps, r⟩) {argsL rest : List Value} (hlen : argsL.length = ps.length) (hstack : g.stack = argsL.reverse ++ .ref a :: rest) (hA : (.ref a :: argsL).toArray = A) (hW : 2 * g.monitorRoom + (rest.map fun v => v.category).sum ≤ W) (hd : decode c.code g.pc = .ok (.invokevirtual index, 3)) (hc : cells + rm.cells ≤ R.cells) (hs : slots + rm.slots ≤ R.slots) :
    ∃ v T' L', Stand p l e R (s.setVm T'.vm) m args below meth c T' (locs ++ L') (cells + rm.cells) (slots + rm.slots) ∧ s.Since T'.vm T'.heap.size ∧ Z.Warmed39 T'.vm ∧ T'.vm.findClass own = some m.cls ∧ Q v T'.heap L' ∧ ∀ t, Steps p.tables e below (T'.setTop { g with pc := g.pc + 3, stack := v.toList ++ rest }) t → Steps p.tables e below (T.setTop g) t := by
  have hZ' : Z.Warmed39 (s.setVm vm0).vm := hZ
  obtain ⟨cq, kq, qa, qb, qc⟩ := isOf hZ' hT hE
  obtain ⟨v, _, ⟨T', L', k', n'⟩, -, X', hS', hgr, ⟨Lc, hQ, l1, l2, l3⟩, st⟩ := X.virtualBackS hx (y := y) (z := y) hown (mvT hZ' w1) (mvT hZ' w2) (notFace_of_selects (args := #[]) (mvT hZ' w5)) (mvT hZ' w5) (mvT hZ' w6) hy (own_backW (s := s.setVm vm0) (W := W) hM hw hZ' w4 w3 hf hl H) qa qc hg hsize (Steps.refl _) (argsL := argsL) (rest := rest) (lenOf hp hlen) hstack hW hd (fun _ _ => ⟨hA, hT, hc, hs⟩)
  dsimp only [Pt.U, Pt.locs, Pt.cells, Pt.slots] at X' l1 l2 l3 st hQ hS' hgr
  subst l1 l2 l3
  rw [hT] at hgr
  exact ⟨v, T', Lc, X', hS.trans hS' (Nat.le_trans hk hgr), State.Warmed39.trans (t := s.setVm vm0) hZ hS'.1, by rw [hS'.1.alike.findClass]; exact hown, hQ, fun t q => st.trans q⟩
end OwnVH

theorem own_pd7 : parseMethodDescriptor "(II)Ljava/lang/String;" = some ⟨[.int, .int], some (.object "java/lang/String")⟩ := by decide +kernel
theorem own_pd8 : parseMethodDescriptor "()V" = some ⟨[], none⟩ := by decide +kernel
theorem own_pd9 : parseMethodDescriptor "(Ljava/lang/String;Ljava/lang/String;)Z" = some ⟨[(.object "java/lang/String"), (.object "java/lang/String")], some .boolean⟩ := by decide +kernel
theorem own_ef0 (m : MethodId) (x0 : Int32) (x1 : Int32) (x2 : Int32) (x3 : Int32) : entryFrame m #[(.int x0), (.int x1), (.int x2), (.int x3)] maxLocals = mkF m 0 #[.val (.int x0), .val (.int x1), .val (.int x2), .val (.int x3), .unset, .unset, .unset, .unset, .unset, .unset, .unset, .unset, .unset] [] := by first | (simp [entryFrame, mkF, argsToLocals, Value.category, maxLocals]; done) | rfl
def own_Q0 (Z : State) (p1 : Int32) (p2 : Int32) (p3 : Int32) (p4 : Int32) (cs : Int32) (h0 : Heap) (n0 : Nat) (v : Option Value) (h : Heap) (L : List Loc) : Prop := v = some (.int (1 : Int32)) ∧ Fr n0 L
set_option maxRecDepth 65536 in
set_option maxHeartbeats 40000000 in
theorem own_rm0 (l : Launch) (Z : State) (a0 : Array Value) (hw : ∀ d ∈ tables_1, d.before a0 Z = true) (ws : List Jvm.Cond) (p1 : Int32) (p2 : Int32) (p3 : Int32) (p4 : Int32) (cs : Int32) (h0 : Heap) (n0 : Nat) (Z0 : n0 ≤ h0.size) (Xo : Old Z n0 h0) (SC : Sta Z Z.heap "java/lang/String" "COMPACT_STRINGS" "Z" (.int cs)) (hcs : ¬ (cs = (0 : Int32))) :
    MetFree l x (head1 (Jvm.Cond.code x code maxLocals ret :: ws) room_1) (fun aa U => aa = #[(.int p1), (.int p2), (.int p3), (.int p4)] ∧ Z.Warmed39 U.vm ∧ U.heap = h0 ∧ CHv Z own_EL U.vm h0) (fun _ _ _ _ _ => True) (fun _ U o U' => ∃ v L, o = .returned v ∧ own_Q0 Z p1 p2 p3 p4 cs h0 n0 v U'.heap L ∧ ReturnedEndW U o U' L room_1.cells room_1.slots) := by
  refine MetFree.of_bodySF (plainFor_of_name own_pn4) hisR ?_
  intro p e s m args below meth c s₁ Bd hml0 hP hK
  obtain ⟨rfl, hZ, hh, hH0⟩ := hP
  have hx := Bd.exec
  have hby := Bd.bytes
  have hml : c.maxLocals = 13 := hml0
  have hown : s.vm.findClass "com/example/domicile/domicile/tei/TeiVocabularyMayBeRecordPinLaw" = some m.cls := findClass_of_methodNamed Bd.named
  have hnm := (name_of_methodNamed Bd.named Bd.method).1
  have X0 : Stand p l e room_1 s m #[(.int p1), (.int p2), (.int p3), (.int p4)] below meth c s₁ [] 0 0 := Stand.of_body Bd
  have e0 : s₁.heap = h0 := by rw [← hh, Bd.state]; rfl
  have N0 := Fr.nil n0
  have pre0 : ∀ t, Steps p.tables e below (s₁.setTop (mkF m 0 #[.val (.int p1), .val (.int p2), .val (.int p3), .val (.int p4), .unset, .unset, .unset, .unset, .unset, .unset, .unset, .unset, .unset] [])) t → Steps p.tables e below (s₁.setTop (entryFrame m #[(.int p1), (.int p2), (.int p3), (.int p4)] maxLocals)) t := fun t k => castTop (own_ef0 m p1 p2 p3 p4) k
  have k1 : ∀ t, Steps p.tables e below (s₁.setTop (mkF m 6 #[.val (.int p1), .val (.int p2), .val (.int p3), .val (.int p4), .val (.int (p1 &&& (7 : Int32))), .unset, .unset, .unset, .unset, .unset, .unset, .unset, .unset] [])) t → Steps p.tables e below (s₁.setTop (entryFrame m #[(.int p1), (.int p2), (.int p3), (.int p4)] maxLocals)) t := by
    intro t k
    refine pre0 t ?_
    show Steps p.tables e below (s₁.setTop (mkF m 0 #[.val (.int p1), .val (.int p2), .val (.int p3), .val (.int p4), .unset, .unset, .unset, .unset, .unset, .unset, .unset, .unset, .unset] [])) _
    refine XS.iloadN X0.here hx rfl (hb hby at_0) rfl ?_
    show Steps p.tables e below (s₁.setTop (mkF m 1 #[.val (.int p1), .val (.int p2), .val (.int p3), .val (.int p4), .unset, .unset, .unset, .unset, .unset, .unset, .unset, .unset, .unset] [(.int p1)])) _
    refine XS.bipush X0.here hx rfl (hb hby at_1) ?_
    show Steps p.tables e below (s₁.setTop (mkF m 3 #[.val (.int p1), .val (.int p2), .val (.int p3), .val (.int p4), .unset, .unset, .unset, .unset, .unset, .unset, .unset, .unset, .unset] [(.int (7 : Int32)), (.int p1)])) _
    refine XS.iand X0.here hx rfl (hb hby at_3) rfl ?_
    show Steps p.tables e below (s₁.setTop (mkF m 4 #[.val (.int p1), .val (.int p2), .val (.int p3), .val (.int p4), .unset, .unset, .unset, .unset, .unset, .unset, .unset, .unset, .unset] [(.int (p1 &&& (7 : Int32)))])) _
    refine XS.istore X0.here hx rfl (hb hby at_4) rfl (l' := #[.val (.int p1), .val (.int p2), .val (.int p3), .val (.int p4), .val (.int (p1 &&& (7 : Int32))), .unset, .unset, .unset, .unset, .unset, .unset, .unset, .unset]) rfl ?_
    exact k
  have sg167 : ∃ (vmju : Vm) (kkju : Nat) (Tju : State) (Lju : List Loc) (hju : Heap) (sju : Addr) (bju : Addr) (nju : Nat) (fju : Nat → Int32) (flju : Int32) (q7u : Slot) (q8u : Slot) (q9u : Slot), Stand p l e room_1 (s.setVm vmju) m #[(.int p1), (.int p2), (.int p3), (.int p4)] below meth c Tju Lju 4 116 ∧ Tju.heap = hju ∧ Fr n0 Lju ∧ n0 ≤ hju.size ∧ Old Z n0 hju ∧ s.Since vmju kkju ∧ kkju ≤ hju.size ∧ Z.Warmed39 vmju ∧ vmju.findClass "com/example/domicile/domicile/tei/TeiVocabularyMayBeRecordPinLaw" = some m.cls ∧ CHv Z own_EL vmju hju ∧ Exa Z hju sju "java/lang/String" ∧ Fld Z hju sju "java/lang/String" "value" "[B" (.ref bju) ∧ Fld Z hju sju "java/lang/String" "coder" "B" (.int (0 : Int32)) ∧ own_G Z hju bju .byte nju fju ∧ nju ≤ 28 ∧ ((flju = (1 : Int32) ∧ own_is nju fju own_tx0) ∨ (flju = (0 : Int32) ∧ ¬ own_is nju fju own_tx0)) ∧ (q7u = .unset ∨ (∃ v, q7u = .val (.ref v)) ∨ ∃ v, q7u = .val (.int v)) ∧ (q8u = .unset ∨ (∃ v, q8u = .val (.ref v)) ∨ ∃ v, q8u = .val (.int v)) ∧ (q9u = .unset ∨ (∃ v, q9u = .val (.ref v)) ∨ ∃ v, q9u = .val (.int v)) ∧ ∀ t, Steps p.tables e below (Tju.setTop (mkF m 338 #[.val (.int p1), .val (.int p2), .val (.int p3), .val (.int p4), .val (.int (p1 &&& (7 : Int32))), .val (.ref sju), .val (.int flju), q7u, q8u, q9u, .unset, .unset, .unset] [])) t → Steps p.tables e below (s₁.setTop (entryFrame m #[(.int p1), (.int p2), (.int p3), (.int p4)] maxLocals)) t := by
    have k2 : ∀ t, Steps p.tables e below (s₁.setTop (mkF m 8 #[.val (.int p1), .val (.int p2), .val (.int p3), .val (.int p4), .val (.int (p1 &&& (7 : Int32))), .unset, .unset, .unset, .unset, .unset, .unset, .unset, .unset] [(.int (p1 &&& (7 : Int32)))])) t → Steps p.tables e below (s₁.setTop (entryFrame m #[(.int p1), (.int p2), (.int p3), (.int p4)] maxLocals)) t := by
      intro t k
      refine k1 t ?_
      show Steps p.tables e below (s₁.setTop (mkF m 6 #[.val (.int p1), .val (.int p2), .val (.int p3), .val (.int p4), .val (.int (p1 &&& (7 : Int32))), .unset, .unset, .unset, .unset, .unset, .unset, .unset, .unset] [])) _
      refine XS.iload X0.here hx rfl (hb hby at_6) rfl ?_
      exact k
    by_cases hc8_3 : (p1 &&& (7 : Int32)) = (0 : Int32)
    · have k4 : ∀ t, Steps p.tables e below (s₁.setTop (mkF m 11 #[.val (.int p1), .val (.int p2), .val (.int p3), .val (.int p4), .val (.int (p1 &&& (7 : Int32))), .unset, .unset, .unset, .unset, .unset, .unset, .unset, .unset] [])) t → Steps p.tables e below (s₁.setTop (entryFrame m #[(.int p1), (.int p2), (.int p3), (.int p4)] maxLocals)) t := by
        intro t k
        refine k2 t ?_
        show Steps p.tables e below (s₁.setTop (mkF m 8 #[.val (.int p1), .val (.int p2), .val (.int p3), .val (.int p4), .val (.int (p1 &&& (7 : Int32))), .unset, .unset, .unset, .unset, .unset, .unset, .unset, .unset] [(.int (p1 &&& (7 : Int32)))])) _
        refine XS.ifNo X0.here hx rfl (hb hby at_8) rfl ((if0 _ _).trans (teq hc8_3).2) ?_
        exact k
      obtain ⟨lt5, T5, h5, lb5, k15, X5, e5, E5, Si5, hk5, Zw5, Ow5, Ea5, Fc5, Fv5, Gb5, Cl5, Li5, st5⟩ := own_ldcL (s := s) (vm0 := s.vm) (text := "http://www.tei-c.org/ns/1.0") (vs := own_tx0) (n := 27) (z := 27) X0 hx hZ hown hw (hw _ (List.mem_of_getElem? (i := 0) rfl)) (List.mem_of_getElem? (i := 3) rfl) e0 (own_since s 0) (Nat.zero_le _) hH0 (by decide +kernel) (by first | rfl | decide +kernel) rfl rfl (g := (mkF m 11 #[.val (.int p1), .val (.int p2), .val (.int p3), .val (.int p4), .val (.int (p1 &&& (7 : Int32))), .unset, .unset, .unset, .unset, .unset, .unset, .unset, .unset] [])) rfl (hb hby at_11) (cap := 108) (by decide +kernel) (by decide) (by decide) (by decide)
      have hZ : Z.Warmed39 (s.setVm T5.vm).vm := Zw5
      have hown : (s.setVm T5.vm).vm.findClass "com/example/domicile/domicile/tei/TeiVocabularyMayBeRecordPinLaw" = some m.cls := Ow5
      have Z5 : n0 ≤ h5.size := Nat.le_trans Z0 E5.1
      have K5 : Keep h0 h5 [] := (Keep.refl h0 []).ext E5
      have Xo5 := Xo.ext E5
      have k6 : ∀ t, Steps p.tables e below (T5.setTop (mkF m 13 #[.val (.int p1), .val (.int p2), .val (.int p3), .val (.int p4), .val (.int (p1 &&& (7 : Int32))), .unset, .unset, .unset, .unset, .unset, .unset, .unset, .unset] [(.ref lt5)])) t → Steps p.tables e below (s₁.setTop (entryFrame m #[(.int p1), (.int p2), (.int p3), (.int p4)] maxLocals)) t := fun t k => k4 t (st5 t k)
      have k7 : ∀ t, Steps p.tables e below (T5.setTop (mkF m 338 #[.val (.int p1), .val (.int p2), .val (.int p3), .val (.int p4), .val (.int (p1 &&& (7 : Int32))), .val (.ref lt5), .val (.int (1 : Int32)), .unset, .unset, .unset, .unset, .unset, .unset] [])) t → Steps p.tables e below (s₁.setTop (entryFrame m #[(.int p1), (.int p2), (.int p3), (.int p4)] maxLocals)) t := by
        intro t k
        refine k6 t ?_
        show Steps p.tables e below (T5.setTop (mkF m 13 #[.val (.int p1), .val (.int p2), .val (.int p3), .val (.int p4), .val (.int (p1 &&& (7 : Int32))), .unset, .unset, .unset, .unset, .unset, .unset, .unset, .unset] [(.ref lt5)])) _
        refine XS.astore X5.here hx rfl (hb hby at_13) rfl rfl (l' := #[.val (.int p1), .val (.int p2), .val (.int p3), .val (.int p4), .val (.int (p1 &&& (7 : Int32))), .val (.ref lt5), .unset, .unset, .unset, .unset, .unset, .unset, .unset]) rfl ?_
        show Steps p.tables e below (T5.setTop (mkF m 15 #[.val (.int p1), .val (.int p2), .val (.int p3), .val (.int p4), .val (.int (p1 &&& (7 : Int32))), .val (.ref lt5), .unset, .unset, .unset, .unset, .unset, .unset, .unset] [])) _
        refine XS.iconst X5.here hx rfl (hb hby at_15) ?_
        show Steps p.tables e below (T5.setTop (mkF m 16 #[.val (.int p1), .val (.int p2), .val (.int p3), .val (.int p4), .val (.int (p1 &&& (7 : Int32))), .val (.ref lt5), .unset, .unset, .unset, .unset, .unset, .unset, .unset] [(.int (1 : Int32))])) _
        refine XS.istore X5.here hx rfl (hb hby at_16) rfl (l' := #[.val (.int p1), .val (.int p2), .val (.int p3), .val (.int p4), .val (.int (p1 &&& (7 : Int32))), .val (.ref lt5), .val (.int (1 : Int32)), .unset, .unset, .unset, .unset, .unset, .unset]) rfl ?_
        show Steps p.tables e below (T5.setTop (mkF m 18 #[.val (.int p1), .val (.int p2), .val (.int p3), .val (.int p4), .val (.int (p1 &&& (7 : Int32))), .val (.ref lt5), .val (.int (1 : Int32)), .unset, .unset, .unset, .unset, .unset, .unset] [])) _
        refine XS.goto X5.here hx rfl (pc0 := 18) (pc' := 338) rfl (hb hby at_18) (by decide) (by decide) ?_
        exact k
      exact ⟨T5.vm, _, _, _, _, lt5, lb5, 27, (own_of own_tx0), (1 : Int32), (.unset), (.unset), (.unset), (X5.more (by decide) (by decide)), e5, N0, Z5, Xo5, Si5, (Nat.le_trans (Nat.le_refl _) (hk5)), hZ, hown, Cl5.1, Ea5, Fv5, Fc5, Gb5, (by omega), (Or.inl ⟨rfl, rfl, fun i hi => rfl⟩), (Or.inl rfl), (Or.inl rfl), (Or.inl rfl), k7⟩
    · have k8 : ∀ t, Steps p.tables e below (s₁.setTop (mkF m 24 #[.val (.int p1), .val (.int p2), .val (.int p3), .val (.int p4), .val (.int (p1 &&& (7 : Int32))), .unset, .unset, .unset, .unset, .unset, .unset, .unset, .unset] [(.int (1 : Int32)), (.int (p1 &&& (7 : Int32)))])) t → Steps p.tables e below (s₁.setTop (entryFrame m #[(.int p1), (.int p2), (.int p3), (.int p4)] maxLocals)) t := by
        intro t k
        refine k2 t ?_
        show Steps p.tables e below (s₁.setTop (mkF m 8 #[.val (.int p1), .val (.int p2), .val (.int p3), .val (.int p4), .val (.int (p1 &&& (7 : Int32))), .unset, .unset, .unset, .unset, .unset, .unset, .unset, .unset] [(.int (p1 &&& (7 : Int32)))])) _
        refine XS.ifYes X0.here hx rfl (pc0 := 8) (pc' := 21) rfl (hb hby at_8) rfl ((if0 _ _).trans (feq hc8_3).2) (by decide) (by decide) ?_
        show Steps p.tables e below (s₁.setTop (mkF m 21 #[.val (.int p1), .val (.int p2), .val (.int p3), .val (.int p4), .val (.int (p1 &&& (7 : Int32))), .unset, .unset, .unset, .unset, .unset, .unset, .unset, .unset] [])) _
        refine XS.iload X0.here hx rfl (hb hby at_21) rfl ?_
        show Steps p.tables e below (s₁.setTop (mkF m 23 #[.val (.int p1), .val (.int p2), .val (.int p3), .val (.int p4), .val (.int (p1 &&& (7 : Int32))), .unset, .unset, .unset, .unset, .unset, .unset, .unset, .unset] [(.int (p1 &&& (7 : Int32)))])) _
        refine XS.iconst X0.here hx rfl (hb hby at_23) ?_
        exact k
      by_cases hc24_9 : (p1 &&& (7 : Int32)) = (1 : Int32)
      · have k10 : ∀ t, Steps p.tables e below (s₁.setTop (mkF m 29 #[.val (.int p1), .val (.int p2), .val (.int p3), .val (.int p4), .val (.int (p1 &&& (7 : Int32))), .unset, .unset, .unset, .unset, .unset, .unset, .unset, .unset] [(.int (27 : Int32))])) t → Steps p.tables e below (s₁.setTop (entryFrame m #[(.int p1), (.int p2), (.int p3), (.int p4)] maxLocals)) t := by
          intro t k
          refine k8 t ?_
          show Steps p.tables e below (s₁.setTop (mkF m 24 #[.val (.int p1), .val (.int p2), .val (.int p3), .val (.int p4), .val (.int (p1 &&& (7 : Int32))), .unset, .unset, .unset, .unset, .unset, .unset, .unset, .unset] [(.int (1 : Int32)), (.int (p1 &&& (7 : Int32)))])) _
          refine XS.icmpNo X0.here hx rfl (hb hby at_24) rfl (teq hc24_9).2 ?_
          show Steps p.tables e below (s₁.setTop (mkF m 27 #[.val (.int p1), .val (.int p2), .val (.int p3), .val (.int p4), .val (.int (p1 &&& (7 : Int32))), .unset, .unset, .unset, .unset, .unset, .unset, .unset, .unset] [])) _
          refine XS.bipush X0.here hx rfl (hb hby at_27) ?_
          exact k
        obtain ⟨T11, h11, X11, e11, E11, A11, st11⟩ := own_newC X0 hx hZ (hw _ (List.mem_of_getElem? (i := 8) rfl)) e0 (g := (mkF m 29 #[.val (.int p1), .val (.int p2), .val (.int p3), .val (.int p4), .val (.int (p1 &&& (7 : Int32))), .unset, .unset, .unset, .unset, .unset, .unset, .unset, .unset] [(.int (27 : Int32))])) rfl (hb hby at_29) rfl (n := 27) own_i27 (cap := 27) (by omega) (by decide) (by decide) (by decide)
        obtain ⟨b11, g11⟩ : ∃ z, z = h0.size := ⟨_, rfl⟩
        rw [← g11] at A11 st11
        have ge11 : n0 ≤ b11 := Nat.le_trans Z0 (Nat.le_of_eq g11.symm)
        have bo11 : h0.size ≤ b11 := Nat.le_trans (Keep.refl h0 []).1 (Nat.le_of_eq g11.symm)
        have Z11 : n0 ≤ h11.size := Nat.le_trans Z0 E11.1
        have K11 : Keep h0 h11 [] := (Keep.refl h0 []).ext E11
        have Xo11 := Xo.ext E11
        have k12 : ∀ t, Steps p.tables e below (T11.setTop (mkF m 31 #[.val (.int p1), .val (.int p2), .val (.int p3), .val (.int p4), .val (.int (p1 &&& (7 : Int32))), .unset, .unset, .unset, .unset, .unset, .unset, .unset, .unset] [(.ref b11)])) t → Steps p.tables e below (s₁.setTop (entryFrame m #[(.int p1), (.int p2), (.int p3), (.int p4)] maxLocals)) t := fun t k => k10 t (st11 t k)
        have k13 : ∀ t, Steps p.tables e below (T11.setTop (mkF m 35 #[.val (.int p1), .val (.int p2), .val (.int p3), .val (.int p4), .val (.int (p1 &&& (7 : Int32))), .unset, .unset, .unset, .unset, .unset, .unset, .unset, .unset] [(.int (104 : Int32)), (.int (0 : Int32)), (.ref b11), (.ref b11)])) t → Steps p.tables e below (s₁.setTop (entryFrame m #[(.int p1), (.int p2), (.int p3), (.int p4)] maxLocals)) t := by
          intro t k
          refine k12 t ?_
          show Steps p.tables e below (T11.setTop (mkF m 31 #[.val (.int p1), .val (.int p2), .val (.int p3), .val (.int p4), .val (.int (p1 &&& (7 : Int32))), .unset, .unset, .unset, .unset, .unset, .unset, .unset, .unset] [(.ref b11)])) _
          refine XS.dup X11.here hx rfl (hb hby at_31) rfl rfl ?_
          show Steps p.tables e below (T11.setTop (mkF m 32 #[.val (.int p1), .val (.int p2), .val (.int p3), .val (.int p4), .val (.int (p1 &&& (7 : Int32))), .unset, .unset, .unset, .unset, .unset, .unset, .unset, .unset] [(.ref b11), (.ref b11)])) _
          refine XS.iconst X11.here hx rfl (hb hby at_32) ?_
          show Steps p.tables e below (T11.setTop (mkF m 33 #[.val (.int p1), .val (.int p2), .val (.int p3), .val (.int p4), .val (.int (p1 &&& (7 : Int32))), .unset, .unset, .unset, .unset, .unset, .unset, .unset, .unset] [(.int (0 : Int32)), (.ref b11), (.ref b11)])) _
          refine XS.bipush X11.here hx rfl (hb hby at_33) ?_
          exact k
        obtain ⟨T14, h14, X14, e14, W14, G14, st14⟩ := own_stC X11 hx hZ e11 A11 (j := (0 : Int32)) own_i0 (by omega) (g := (mkF m 35 #[.val (.int p1), .val (.int p2), .val (.int p3), .val (.int p4), .val (.int (p1 &&& (7 : Int32))), .unset, .unset, .unset, .unset, .unset, .unset, .unset, .unset] [(.int (104 : Int32)), (.int (0 : Int32)), (.ref b11), (.ref b11)])) rfl rfl (hb hby at_35)
        have N14 := Fr.snoc X14 N0 ge11
        have K14 : Keep h0 h14 [] := K11.wr W14 (Or.inr bo11)
        have Z14 : n0 ≤ h14.size := Nat.le_trans Z11 (Keep.of_wr W14).1
        have Xo14 := Xo11.wr W14 ge11
        have k15 : ∀ t, Steps p.tables e below (T14.setTop (mkF m 36 #[.val (.int p1), .val (.int p2), .val (.int p3), .val (.int p4), .val (.int (p1 &&& (7 : Int32))), .unset, .unset, .unset, .unset, .unset, .unset, .unset, .unset] [(.ref b11)])) t → Steps p.tables e below (s₁.setTop (entryFrame m #[(.int p1), (.int p2), (.int p3), (.int p4)] maxLocals)) t := fun t k => k13 t (st14 t k)
        have k16 : ∀ t, Steps p.tables e below (T14.setTop (mkF m 40 #[.val (.int p1), .val (.int p2), .val (.int p3), .val (.int p4), .val (.int (p1 &&& (7 : Int32))), .unset, .unset, .unset, .unset, .unset, .unset, .unset, .unset] [(.int (116 : Int32)), (.int (1 : Int32)), (.ref b11), (.ref b11)])) t → Steps p.tables e below (s₁.setTop (entryFrame m #[(.int p1), (.int p2), (.int p3), (.int p4)] maxLocals)) t := by
          intro t k
          refine k15 t ?_
          show Steps p.tables e below (T14.setTop (mkF m 36 #[.val (.int p1), .val (.int p2), .val (.int p3), .val (.int p4), .val (.int (p1 &&& (7 : Int32))), .unset, .unset, .unset, .unset, .unset, .unset, .unset, .unset] [(.ref b11)])) _
          refine XS.dup X14.here hx rfl (hb hby at_36) rfl rfl ?_
          show Steps p.tables e below (T14.setTop (mkF m 37 #[.val (.int p1), .val (.int p2), .val (.int p3), .val (.int p4), .val (.int (p1 &&& (7 : Int32))), .unset, .unset, .unset, .unset, .unset, .unset, .unset, .unset] [(.ref b11), (.ref b11)])) _
          refine XS.iconst X14.here hx rfl (hb hby at_37) ?_
          show Steps p.tables e below (T14.setTop (mkF m 38 #[.val (.int p1), .val (.int p2), .val (.int p3), .val (.int p4), .val (.int (p1 &&& (7 : Int32))), .unset, .unset, .unset, .unset, .unset, .unset, .unset, .unset] [(.int (1 : Int32)), (.ref b11), (.ref b11)])) _
          refine XS.bipush X14.here hx rfl (hb hby at_38) ?_
          exact k
        obtain ⟨T17, h17, X17, e17, W17, G17, st17⟩ := own_stC X14 hx hZ e14 G14 (j := (1 : Int32)) own_i1 (by omega) (g := (mkF m 40 #[.val (.int p1), .val (.int p2), .val (.int p3), .val (.int p4), .val (.int (p1 &&& (7 : Int32))), .unset, .unset, .unset, .unset, .unset, .unset, .unset, .unset] [(.int (116 : Int32)), (.int (1 : Int32)), (.ref b11), (.ref b11)])) rfl rfl (hb hby at_40)
        have N17 := Fr.snoc X17 N14 ge11
        have K17 : Keep h0 h17 [] := K14.wr W17 (Or.inr bo11)
        have Z17 : n0 ≤ h17.size := Nat.le_trans Z14 (Keep.of_wr W17).1
        have Xo17 := Xo14.wr W17 ge11
        have k18 : ∀ t, Steps p.tables e below (T17.setTop (mkF m 41 #[.val (.int p1), .val (.int p2), .val (.int p3), .val (.int p4), .val (.int (p1 &&& (7 : Int32))), .unset, .unset, .unset, .unset, .unset, .unset, .unset, .unset] [(.ref b11)])) t → Steps p.tables e below (s₁.setTop (entryFrame m #[(.int p1), (.int p2), (.int p3), (.int p4)] maxLocals)) t := fun t k => k16 t (st17 t k)
        have k19 : ∀ t, Steps p.tables e below (T17.setTop (mkF m 45 #[.val (.int p1), .val (.int p2), .val (.int p3), .val (.int p4), .val (.int (p1 &&& (7 : Int32))), .unset, .unset, .unset, .unset, .unset, .unset, .unset, .unset] [(.int (116 : Int32)), (.int (2 : Int32)), (.ref b11), (.ref b11)])) t → Steps p.tables e below (s₁.setTop (entryFrame m #[(.int p1), (.int p2), (.int p3), (.int p4)] maxLocals)) t := by
          intro t k
          refine k18 t ?_
          show Steps p.tables e below (T17.setTop (mkF m 41 #[.val (.int p1), .val (.int p2), .val (.int p3), .val (.int p4), .val (.int (p1 &&& (7 : Int32))), .unset, .unset, .unset, .unset, .unset, .unset, .unset, .unset] [(.ref b11)])) _
          refine XS.dup X17.here hx rfl (hb hby at_41) rfl rfl ?_
          show Steps p.tables e below (T17.setTop (mkF m 42 #[.val (.int p1), .val (.int p2), .val (.int p3), .val (.int p4), .val (.int (p1 &&& (7 : Int32))), .unset, .unset, .unset, .unset, .unset, .unset, .unset, .unset] [(.ref b11), (.ref b11)])) _
          refine XS.iconst X17.here hx rfl (hb hby at_42) ?_
          show Steps p.tables e below (T17.setTop (mkF m 43 #[.val (.int p1), .val (.int p2), .val (.int p3), .val (.int p4), .val (.int (p1 &&& (7 : Int32))), .unset, .unset, .unset, .unset, .unset, .unset, .unset, .unset] [(.int (2 : Int32)), (.ref b11), (.ref b11)])) _
          refine XS.bipush X17.here hx rfl (hb hby at_43) ?_
          exact k
        obtain ⟨T20, h20, X20, e20, W20, G20, st20⟩ := own_stC X17 hx hZ e17 G17 (j := (2 : Int32)) own_i2 (by omega) (g := (mkF m 45 #[.val (.int p1), .val (.int p2), .val (.int p3), .val (.int p4), .val (.int (p1 &&& (7 : Int32))), .unset, .unset, .unset, .unset, .unset, .unset, .unset, .unset] [(.int (116 : Int32)), (.int (2 : Int32)), (.ref b11), (.ref b11)])) rfl rfl (hb hby at_45)
        have N20 := Fr.snoc X20 N17 ge11
        have K20 : Keep h0 h20 [] := K17.wr W20 (Or.inr bo11)
        have Z20 : n0 ≤ h20.size := Nat.le_trans Z17 (Keep.of_wr W20).1
        have Xo20 := Xo17.wr W20 ge11
        have k21 : ∀ t, Steps p.tables e below (T20.setTop (mkF m 46 #[.val (.int p1), .val (.int p2), .val (.int p3), .val (.int p4), .val (.int (p1 &&& (7 : Int32))), .unset, .unset, .unset, .unset, .unset, .unset, .unset, .unset] [(.ref b11)])) t → Steps p.tables e below (s₁.setTop (entryFrame m #[(.int p1), (.int p2), (.int p3), (.int p4)] maxLocals)) t := fun t k => k19 t (st20 t k)
        have k22 : ∀ t, Steps p.tables e below (T20.setTop (mkF m 50 #[.val (.int p1), .val (.int p2), .val (.int p3), .val (.int p4), .val (.int (p1 &&& (7 : Int32))), .unset, .unset, .unset, .unset, .unset, .unset, .unset, .unset] [(.int (112 : Int32)), (.int (3 : Int32)), (.ref b11), (.ref b11)])) t → Steps p.tables e below (s₁.setTop (entryFrame m #[(.int p1), (.int p2), (.int p3), (.int p4)] maxLocals)) t := by
          intro t k
          refine k21 t ?_
          show Steps p.tables e below (T20.setTop (mkF m 46 #[.val (.int p1), .val (.int p2), .val (.int p3), .val (.int p4), .val (.int (p1 &&& (7 : Int32))), .unset, .unset, .unset, .unset, .unset, .unset, .unset, .unset] [(.ref b11)])) _
          refine XS.dup X20.here hx rfl (hb hby at_46) rfl rfl ?_
          show Steps p.tables e below (T20.setTop (mkF m 47 #[.val (.int p1), .val (.int p2), .val (.int p3), .val (.int p4), .val (.int (p1 &&& (7 : Int32))), .unset, .unset, .unset, .unset, .unset, .unset, .unset, .unset] [(.ref b11), (.ref b11)])) _
          refine XS.iconst X20.here hx rfl (hb hby at_47) ?_
          show Steps p.tables e below (T20.setTop (mkF m 48 #[.val (.int p1), .val (.int p2), .val (.int p3), .val (.int p4), .val (.int (p1 &&& (7 : Int32))), .unset, .unset, .unset, .unset, .unset, .unset, .unset, .unset] [(.int (3 : Int32)), (.ref b11), (.ref b11)])) _
          refine XS.bipush X20.here hx rfl (hb hby at_48) ?_
          exact k
        obtain ⟨T23, h23, X23, e23, W23, G23, st23⟩ := own_stC X20 hx hZ e20 G20 (j := (3 : Int32)) own_i3 (by omega) (g := (mkF m 50 #[.val (.int p1), .val (.int p2), .val (.int p3), .val (.int p4), .val (.int (p1 &&& (7 : Int32))), .unset, .unset, .unset, .unset, .unset, .unset, .unset, .unset] [(.int (112 : Int32)), (.int (3 : Int32)), (.ref b11), (.ref b11)])) rfl rfl (hb hby at_50)
        have N23 := Fr.snoc X23 N20 ge11
        have K23 : Keep h0 h23 [] := K20.wr W23 (Or.inr bo11)
        have Z23 : n0 ≤ h23.size := Nat.le_trans Z20 (Keep.of_wr W23).1
        have Xo23 := Xo20.wr W23 ge11
        have k24 : ∀ t, Steps p.tables e below (T23.setTop (mkF m 51 #[.val (.int p1), .val (.int p2), .val (.int p3), .val (.int p4), .val (.int (p1 &&& (7 : Int32))), .unset, .unset, .unset, .unset, .unset, .unset, .unset, .unset] [(.ref b11)])) t → Steps p.tables e below (s₁.setTop (entryFrame m #[(.int p1), (.int p2), (.int p3), (.int p4)] maxLocals)) t := fun t k => k22 t (st23 t k)
        have k25 : ∀ t, Steps p.tables e below (T23.setTop (mkF m 55 #[.val (.int p1), .val (.int p2), .val (.int p3), .val (.int p4), .val (.int (p1 &&& (7 : Int32))), .unset, .unset, .unset, .unset, .unset, .unset, .unset, .unset] [(.int (58 : Int32)), (.int (4 : Int32)), (.ref b11), (.ref b11)])) t → Steps p.tables e below (s₁.setTop (entryFrame m #[(.int p1), (.int p2), (.int p3), (.int p4)] maxLocals)) t := by
          intro t k
          refine k24 t ?_
          show Steps p.tables e below (T23.setTop (mkF m 51 #[.val (.int p1), .val (.int p2), .val (.int p3), .val (.int p4), .val (.int (p1 &&& (7 : Int32))), .unset, .unset, .unset, .unset, .unset, .unset, .unset, .unset] [(.ref b11)])) _
          refine XS.dup X23.here hx rfl (hb hby at_51) rfl rfl ?_
          show Steps p.tables e below (T23.setTop (mkF m 52 #[.val (.int p1), .val (.int p2), .val (.int p3), .val (.int p4), .val (.int (p1 &&& (7 : Int32))), .unset, .unset, .unset, .unset, .unset, .unset, .unset, .unset] [(.ref b11), (.ref b11)])) _
          refine XS.iconst X23.here hx rfl (hb hby at_52) ?_
          show Steps p.tables e below (T23.setTop (mkF m 53 #[.val (.int p1), .val (.int p2), .val (.int p3), .val (.int p4), .val (.int (p1 &&& (7 : Int32))), .unset, .unset, .unset, .unset, .unset, .unset, .unset, .unset] [(.int (4 : Int32)), (.ref b11), (.ref b11)])) _
          refine XS.bipush X23.here hx rfl (hb hby at_53) ?_
          exact k
        obtain ⟨T26, h26, X26, e26, W26, G26, st26⟩ := own_stC X23 hx hZ e23 G23 (j := (4 : Int32)) own_i4 (by omega) (g := (mkF m 55 #[.val (.int p1), .val (.int p2), .val (.int p3), .val (.int p4), .val (.int (p1 &&& (7 : Int32))), .unset, .unset, .unset, .unset, .unset, .unset, .unset, .unset] [(.int (58 : Int32)), (.int (4 : Int32)), (.ref b11), (.ref b11)])) rfl rfl (hb hby at_55)
        have N26 := Fr.snoc X26 N23 ge11
        have K26 : Keep h0 h26 [] := K23.wr W26 (Or.inr bo11)
        have Z26 : n0 ≤ h26.size := Nat.le_trans Z23 (Keep.of_wr W26).1
        have Xo26 := Xo23.wr W26 ge11
        have k27 : ∀ t, Steps p.tables e below (T26.setTop (mkF m 56 #[.val (.int p1), .val (.int p2), .val (.int p3), .val (.int p4), .val (.int (p1 &&& (7 : Int32))), .unset, .unset, .unset, .unset, .unset, .unset, .unset, .unset] [(.ref b11)])) t → Steps p.tables e below (s₁.setTop (entryFrame m #[(.int p1), (.int p2), (.int p3), (.int p4)] maxLocals)) t := fun t k => k25 t (st26 t k)
        have k28 : ∀ t, Steps p.tables e below (T26.setTop (mkF m 60 #[.val (.int p1), .val (.int p2), .val (.int p3), .val (.int p4), .val (.int (p1 &&& (7 : Int32))), .unset, .unset, .unset, .unset, .unset, .unset, .unset, .unset] [(.int (47 : Int32)), (.int (5 : Int32)), (.ref b11), (.ref b11)])) t → Steps p.tables e below (s₁.setTop (entryFrame m #[(.int p1), (.int p2), (.int p3), (.int p4)] maxLocals)) t := by
          intro t k
          refine k27 t ?_
          show Steps p.tables e below (T26.setTop (mkF m 56 #[.val (.int p1), .val (.int p2), .val (.int p3), .val (.int p4), .val (.int (p1 &&& (7 : Int32))), .unset, .unset, .unset, .unset, .unset, .unset, .unset, .unset] [(.ref b11)])) _
          refine XS.dup X26.here hx rfl (hb hby at_56) rfl rfl ?_
          show Steps p.tables e below (T26.setTop (mkF m 57 #[.val (.int p1), .val (.int p2), .val (.int p3), .val (.int p4), .val (.int (p1 &&& (7 : Int32))), .unset, .unset, .unset, .unset, .unset, .unset, .unset, .unset] [(.ref b11), (.ref b11)])) _
          refine XS.iconst X26.here hx rfl (hb hby at_57) ?_
          show Steps p.tables e below (T26.setTop (mkF m 58 #[.val (.int p1), .val (.int p2), .val (.int p3), .val (.int p4), .val (.int (p1 &&& (7 : Int32))), .unset, .unset, .unset, .unset, .unset, .unset, .unset, .unset] [(.int (5 : Int32)), (.ref b11), (.ref b11)])) _
          refine XS.bipush X26.here hx rfl (hb hby at_58) ?_
          exact k
        obtain ⟨T29, h29, X29, e29, W29, G29, st29⟩ := own_stC X26 hx hZ e26 G26 (j := (5 : Int32)) own_i5 (by omega) (g := (mkF m 60 #[.val (.int p1), .val (.int p2), .val (.int p3), .val (.int p4), .val (.int (p1 &&& (7 : Int32))), .unset, .unset, .unset, .unset, .unset, .unset, .unset, .unset] [(.int (47 : Int32)), (.int (5 : Int32)), (.ref b11), (.ref b11)])) rfl rfl (hb hby at_60)
        have N29 := Fr.snoc X29 N26 ge11
        have K29 : Keep h0 h29 [] := K26.wr W29 (Or.inr bo11)
        have Z29 : n0 ≤ h29.size := Nat.le_trans Z26 (Keep.of_wr W29).1
        have Xo29 := Xo26.wr W29 ge11
        have k30 : ∀ t, Steps p.tables e below (T29.setTop (mkF m 61 #[.val (.int p1), .val (.int p2), .val (.int p3), .val (.int p4), .val (.int (p1 &&& (7 : Int32))), .unset, .unset, .unset, .unset, .unset, .unset, .unset, .unset] [(.ref b11)])) t → Steps p.tables e below (s₁.setTop (entryFrame m #[(.int p1), (.int p2), (.int p3), (.int p4)] maxLocals)) t := fun t k => k28 t (st29 t k)
        have k31 : ∀ t, Steps p.tables e below (T29.setTop (mkF m 66 #[.val (.int p1), .val (.int p2), .val (.int p3), .val (.int p4), .val (.int (p1 &&& (7 : Int32))), .unset, .unset, .unset, .unset, .unset, .unset, .unset, .unset] [(.int (47 : Int32)), (.int (6 : Int32)), (.ref b11), (.ref b11)])) t → Steps p.tables e below (s₁.setTop (entryFrame m #[(.int p1), (.int p2), (.int p3), (.int p4)] maxLocals)) t := by
          intro t k
          refine k30 t ?_
          show Steps p.tables e below (T29.setTop (mkF m 61 #[.val (.int p1), .val (.int p2), .val (.int p3), .val (.int p4), .val (.int (p1 &&& (7 : Int32))), .unset, .unset, .unset, .unset, .unset, .unset, .unset, .unset] [(.ref b11)])) _
          refine XS.dup X29.here hx rfl (hb hby at_61) rfl rfl ?_
          show Steps p.tables e below (T29.setTop (mkF m 62 #[.val (.int p1), .val (.int p2), .val (.int p3), .val (.int p4), .val (.int (p1 &&& (7 : Int32))), .unset, .unset, .unset, .unset, .unset, .unset, .unset, .unset] [(.ref b11), (.ref b11)])) _
          refine XS.bipush X29.here hx rfl (hb hby at_62) ?_
          show Steps p.tables e below (T29.setTop (mkF m 64 #[.val (.int p1), .val (.int p2), .val (.int p3), .val (.int p4), .val (.int (p1 &&& (7 : Int32))), .unset, .unset, .unset, .unset, .unset, .unset, .unset, .unset] [(.int (6 : Int32)), (.ref b11), (.ref b11)])) _
          refine XS.bipush X29.here hx rfl (hb hby at_64) ?_
          exact k
        obtain ⟨T32, h32, X32, e32, W32, G32, st32⟩ := own_stC X29 hx hZ e29 G29 (j := (6 : Int32)) own_i6 (by omega) (g := (mkF m 66 #[.val (.int p1), .val (.int p2), .val (.int p3), .val (.int p4), .val (.int (p1 &&& (7 : Int32))), .unset, .unset, .unset, .unset, .unset, .unset, .unset, .unset] [(.int (47 : Int32)), (.int (6 : Int32)), (.ref b11), (.ref b11)])) rfl rfl (hb hby at_66)
        have N32 := Fr.snoc X32 N29 ge11
        have K32 : Keep h0 h32 [] := K29.wr W32 (Or.inr bo11)
        have Z32 : n0 ≤ h32.size := Nat.le_trans Z29 (Keep.of_wr W32).1
        have Xo32 := Xo29.wr W32 ge11
        have k33 : ∀ t, Steps p.tables e below (T32.setTop (mkF m 67 #[.val (.int p1), .val (.int p2), .val (.int p3), .val (.int p4), .val (.int (p1 &&& (7 : Int32))), .unset, .unset, .unset, .unset, .unset, .unset, .unset, .unset] [(.ref b11)])) t → Steps p.tables e below (s₁.setTop (entryFrame m #[(.int p1), (.int p2), (.int p3), (.int p4)] maxLocals)) t := fun t k => k31 t (st32 t k)
        have k34 : ∀ t, Steps p.tables e below (T32.setTop (mkF m 72 #[.val (.int p1), .val (.int p2), .val (.int p3), .val (.int p4), .val (.int (p1 &&& (7 : Int32))), .unset, .unset, .unset, .unset, .unset, .unset, .unset, .unset] [(.int (119 : Int32)), (.int (7 : Int32)), (.ref b11), (.ref b11)])) t → Steps p.tables e below (s₁.setTop (entryFrame m #[(.int p1), (.int p2), (.int p3), (.int p4)] maxLocals)) t := by
          intro t k
          refine k33 t ?_
          show Steps p.tables e below (T32.setTop (mkF m 67 #[.val (.int p1), .val (.int p2), .val (.int p3), .val (.int p4), .val (.int (p1 &&& (7 : Int32))), .unset, .unset, .unset, .unset, .unset, .unset, .unset, .unset] [(.ref b11)])) _
          refine XS.dup X32.here hx rfl (hb hby at_67) rfl rfl ?_
          show Steps p.tables e below (T32.setTop (mkF m 68 #[.val (.int p1), .val (.int p2), .val (.int p3), .val (.int p4), .val (.int (p1 &&& (7 : Int32))), .unset, .unset, .unset, .unset, .unset, .unset, .unset, .unset] [(.ref b11), (.ref b11)])) _
          refine XS.bipush X32.here hx rfl (hb hby at_68) ?_
          show Steps p.tables e below (T32.setTop (mkF m 70 #[.val (.int p1), .val (.int p2), .val (.int p3), .val (.int p4), .val (.int (p1 &&& (7 : Int32))), .unset, .unset, .unset, .unset, .unset, .unset, .unset, .unset] [(.int (7 : Int32)), (.ref b11), (.ref b11)])) _
          refine XS.bipush X32.here hx rfl (hb hby at_70) ?_
          exact k
        obtain ⟨T35, h35, X35, e35, W35, G35, st35⟩ := own_stC X32 hx hZ e32 G32 (j := (7 : Int32)) own_i7 (by omega) (g := (mkF m 72 #[.val (.int p1), .val (.int p2), .val (.int p3), .val (.int p4), .val (.int (p1 &&& (7 : Int32))), .unset, .unset, .unset, .unset, .unset, .unset, .unset, .unset] [(.int (119 : Int32)), (.int (7 : Int32)), (.ref b11), (.ref b11)])) rfl rfl (hb hby at_72)
        have N35 := Fr.snoc X35 N32 ge11
        have K35 : Keep h0 h35 [] := K32.wr W35 (Or.inr bo11)
        have Z35 : n0 ≤ h35.size := Nat.le_trans Z32 (Keep.of_wr W35).1
        have Xo35 := Xo32.wr W35 ge11
        have k36 : ∀ t, Steps p.tables e below (T35.setTop (mkF m 73 #[.val (.int p1), .val (.int p2), .val (.int p3), .val (.int p4), .val (.int (p1 &&& (7 : Int32))), .unset, .unset, .unset, .unset, .unset, .unset, .unset, .unset] [(.ref b11)])) t → Steps p.tables e below (s₁.setTop (entryFrame m #[(.int p1), (.int p2), (.int p3), (.int p4)] maxLocals)) t := fun t k => k34 t (st35 t k)
        have k37 : ∀ t, Steps p.tables e below (T35.setTop (mkF m 78 #[.val (.int p1), .val (.int p2), .val (.int p3), .val (.int p4), .val (.int (p1 &&& (7 : Int32))), .unset, .unset, .unset, .unset, .unset, .unset, .unset, .unset] [(.int (119 : Int32)), (.int (8 : Int32)), (.ref b11), (.ref b11)])) t → Steps p.tables e below (s₁.setTop (entryFrame m #[(.int p1), (.int p2), (.int p3), (.int p4)] maxLocals)) t := by
          intro t k
          refine k36 t ?_
          show Steps p.tables e below (T35.setTop (mkF m 73 #[.val (.int p1), .val (.int p2), .val (.int p3), .val (.int p4), .val (.int (p1 &&& (7 : Int32))), .unset, .unset, .unset, .unset, .unset, .unset, .unset, .unset] [(.ref b11)])) _
          refine XS.dup X35.here hx rfl (hb hby at_73) rfl rfl ?_
          show Steps p.tables e below (T35.setTop (mkF m 74 #[.val (.int p1), .val (.int p2), .val (.int p3), .val (.int p4), .val (.int (p1 &&& (7 : Int32))), .unset, .unset, .unset, .unset, .unset, .unset, .unset, .unset] [(.ref b11), (.ref b11)])) _
          refine XS.bipush X35.here hx rfl (hb hby at_74) ?_
          show Steps p.tables e below (T35.setTop (mkF m 76 #[.val (.int p1), .val (.int p2), .val (.int p3), .val (.int p4), .val (.int (p1 &&& (7 : Int32))), .unset, .unset, .unset, .unset, .unset, .unset, .unset, .unset] [(.int (8 : Int32)), (.ref b11), (.ref b11)])) _
          refine XS.bipush X35.here hx rfl (hb hby at_76) ?_
          exact k
        obtain ⟨T38, h38, X38, e38, W38, G38, st38⟩ := own_stC X35 hx hZ e35 G35 (j := (8 : Int32)) own_i8 (by omega) (g := (mkF m 78 #[.val (.int p1), .val (.int p2), .val (.int p3), .val (.int p4), .val (.int (p1 &&& (7 : Int32))), .unset, .unset, .unset, .unset, .unset, .unset, .unset, .unset] [(.int (119 : Int32)), (.int (8 : Int32)), (.ref b11), (.ref b11)])) rfl rfl (hb hby at_78)
        have N38 := Fr.snoc X38 N35 ge11
        have K38 : Keep h0 h38 [] := K35.wr W38 (Or.inr bo11)
        have Z38 : n0 ≤ h38.size := Nat.le_trans Z35 (Keep.of_wr W38).1
        have Xo38 := Xo35.wr W38 ge11
        have k39 : ∀ t, Steps p.tables e below (T38.setTop (mkF m 79 #[.val (.int p1), .val (.int p2), .val (.int p3), .val (.int p4), .val (.int (p1 &&& (7 : Int32))), .unset, .unset, .unset, .unset, .unset, .unset, .unset, .unset] [(.ref b11)])) t → Steps p.tables e below (s₁.setTop (entryFrame m #[(.int p1), (.int p2), (.int p3), (.int p4)] maxLocals)) t := fun t k => k37 t (st38 t k)
        have k40 : ∀ t, Steps p.tables e below (T38.setTop (mkF m 84 #[.val (.int p1), .val (.int p2), .val (.int p3), .val (.int p4), .val (.int (p1 &&& (7 : Int32))), .unset, .unset, .unset, .unset, .unset, .unset, .unset, .unset] [(.int (119 : Int32)), (.int (9 : Int32)), (.ref b11), (.ref b11)])) t → Steps p.tables e below (s₁.setTop (entryFrame m #[(.int p1), (.int p2), (.int p3), (.int p4)] maxLocals)) t := by
          intro t k
          refine k39 t ?_
          show Steps p.tables e below (T38.setTop (mkF m 79 #[.val (.int p1), .val (.int p2), .val (.int p3), .val (.int p4), .val (.int (p1 &&& (7 : Int32))), .unset, .unset, .unset, .unset, .unset, .unset, .unset, .unset] [(.ref b11)])) _
          refine XS.dup X38.here hx rfl (hb hby at_79) rfl rfl ?_
          show Steps p.tables e below (T38.setTop (mkF m 80 #[.val (.int p1), .val (.int p2), .val (.int p3), .val (.int p4), .val (.int (p1 &&& (7 : Int32))), .unset, .unset, .unset, .unset, .unset, .unset, .unset, .unset] [(.ref b11), (.ref b11)])) _
          refine XS.bipush X38.here hx rfl (hb hby at_80) ?_
          show Steps p.tables e below (T38.setTop (mkF m 82 #[.val (.int p1), .val (.int p2), .val (.int p3), .val (.int p4), .val (.int (p1 &&& (7 : Int32))), .unset, .unset, .unset, .unset, .unset, .unset, .unset, .unset] [(.int (9 : Int32)), (.ref b11), (.ref b11)])) _
          refine XS.bipush X38.here hx rfl (hb hby at_82) ?_
          exact k
        obtain ⟨T41, h41, X41, e41, W41, G41, st41⟩ := own_stC X38 hx hZ e38 G38 (j := (9 : Int32)) own_i9 (by omega) (g := (mkF m 84 #[.val (.int p1), .val (.int p2), .val (.int p3), .val (.int p4), .val (.int (p1 &&& (7 : Int32))), .unset, .unset, .unset, .unset, .unset, .unset, .unset, .unset] [(.int (119 : Int32)), (.int (9 : Int32)), (.ref b11), (.ref b11)])) rfl rfl (hb hby at_84)
        have N41 := Fr.snoc X41 N38 ge11
        have K41 : Keep h0 h41 [] := K38.wr W41 (Or.inr bo11)
        have Z41 : n0 ≤ h41.size := Nat.le_trans Z38 (Keep.of_wr W41).1
        have Xo41 := Xo38.wr W41 ge11
        have k42 : ∀ t, Steps p.tables e below (T41.setTop (mkF m 85 #[.val (.int p1), .val (.int p2), .val (.int p3), .val (.int p4), .val (.int (p1 &&& (7 : Int32))), .unset, .unset, .unset, .unset, .unset, .unset, .unset, .unset] [(.ref b11)])) t → Steps p.tables e below (s₁.setTop (entryFrame m #[(.int p1), (.int p2), (.int p3), (.int p4)] maxLocals)) t := fun t k => k40 t (st41 t k)
        have k43 : ∀ t, Steps p.tables e below (T41.setTop (mkF m 90 #[.val (.int p1), .val (.int p2), .val (.int p3), .val (.int p4), .val (.int (p1 &&& (7 : Int32))), .unset, .unset, .unset, .unset, .unset, .unset, .unset, .unset] [(.int (46 : Int32)), (.int (10 : Int32)), (.ref b11), (.ref b11)])) t → Steps p.tables e below (s₁.setTop (entryFrame m #[(.int p1), (.int p2), (.int p3), (.int p4)] maxLocals)) t := by
          intro t k
          refine k42 t ?_
          show Steps p.tables e below (T41.setTop (mkF m 85 #[.val (.int p1), .val (.int p2), .val (.int p3), .val (.int p4), .val (.int (p1 &&& (7 : Int32))), .unset, .unset, .unset, .unset, .unset, .unset, .unset, .unset] [(.ref b11)])) _
          refine XS.dup X41.here hx rfl (hb hby at_85) rfl rfl ?_
          show Steps p.tables e below (T41.setTop (mkF m 86 #[.val (.int p1), .val (.int p2), .val (.int p3), .val (.int p4), .val (.int (p1 &&& (7 : Int32))), .unset, .unset, .unset, .unset, .unset, .unset, .unset, .unset] [(.ref b11), (.ref b11)])) _
          refine XS.bipush X41.here hx rfl (hb hby at_86) ?_
          show Steps p.tables e below (T41.setTop (mkF m 88 #[.val (.int p1), .val (.int p2), .val (.int p3), .val (.int p4), .val (.int (p1 &&& (7 : Int32))), .unset, .unset, .unset, .unset, .unset, .unset, .unset, .unset] [(.int (10 : Int32)), (.ref b11), (.ref b11)])) _
          refine XS.bipush X41.here hx rfl (hb hby at_88) ?_
          exact k
        obtain ⟨T44, h44, X44, e44, W44, G44, st44⟩ := own_stC X41 hx hZ e41 G41 (j := (10 : Int32)) own_i10 (by omega) (g := (mkF m 90 #[.val (.int p1), .val (.int p2), .val (.int p3), .val (.int p4), .val (.int (p1 &&& (7 : Int32))), .unset, .unset, .unset, .unset, .unset, .unset, .unset, .unset] [(.int (46 : Int32)), (.int (10 : Int32)), (.ref b11), (.ref b11)])) rfl rfl (hb hby at_90)
        have N44 := Fr.snoc X44 N41 ge11
        have K44 : Keep h0 h44 [] := K41.wr W44 (Or.inr bo11)
        have Z44 : n0 ≤ h44.size := Nat.le_trans Z41 (Keep.of_wr W44).1
        have Xo44 := Xo41.wr W44 ge11
        have k45 : ∀ t, Steps p.tables e below (T44.setTop (mkF m 91 #[.val (.int p1), .val (.int p2), .val (.int p3), .val (.int p4), .val (.int (p1 &&& (7 : Int32))), .unset, .unset, .unset, .unset, .unset, .unset, .unset, .unset] [(.ref b11)])) t → Steps p.tables e below (s₁.setTop (entryFrame m #[(.int p1), (.int p2), (.int p3), (.int p4)] maxLocals)) t := fun t k => k43 t (st44 t k)
        have k46 : ∀ t, Steps p.tables e below (T44.setTop (mkF m 96 #[.val (.int p1), .val (.int p2), .val (.int p3), .val (.int p4), .val (.int (p1 &&& (7 : Int32))), .unset, .unset, .unset, .unset, .unset, .unset, .unset, .unset] [(.int (116 : Int32)), (.int (11 : Int32)), (.ref b11), (.ref b11)])) t → Steps p.tables e below (s₁.setTop (entryFrame m #[(.int p1), (.int p2), (.int p3), (.int p4)] maxLocals)) t := by
          intro t k
          refine k45 t ?_
          show Steps p.tables e below (T44.setTop (mkF m 91 #[.val (.int p1), .val (.int p2), .val (.int p3), .val (.int p4), .val (.int (p1 &&& (7 : Int32))), .unset, .unset, .unset, .unset, .unset, .unset, .unset, .unset] [(.ref b11)])) _
          refine XS.dup X44.here hx rfl (hb hby at_91) rfl rfl ?_
          show Steps p.tables e below (T44.setTop (mkF m 92 #[.val (.int p1), .val (.int p2), .val (.int p3), .val (.int p4), .val (.int (p1 &&& (7 : Int32))), .unset, .unset, .unset, .unset, .unset, .unset, .unset, .unset] [(.ref b11), (.ref b11)])) _
          refine XS.bipush X44.here hx rfl (hb hby at_92) ?_
          show Steps p.tables e below (T44.setTop (mkF m 94 #[.val (.int p1), .val (.int p2), .val (.int p3), .val (.int p4), .val (.int (p1 &&& (7 : Int32))), .unset, .unset, .unset, .unset, .unset, .unset, .unset, .unset] [(.int (11 : Int32)), (.ref b11), (.ref b11)])) _
          refine XS.bipush X44.here hx rfl (hb hby at_94) ?_
          exact k
        obtain ⟨T47, h47, X47, e47, W47, G47, st47⟩ := own_stC X44 hx hZ e44 G44 (j := (11 : Int32)) own_i11 (by omega) (g := (mkF m 96 #[.val (.int p1), .val (.int p2), .val (.int p3), .val (.int p4), .val (.int (p1 &&& (7 : Int32))), .unset, .unset, .unset, .unset, .unset, .unset, .unset, .unset] [(.int (116 : Int32)), (.int (11 : Int32)), (.ref b11), (.ref b11)])) rfl rfl (hb hby at_96)
        have N47 := Fr.snoc X47 N44 ge11
        have K47 : Keep h0 h47 [] := K44.wr W47 (Or.inr bo11)
        have Z47 : n0 ≤ h47.size := Nat.le_trans Z44 (Keep.of_wr W47).1
        have Xo47 := Xo44.wr W47 ge11
        have k48 : ∀ t, Steps p.tables e below (T47.setTop (mkF m 97 #[.val (.int p1), .val (.int p2), .val (.int p3), .val (.int p4), .val (.int (p1 &&& (7 : Int32))), .unset, .unset, .unset, .unset, .unset, .unset, .unset, .unset] [(.ref b11)])) t → Steps p.tables e below (s₁.setTop (entryFrame m #[(.int p1), (.int p2), (.int p3), (.int p4)] maxLocals)) t := fun t k => k46 t (st47 t k)
        have k49 : ∀ t, Steps p.tables e below (T47.setTop (mkF m 102 #[.val (.int p1), .val (.int p2), .val (.int p3), .val (.int p4), .val (.int (p1 &&& (7 : Int32))), .unset, .unset, .unset, .unset, .unset, .unset, .unset, .unset] [(.int (101 : Int32)), (.int (12 : Int32)), (.ref b11), (.ref b11)])) t → Steps p.tables e below (s₁.setTop (entryFrame m #[(.int p1), (.int p2), (.int p3), (.int p4)] maxLocals)) t := by
          intro t k
          refine k48 t ?_
          show Steps p.tables e below (T47.setTop (mkF m 97 #[.val (.int p1), .val (.int p2), .val (.int p3), .val (.int p4), .val (.int (p1 &&& (7 : Int32))), .unset, .unset, .unset, .unset, .unset, .unset, .unset, .unset] [(.ref b11)])) _
          refine XS.dup X47.here hx rfl (hb hby at_97) rfl rfl ?_
          show Steps p.tables e below (T47.setTop (mkF m 98 #[.val (.int p1), .val (.int p2), .val (.int p3), .val (.int p4), .val (.int (p1 &&& (7 : Int32))), .unset, .unset, .unset, .unset, .unset, .unset, .unset, .unset] [(.ref b11), (.ref b11)])) _
          refine XS.bipush X47.here hx rfl (hb hby at_98) ?_
          show Steps p.tables e below (T47.setTop (mkF m 100 #[.val (.int p1), .val (.int p2), .val (.int p3), .val (.int p4), .val (.int (p1 &&& (7 : Int32))), .unset, .unset, .unset, .unset, .unset, .unset, .unset, .unset] [(.int (12 : Int32)), (.ref b11), (.ref b11)])) _
          refine XS.bipush X47.here hx rfl (hb hby at_100) ?_
          exact k
        obtain ⟨T50, h50, X50, e50, W50, G50, st50⟩ := own_stC X47 hx hZ e47 G47 (j := (12 : Int32)) own_i12 (by omega) (g := (mkF m 102 #[.val (.int p1), .val (.int p2), .val (.int p3), .val (.int p4), .val (.int (p1 &&& (7 : Int32))), .unset, .unset, .unset, .unset, .unset, .unset, .unset, .unset] [(.int (101 : Int32)), (.int (12 : Int32)), (.ref b11), (.ref b11)])) rfl rfl (hb hby at_102)
        have N50 := Fr.snoc X50 N47 ge11
        have K50 : Keep h0 h50 [] := K47.wr W50 (Or.inr bo11)
        have Z50 : n0 ≤ h50.size := Nat.le_trans Z47 (Keep.of_wr W50).1
        have Xo50 := Xo47.wr W50 ge11
        have k51 : ∀ t, Steps p.tables e below (T50.setTop (mkF m 103 #[.val (.int p1), .val (.int p2), .val (.int p3), .val (.int p4), .val (.int (p1 &&& (7 : Int32))), .unset, .unset, .unset, .unset, .unset, .unset, .unset, .unset] [(.ref b11)])) t → Steps p.tables e below (s₁.setTop (entryFrame m #[(.int p1), (.int p2), (.int p3), (.int p4)] maxLocals)) t := fun t k => k49 t (st50 t k)
        have k52 : ∀ t, Steps p.tables e below (T50.setTop (mkF m 108 #[.val (.int p1), .val (.int p2), .val (.int p3), .val (.int p4), .val (.int (p1 &&& (7 : Int32))), .unset, .unset, .unset, .unset, .unset, .unset, .unset, .unset] [(.int (105 : Int32)), (.int (13 : Int32)), (.ref b11), (.ref b11)])) t → Steps p.tables e below (s₁.setTop (entryFrame m #[(.int p1), (.int p2), (.int p3), (.int p4)] maxLocals)) t := by
          intro t k
          refine k51 t ?_
          show Steps p.tables e below (T50.setTop (mkF m 103 #[.val (.int p1), .val (.int p2), .val (.int p3), .val (.int p4), .val (.int (p1 &&& (7 : Int32))), .unset, .unset, .unset, .unset, .unset, .unset, .unset, .unset] [(.ref b11)])) _
          refine XS.dup X50.here hx rfl (hb hby at_103) rfl rfl ?_
          show Steps p.tables e below (T50.setTop (mkF m 104 #[.val (.int p1), .val (.int p2), .val (.int p3), .val (.int p4), .val (.int (p1 &&& (7 : Int32))), .unset, .unset, .unset, .unset, .unset, .unset, .unset, .unset] [(.ref b11), (.ref b11)])) _
          refine XS.bipush X50.here hx rfl (hb hby at_104) ?_
          show Steps p.tables e below (T50.setTop (mkF m 106 #[.val (.int p1), .val (.int p2), .val (.int p3), .val (.int p4), .val (.int (p1 &&& (7 : Int32))), .unset, .unset, .unset, .unset, .unset, .unset, .unset, .unset] [(.int (13 : Int32)), (.ref b11), (.ref b11)])) _
          refine XS.bipush X50.here hx rfl (hb hby at_106) ?_
          exact k
        obtain ⟨T53, h53, X53, e53, W53, G53, st53⟩ := own_stC X50 hx hZ e50 G50 (j := (13 : Int32)) own_i13 (by omega) (g := (mkF m 108 #[.val (.int p1), .val (.int p2), .val (.int p3), .val (.int p4), .val (.int (p1 &&& (7 : Int32))), .unset, .unset, .unset, .unset, .unset, .unset, .unset, .unset] [(.int (105 : Int32)), (.int (13 : Int32)), (.ref b11), (.ref b11)])) rfl rfl (hb hby at_108)
        have N53 := Fr.snoc X53 N50 ge11
        have K53 : Keep h0 h53 [] := K50.wr W53 (Or.inr bo11)
        have Z53 : n0 ≤ h53.size := Nat.le_trans Z50 (Keep.of_wr W53).1
        have Xo53 := Xo50.wr W53 ge11
        have k54 : ∀ t, Steps p.tables e below (T53.setTop (mkF m 109 #[.val (.int p1), .val (.int p2), .val (.int p3), .val (.int p4), .val (.int (p1 &&& (7 : Int32))), .unset, .unset, .unset, .unset, .unset, .unset, .unset, .unset] [(.ref b11)])) t → Steps p.tables e below (s₁.setTop (entryFrame m #[(.int p1), (.int p2), (.int p3), (.int p4)] maxLocals)) t := fun t k => k52 t (st53 t k)
        have k55 : ∀ t, Steps p.tables e below (T53.setTop (mkF m 114 #[.val (.int p1), .val (.int p2), .val (.int p3), .val (.int p4), .val (.int (p1 &&& (7 : Int32))), .unset, .unset, .unset, .unset, .unset, .unset, .unset, .unset] [(.int (45 : Int32)), (.int (14 : Int32)), (.ref b11), (.ref b11)])) t → Steps p.tables e below (s₁.setTop (entryFrame m #[(.int p1), (.int p2), (.int p3), (.int p4)] maxLocals)) t := by
          intro t k
          refine k54 t ?_
          show Steps p.tables e below (T53.setTop (mkF m 109 #[.val (.int p1), .val (.int p2), .val (.int p3), .val (.int p4), .val (.int (p1 &&& (7 : Int32))), .unset, .unset, .unset, .unset, .unset, .unset, .unset, .unset] [(.ref b11)])) _
          refine XS.dup X53.here hx rfl (hb hby at_109) rfl rfl ?_
          show Steps p.tables e below (T53.setTop (mkF m 110 #[.val (.int p1), .val (.int p2), .val (.int p3), .val (.int p4), .val (.int (p1 &&& (7 : Int32))), .unset, .unset, .unset, .unset, .unset, .unset, .unset, .unset] [(.ref b11), (.ref b11)])) _
          refine XS.bipush X53.here hx rfl (hb hby at_110) ?_
          show Steps p.tables e below (T53.setTop (mkF m 112 #[.val (.int p1), .val (.int p2), .val (.int p3), .val (.int p4), .val (.int (p1 &&& (7 : Int32))), .unset, .unset, .unset, .unset, .unset, .unset, .unset, .unset] [(.int (14 : Int32)), (.ref b11), (.ref b11)])) _
          refine XS.bipush X53.here hx rfl (hb hby at_112) ?_
          exact k
        obtain ⟨T56, h56, X56, e56, W56, G56, st56⟩ := own_stC X53 hx hZ e53 G53 (j := (14 : Int32)) own_i14 (by omega) (g := (mkF m 114 #[.val (.int p1), .val (.int p2), .val (.int p3), .val (.int p4), .val (.int (p1 &&& (7 : Int32))), .unset, .unset, .unset, .unset, .unset, .unset, .unset, .unset] [(.int (45 : Int32)), (.int (14 : Int32)), (.ref b11), (.ref b11)])) rfl rfl (hb hby at_114)
        have N56 := Fr.snoc X56 N53 ge11
        have K56 : Keep h0 h56 [] := K53.wr W56 (Or.inr bo11)
        have Z56 : n0 ≤ h56.size := Nat.le_trans Z53 (Keep.of_wr W56).1
        have Xo56 := Xo53.wr W56 ge11
        have k57 : ∀ t, Steps p.tables e below (T56.setTop (mkF m 115 #[.val (.int p1), .val (.int p2), .val (.int p3), .val (.int p4), .val (.int (p1 &&& (7 : Int32))), .unset, .unset, .unset, .unset, .unset, .unset, .unset, .unset] [(.ref b11)])) t → Steps p.tables e below (s₁.setTop (entryFrame m #[(.int p1), (.int p2), (.int p3), (.int p4)] maxLocals)) t := fun t k => k55 t (st56 t k)
        have k58 : ∀ t, Steps p.tables e below (T56.setTop (mkF m 120 #[.val (.int p1), .val (.int p2), .val (.int p3), .val (.int p4), .val (.int (p1 &&& (7 : Int32))), .unset, .unset, .unset, .unset, .unset, .unset, .unset, .unset] [(.int (99 : Int32)), (.int (15 : Int32)), (.ref b11), (.ref b11)])) t → Steps p.tables e below (s₁.setTop (entryFrame m #[(.int p1), (.int p2), (.int p3), (.int p4)] maxLocals)) t := by
          intro t k
          refine k57 t ?_
          show Steps p.tables e below (T56.setTop (mkF m 115 #[.val (.int p1), .val (.int p2), .val (.int p3), .val (.int p4), .val (.int (p1 &&& (7 : Int32))), .unset, .unset, .unset, .unset, .unset, .unset, .unset, .unset] [(.ref b11)])) _
          refine XS.dup X56.here hx rfl (hb hby at_115) rfl rfl ?_
          show Steps p.tables e below (T56.setTop (mkF m 116 #[.val (.int p1), .val (.int p2), .val (.int p3), .val (.int p4), .val (.int (p1 &&& (7 : Int32))), .unset, .unset, .unset, .unset, .unset, .unset, .unset, .unset] [(.ref b11), (.ref b11)])) _
          refine XS.bipush X56.here hx rfl (hb hby at_116) ?_
          show Steps p.tables e below (T56.setTop (mkF m 118 #[.val (.int p1), .val (.int p2), .val (.int p3), .val (.int p4), .val (.int (p1 &&& (7 : Int32))), .unset, .unset, .unset, .unset, .unset, .unset, .unset, .unset] [(.int (15 : Int32)), (.ref b11), (.ref b11)])) _
          refine XS.bipush X56.here hx rfl (hb hby at_118) ?_
          exact k
        obtain ⟨T59, h59, X59, e59, W59, G59, st59⟩ := own_stC X56 hx hZ e56 G56 (j := (15 : Int32)) own_i15 (by omega) (g := (mkF m 120 #[.val (.int p1), .val (.int p2), .val (.int p3), .val (.int p4), .val (.int (p1 &&& (7 : Int32))), .unset, .unset, .unset, .unset, .unset, .unset, .unset, .unset] [(.int (99 : Int32)), (.int (15 : Int32)), (.ref b11), (.ref b11)])) rfl rfl (hb hby at_120)
        have N59 := Fr.snoc X59 N56 ge11
        have K59 : Keep h0 h59 [] := K56.wr W59 (Or.inr bo11)
        have Z59 : n0 ≤ h59.size := Nat.le_trans Z56 (Keep.of_wr W59).1
        have Xo59 := Xo56.wr W59 ge11
        have k60 : ∀ t, Steps p.tables e below (T59.setTop (mkF m 121 #[.val (.int p1), .val (.int p2), .val (.int p3), .val (.int p4), .val (.int (p1 &&& (7 : Int32))), .unset, .unset, .unset, .unset, .unset, .unset, .unset, .unset] [(.ref b11)])) t → Steps p.tables e below (s₁.setTop (entryFrame m #[(.int p1), (.int p2), (.int p3), (.int p4)] maxLocals)) t := fun t k => k58 t (st59 t k)
        have k61 : ∀ t, Steps p.tables e below (T59.setTop (mkF m 126 #[.val (.int p1), .val (.int p2), .val (.int p3), .val (.int p4), .val (.int (p1 &&& (7 : Int32))), .unset, .unset, .unset, .unset, .unset, .unset, .unset, .unset] [(.int (46 : Int32)), (.int (16 : Int32)), (.ref b11), (.ref b11)])) t → Steps p.tables e below (s₁.setTop (entryFrame m #[(.int p1), (.int p2), (.int p3), (.int p4)] maxLocals)) t := by
          intro t k
          refine k60 t ?_
          show Steps p.tables e below (T59.setTop (mkF m 121 #[.val (.int p1), .val (.int p2), .val (.int p3), .val (.int p4), .val (.int (p1 &&& (7 : Int32))), .unset, .unset, .unset, .unset, .unset, .unset, .unset, .unset] [(.ref b11)])) _
          refine XS.dup X59.here hx rfl (hb hby at_121) rfl rfl ?_
          show Steps p.tables e below (T59.setTop (mkF m 122 #[.val (.int p1), .val (.int p2), .val (.int p3), .val (.int p4), .val (.int (p1 &&& (7 : Int32))), .unset, .unset, .unset, .unset, .unset, .unset, .unset, .unset] [(.ref b11), (.ref b11)])) _
          refine XS.bipush X59.here hx rfl (hb hby at_122) ?_
          show Steps p.tables e below (T59.setTop (mkF m 124 #[.val (.int p1), .val (.int p2), .val (.int p3), .val (.int p4), .val (.int (p1 &&& (7 : Int32))), .unset, .unset, .unset, .unset, .unset, .unset, .unset, .unset] [(.int (16 : Int32)), (.ref b11), (.ref b11)])) _
          refine XS.bipush X59.here hx rfl (hb hby at_124) ?_
          exact k
        obtain ⟨T62, h62, X62, e62, W62, G62, st62⟩ := own_stC X59 hx hZ e59 G59 (j := (16 : Int32)) own_i16 (by omega) (g := (mkF m 126 #[.val (.int p1), .val (.int p2), .val (.int p3), .val (.int p4), .val (.int (p1 &&& (7 : Int32))), .unset, .unset, .unset, .unset, .unset, .unset, .unset, .unset] [(.int (46 : Int32)), (.int (16 : Int32)), (.ref b11), (.ref b11)])) rfl rfl (hb hby at_126)
        have N62 := Fr.snoc X62 N59 ge11
        have K62 : Keep h0 h62 [] := K59.wr W62 (Or.inr bo11)
        have Z62 : n0 ≤ h62.size := Nat.le_trans Z59 (Keep.of_wr W62).1
        have Xo62 := Xo59.wr W62 ge11
        have k63 : ∀ t, Steps p.tables e below (T62.setTop (mkF m 127 #[.val (.int p1), .val (.int p2), .val (.int p3), .val (.int p4), .val (.int (p1 &&& (7 : Int32))), .unset, .unset, .unset, .unset, .unset, .unset, .unset, .unset] [(.ref b11)])) t → Steps p.tables e below (s₁.setTop (entryFrame m #[(.int p1), (.int p2), (.int p3), (.int p4)] maxLocals)) t := fun t k => k61 t (st62 t k)
        have k64 : ∀ t, Steps p.tables e below (T62.setTop (mkF m 132 #[.val (.int p1), .val (.int p2), .val (.int p3), .val (.int p4), .val (.int (p1 &&& (7 : Int32))), .unset, .unset, .unset, .unset, .unset, .unset, .unset, .unset] [(.int (111 : Int32)), (.int (17 : Int32)), (.ref b11), (.ref b11)])) t → Steps p.tables e below (s₁.setTop (entryFrame m #[(.int p1), (.int p2), (.int p3), (.int p4)] maxLocals)) t := by
          intro t k
          refine k63 t ?_
          show Steps p.tables e below (T62.setTop (mkF m 127 #[.val (.int p1), .val (.int p2), .val (.int p3), .val (.int p4), .val (.int (p1 &&& (7 : Int32))), .unset, .unset, .unset, .unset, .unset, .unset, .unset, .unset] [(.ref b11)])) _
          refine XS.dup X62.here hx rfl (hb hby at_127) rfl rfl ?_
          show Steps p.tables e below (T62.setTop (mkF m 128 #[.val (.int p1), .val (.int p2), .val (.int p3), .val (.int p4), .val (.int (p1 &&& (7 : Int32))), .unset, .unset, .unset, .unset, .unset, .unset, .unset, .unset] [(.ref b11), (.ref b11)])) _
          refine XS.bipush X62.here hx rfl (hb hby at_128) ?_
          show Steps p.tables e below (T62.setTop (mkF m 130 #[.val (.int p1), .val (.int p2), .val (.int p3), .val (.int p4), .val (.int (p1 &&& (7 : Int32))), .unset, .unset, .unset, .unset, .unset, .unset, .unset, .unset] [(.int (17 : Int32)), (.ref b11), (.ref b11)])) _
          refine XS.bipush X62.here hx rfl (hb hby at_130) ?_
          exact k
        obtain ⟨T65, h65, X65, e65, W65, G65, st65⟩ := own_stC X62 hx hZ e62 G62 (j := (17 : Int32)) own_i17 (by omega) (g := (mkF m 132 #[.val (.int p1), .val (.int p2), .val (.int p3), .val (.int p4), .val (.int (p1 &&& (7 : Int32))), .unset, .unset, .unset, .unset, .unset, .unset, .unset, .unset] [(.int (111 : Int32)), (.int (17 : Int32)), (.ref b11), (.ref b11)])) rfl rfl (hb hby at_132)
        have N65 := Fr.snoc X65 N62 ge11
        have K65 : Keep h0 h65 [] := K62.wr W65 (Or.inr bo11)
        have Z65 : n0 ≤ h65.size := Nat.le_trans Z62 (Keep.of_wr W65).1
        have Xo65 := Xo62.wr W65 ge11
        have k66 : ∀ t, Steps p.tables e below (T65.setTop (mkF m 133 #[.val (.int p1), .val (.int p2), .val (.int p3), .val (.int p4), .val (.int (p1 &&& (7 : Int32))), .unset, .unset, .unset, .unset, .unset, .unset, .unset, .unset] [(.ref b11)])) t → Steps p.tables e below (s₁.setTop (entryFrame m #[(.int p1), (.int p2), (.int p3), (.int p4)] maxLocals)) t := fun t k => k64 t (st65 t k)
        have k67 : ∀ t, Steps p.tables e below (T65.setTop (mkF m 138 #[.val (.int p1), .val (.int p2), .val (.int p3), .val (.int p4), .val (.int (p1 &&& (7 : Int32))), .unset, .unset, .unset, .unset, .unset, .unset, .unset, .unset] [(.int (114 : Int32)), (.int (18 : Int32)), (.ref b11), (.ref b11)])) t → Steps p.tables e below (s₁.setTop (entryFrame m #[(.int p1), (.int p2), (.int p3), (.int p4)] maxLocals)) t := by
          intro t k
          refine k66 t ?_
          show Steps p.tables e below (T65.setTop (mkF m 133 #[.val (.int p1), .val (.int p2), .val (.int p3), .val (.int p4), .val (.int (p1 &&& (7 : Int32))), .unset, .unset, .unset, .unset, .unset, .unset, .unset, .unset] [(.ref b11)])) _
          refine XS.dup X65.here hx rfl (hb hby at_133) rfl rfl ?_
          show Steps p.tables e below (T65.setTop (mkF m 134 #[.val (.int p1), .val (.int p2), .val (.int p3), .val (.int p4), .val (.int (p1 &&& (7 : Int32))), .unset, .unset, .unset, .unset, .unset, .unset, .unset, .unset] [(.ref b11), (.ref b11)])) _
          refine XS.bipush X65.here hx rfl (hb hby at_134) ?_
          show Steps p.tables e below (T65.setTop (mkF m 136 #[.val (.int p1), .val (.int p2), .val (.int p3), .val (.int p4), .val (.int (p1 &&& (7 : Int32))), .unset, .unset, .unset, .unset, .unset, .unset, .unset, .unset] [(.int (18 : Int32)), (.ref b11), (.ref b11)])) _
          refine XS.bipush X65.here hx rfl (hb hby at_136) ?_
          exact k
        obtain ⟨T68, h68, X68, e68, W68, G68, st68⟩ := own_stC X65 hx hZ e65 G65 (j := (18 : Int32)) own_i18 (by omega) (g := (mkF m 138 #[.val (.int p1), .val (.int p2), .val (.int p3), .val (.int p4), .val (.int (p1 &&& (7 : Int32))), .unset, .unset, .unset, .unset, .unset, .unset, .unset, .unset] [(.int (114 : Int32)), (.int (18 : Int32)), (.ref b11), (.ref b11)])) rfl rfl (hb hby at_138)
        have N68 := Fr.snoc X68 N65 ge11
        have K68 : Keep h0 h68 [] := K65.wr W68 (Or.inr bo11)
        have Z68 : n0 ≤ h68.size := Nat.le_trans Z65 (Keep.of_wr W68).1
        have Xo68 := Xo65.wr W68 ge11
        have k69 : ∀ t, Steps p.tables e below (T68.setTop (mkF m 139 #[.val (.int p1), .val (.int p2), .val (.int p3), .val (.int p4), .val (.int (p1 &&& (7 : Int32))), .unset, .unset, .unset, .unset, .unset, .unset, .unset, .unset] [(.ref b11)])) t → Steps p.tables e below (s₁.setTop (entryFrame m #[(.int p1), (.int p2), (.int p3), (.int p4)] maxLocals)) t := fun t k => k67 t (st68 t k)
        have k70 : ∀ t, Steps p.tables e below (T68.setTop (mkF m 144 #[.val (.int p1), .val (.int p2), .val (.int p3), .val (.int p4), .val (.int (p1 &&& (7 : Int32))), .unset, .unset, .unset, .unset, .unset, .unset, .unset, .unset] [(.int (103 : Int32)), (.int (19 : Int32)), (.ref b11), (.ref b11)])) t → Steps p.tables e below (s₁.setTop (entryFrame m #[(.int p1), (.int p2), (.int p3), (.int p4)] maxLocals)) t := by
          intro t k
          refine k69 t ?_
          show Steps p.tables e below (T68.setTop (mkF m 139 #[.val (.int p1), .val (.int p2), .val (.int p3), .val (.int p4), .val (.int (p1 &&& (7 : Int32))), .unset, .unset, .unset, .unset, .unset, .unset, .unset, .unset] [(.ref b11)])) _
          refine XS.dup X68.here hx rfl (hb hby at_139) rfl rfl ?_
          show Steps p.tables e below (T68.setTop (mkF m 140 #[.val (.int p1), .val (.int p2), .val (.int p3), .val (.int p4), .val (.int (p1 &&& (7 : Int32))), .unset, .unset, .unset, .unset, .unset, .unset, .unset, .unset] [(.ref b11), (.ref b11)])) _
          refine XS.bipush X68.here hx rfl (hb hby at_140) ?_
          show Steps p.tables e below (T68.setTop (mkF m 142 #[.val (.int p1), .val (.int p2), .val (.int p3), .val (.int p4), .val (.int (p1 &&& (7 : Int32))), .unset, .unset, .unset, .unset, .unset, .unset, .unset, .unset] [(.int (19 : Int32)), (.ref b11), (.ref b11)])) _
          refine XS.bipush X68.here hx rfl (hb hby at_142) ?_
          exact k
        obtain ⟨T71, h71, X71, e71, W71, G71, st71⟩ := own_stC X68 hx hZ e68 G68 (j := (19 : Int32)) own_i19 (by omega) (g := (mkF m 144 #[.val (.int p1), .val (.int p2), .val (.int p3), .val (.int p4), .val (.int (p1 &&& (7 : Int32))), .unset, .unset, .unset, .unset, .unset, .unset, .unset, .unset] [(.int (103 : Int32)), (.int (19 : Int32)), (.ref b11), (.ref b11)])) rfl rfl (hb hby at_144)
        have N71 := Fr.snoc X71 N68 ge11
        have K71 : Keep h0 h71 [] := K68.wr W71 (Or.inr bo11)
        have Z71 : n0 ≤ h71.size := Nat.le_trans Z68 (Keep.of_wr W71).1
        have Xo71 := Xo68.wr W71 ge11
        have k72 : ∀ t, Steps p.tables e below (T71.setTop (mkF m 145 #[.val (.int p1), .val (.int p2), .val (.int p3), .val (.int p4), .val (.int (p1 &&& (7 : Int32))), .unset, .unset, .unset, .unset, .unset, .unset, .unset, .unset] [(.ref b11)])) t → Steps p.tables e below (s₁.setTop (entryFrame m #[(.int p1), (.int p2), (.int p3), (.int p4)] maxLocals)) t := fun t k => k70 t (st71 t k)
        have k73 : ∀ t, Steps p.tables e below (T71.setTop (mkF m 150 #[.val (.int p1), .val (.int p2), .val (.int p3), .val (.int p4), .val (.int (p1 &&& (7 : Int32))), .unset, .unset, .unset, .unset, .unset, .unset, .unset, .unset] [(.int (47 : Int32)), (.int (20 : Int32)), (.ref b11), (.ref b11)])) t → Steps p.tables e below (s₁.setTop (entryFrame m #[(.int p1), (.int p2), (.int p3), (.int p4)] maxLocals)) t := by
          intro t k
          refine k72 t ?_
          show Steps p.tables e below (T71.setTop (mkF m 145 #[.val (.int p1), .val (.int p2), .val (.int p3), .val (.int p4), .val (.int (p1 &&& (7 : Int32))), .unset, .unset, .unset, .unset, .unset, .unset, .unset, .unset] [(.ref b11)])) _
          refine XS.dup X71.here hx rfl (hb hby at_145) rfl rfl ?_
          show Steps p.tables e below (T71.setTop (mkF m 146 #[.val (.int p1), .val (.int p2), .val (.int p3), .val (.int p4), .val (.int (p1 &&& (7 : Int32))), .unset, .unset, .unset, .unset, .unset, .unset, .unset, .unset] [(.ref b11), (.ref b11)])) _
          refine XS.bipush X71.here hx rfl (hb hby at_146) ?_
          show Steps p.tables e below (T71.setTop (mkF m 148 #[.val (.int p1), .val (.int p2), .val (.int p3), .val (.int p4), .val (.int (p1 &&& (7 : Int32))), .unset, .unset, .unset, .unset, .unset, .unset, .unset, .unset] [(.int (20 : Int32)), (.ref b11), (.ref b11)])) _
          refine XS.bipush X71.here hx rfl (hb hby at_148) ?_
          exact k
        obtain ⟨T74, h74, X74, e74, W74, G74, st74⟩ := own_stC X71 hx hZ e71 G71 (j := (20 : Int32)) own_i20 (by omega) (g := (mkF m 150 #[.val (.int p1), .val (.int p2), .val (.int p3), .val (.int p4), .val (.int (p1 &&& (7 : Int32))), .unset, .unset, .unset, .unset, .unset, .unset, .unset, .unset] [(.int (47 : Int32)), (.int (20 : Int32)), (.ref b11), (.ref b11)])) rfl rfl (hb hby at_150)
        have N74 := Fr.snoc X74 N71 ge11
        have K74 : Keep h0 h74 [] := K71.wr W74 (Or.inr bo11)
        have Z74 : n0 ≤ h74.size := Nat.le_trans Z71 (Keep.of_wr W74).1
        have Xo74 := Xo71.wr W74 ge11
        have k75 : ∀ t, Steps p.tables e below (T74.setTop (mkF m 151 #[.val (.int p1), .val (.int p2), .val (.int p3), .val (.int p4), .val (.int (p1 &&& (7 : Int32))), .unset, .unset, .unset, .unset, .unset, .unset, .unset, .unset] [(.ref b11)])) t → Steps p.tables e below (s₁.setTop (entryFrame m #[(.int p1), (.int p2), (.int p3), (.int p4)] maxLocals)) t := fun t k => k73 t (st74 t k)
        have k76 : ∀ t, Steps p.tables e below (T74.setTop (mkF m 156 #[.val (.int p1), .val (.int p2), .val (.int p3), .val (.int p4), .val (.int (p1 &&& (7 : Int32))), .unset, .unset, .unset, .unset, .unset, .unset, .unset, .unset] [(.int (110 : Int32)), (.int (21 : Int32)), (.ref b11), (.ref b11)])) t → Steps p.tables e below (s₁.setTop (entryFrame m #[(.int p1), (.int p2), (.int p3), (.int p4)] maxLocals)) t := by
          intro t k
          refine k75 t ?_
          show Steps p.tables e below (T74.setTop (mkF m 151 #[.val (.int p1), .val (.int p2), .val (.int p3), .val (.int p4), .val (.int (p1 &&& (7 : Int32))), .unset, .unset, .unset, .unset, .unset, .unset, .unset, .unset] [(.ref b11)])) _
          refine XS.dup X74.here hx rfl (hb hby at_151) rfl rfl ?_
          show Steps p.tables e below (T74.setTop (mkF m 152 #[.val (.int p1), .val (.int p2), .val (.int p3), .val (.int p4), .val (.int (p1 &&& (7 : Int32))), .unset, .unset, .unset, .unset, .unset, .unset, .unset, .unset] [(.ref b11), (.ref b11)])) _
          refine XS.bipush X74.here hx rfl (hb hby at_152) ?_
          show Steps p.tables e below (T74.setTop (mkF m 154 #[.val (.int p1), .val (.int p2), .val (.int p3), .val (.int p4), .val (.int (p1 &&& (7 : Int32))), .unset, .unset, .unset, .unset, .unset, .unset, .unset, .unset] [(.int (21 : Int32)), (.ref b11), (.ref b11)])) _
          refine XS.bipush X74.here hx rfl (hb hby at_154) ?_
          exact k
        obtain ⟨T77, h77, X77, e77, W77, G77, st77⟩ := own_stC X74 hx hZ e74 G74 (j := (21 : Int32)) own_i21 (by omega) (g := (mkF m 156 #[.val (.int p1), .val (.int p2), .val (.int p3), .val (.int p4), .val (.int (p1 &&& (7 : Int32))), .unset, .unset, .unset, .unset, .unset, .unset, .unset, .unset] [(.int (110 : Int32)), (.int (21 : Int32)), (.ref b11), (.ref b11)])) rfl rfl (hb hby at_156)
        have N77 := Fr.snoc X77 N74 ge11
        have K77 : Keep h0 h77 [] := K74.wr W77 (Or.inr bo11)
        have Z77 : n0 ≤ h77.size := Nat.le_trans Z74 (Keep.of_wr W77).1
        have Xo77 := Xo74.wr W77 ge11
        have k78 : ∀ t, Steps p.tables e below (T77.setTop (mkF m 157 #[.val (.int p1), .val (.int p2), .val (.int p3), .val (.int p4), .val (.int (p1 &&& (7 : Int32))), .unset, .unset, .unset, .unset, .unset, .unset, .unset, .unset] [(.ref b11)])) t → Steps p.tables e below (s₁.setTop (entryFrame m #[(.int p1), (.int p2), (.int p3), (.int p4)] maxLocals)) t := fun t k => k76 t (st77 t k)
        have k79 : ∀ t, Steps p.tables e below (T77.setTop (mkF m 162 #[.val (.int p1), .val (.int p2), .val (.int p3), .val (.int p4), .val (.int (p1 &&& (7 : Int32))), .unset, .unset, .unset, .unset, .unset, .unset, .unset, .unset] [(.int (115 : Int32)), (.int (22 : Int32)), (.ref b11), (.ref b11)])) t → Steps p.tables e below (s₁.setTop (entryFrame m #[(.int p1), (.int p2), (.int p3), (.int p4)] maxLocals)) t := by
          intro t k
          refine k78 t ?_
          show Steps p.tables e below (T77.setTop (mkF m 157 #[.val (.int p1), .val (.int p2), .val (.int p3), .val (.int p4), .val (.int (p1 &&& (7 : Int32))), .unset, .unset, .unset, .unset, .unset, .unset, .unset, .unset] [(.ref b11)])) _
          refine XS.dup X77.here hx rfl (hb hby at_157) rfl rfl ?_
          show Steps p.tables e below (T77.setTop (mkF m 158 #[.val (.int p1), .val (.int p2), .val (.int p3), .val (.int p4), .val (.int (p1 &&& (7 : Int32))), .unset, .unset, .unset, .unset, .unset, .unset, .unset, .unset] [(.ref b11), (.ref b11)])) _
          refine XS.bipush X77.here hx rfl (hb hby at_158) ?_
          show Steps p.tables e below (T77.setTop (mkF m 160 #[.val (.int p1), .val (.int p2), .val (.int p3), .val (.int p4), .val (.int (p1 &&& (7 : Int32))), .unset, .unset, .unset, .unset, .unset, .unset, .unset, .unset] [(.int (22 : Int32)), (.ref b11), (.ref b11)])) _
          refine XS.bipush X77.here hx rfl (hb hby at_160) ?_
          exact k
        obtain ⟨T80, h80, X80, e80, W80, G80, st80⟩ := own_stC X77 hx hZ e77 G77 (j := (22 : Int32)) own_i22 (by omega) (g := (mkF m 162 #[.val (.int p1), .val (.int p2), .val (.int p3), .val (.int p4), .val (.int (p1 &&& (7 : Int32))), .unset, .unset, .unset, .unset, .unset, .unset, .unset, .unset] [(.int (115 : Int32)), (.int (22 : Int32)), (.ref b11), (.ref b11)])) rfl rfl (hb hby at_162)
        have N80 := Fr.snoc X80 N77 ge11
        have K80 : Keep h0 h80 [] := K77.wr W80 (Or.inr bo11)
        have Z80 : n0 ≤ h80.size := Nat.le_trans Z77 (Keep.of_wr W80).1
        have Xo80 := Xo77.wr W80 ge11
        have k81 : ∀ t, Steps p.tables e below (T80.setTop (mkF m 163 #[.val (.int p1), .val (.int p2), .val (.int p3), .val (.int p4), .val (.int (p1 &&& (7 : Int32))), .unset, .unset, .unset, .unset, .unset, .unset, .unset, .unset] [(.ref b11)])) t → Steps p.tables e below (s₁.setTop (entryFrame m #[(.int p1), (.int p2), (.int p3), (.int p4)] maxLocals)) t := fun t k => k79 t (st80 t k)
        have k82 : ∀ t, Steps p.tables e below (T80.setTop (mkF m 168 #[.val (.int p1), .val (.int p2), .val (.int p3), .val (.int p4), .val (.int (p1 &&& (7 : Int32))), .unset, .unset, .unset, .unset, .unset, .unset, .unset, .unset] [(.int (47 : Int32)), (.int (23 : Int32)), (.ref b11), (.ref b11)])) t → Steps p.tables e below (s₁.setTop (entryFrame m #[(.int p1), (.int p2), (.int p3), (.int p4)] maxLocals)) t := by
          intro t k
          refine k81 t ?_
          show Steps p.tables e below (T80.setTop (mkF m 163 #[.val (.int p1), .val (.int p2), .val (.int p3), .val (.int p4), .val (.int (p1 &&& (7 : Int32))), .unset, .unset, .unset, .unset, .unset, .unset, .unset, .unset] [(.ref b11)])) _
          refine XS.dup X80.here hx rfl (hb hby at_163) rfl rfl ?_
          show Steps p.tables e below (T80.setTop (mkF m 164 #[.val (.int p1), .val (.int p2), .val (.int p3), .val (.int p4), .val (.int (p1 &&& (7 : Int32))), .unset, .unset, .unset, .unset, .unset, .unset, .unset, .unset] [(.ref b11), (.ref b11)])) _
          refine XS.bipush X80.here hx rfl (hb hby at_164) ?_
          show Steps p.tables e below (T80.setTop (mkF m 166 #[.val (.int p1), .val (.int p2), .val (.int p3), .val (.int p4), .val (.int (p1 &&& (7 : Int32))), .unset, .unset, .unset, .unset, .unset, .unset, .unset, .unset] [(.int (23 : Int32)), (.ref b11), (.ref b11)])) _
          refine XS.bipush X80.here hx rfl (hb hby at_166) ?_
          exact k
        obtain ⟨T83, h83, X83, e83, W83, G83, st83⟩ := own_stC X80 hx hZ e80 G80 (j := (23 : Int32)) own_i23 (by omega) (g := (mkF m 168 #[.val (.int p1), .val (.int p2), .val (.int p3), .val (.int p4), .val (.int (p1 &&& (7 : Int32))), .unset, .unset, .unset, .unset, .unset, .unset, .unset, .unset] [(.int (47 : Int32)), (.int (23 : Int32)), (.ref b11), (.ref b11)])) rfl rfl (hb hby at_168)
        have N83 := Fr.snoc X83 N80 ge11
        have K83 : Keep h0 h83 [] := K80.wr W83 (Or.inr bo11)
        have Z83 : n0 ≤ h83.size := Nat.le_trans Z80 (Keep.of_wr W83).1
        have Xo83 := Xo80.wr W83 ge11
        have k84 : ∀ t, Steps p.tables e below (T83.setTop (mkF m 169 #[.val (.int p1), .val (.int p2), .val (.int p3), .val (.int p4), .val (.int (p1 &&& (7 : Int32))), .unset, .unset, .unset, .unset, .unset, .unset, .unset, .unset] [(.ref b11)])) t → Steps p.tables e below (s₁.setTop (entryFrame m #[(.int p1), (.int p2), (.int p3), (.int p4)] maxLocals)) t := fun t k => k82 t (st83 t k)
        have k85 : ∀ t, Steps p.tables e below (T83.setTop (mkF m 174 #[.val (.int p1), .val (.int p2), .val (.int p3), .val (.int p4), .val (.int (p1 &&& (7 : Int32))), .unset, .unset, .unset, .unset, .unset, .unset, .unset, .unset] [(.int (49 : Int32)), (.int (24 : Int32)), (.ref b11), (.ref b11)])) t → Steps p.tables e below (s₁.setTop (entryFrame m #[(.int p1), (.int p2), (.int p3), (.int p4)] maxLocals)) t := by
          intro t k
          refine k84 t ?_
          show Steps p.tables e below (T83.setTop (mkF m 169 #[.val (.int p1), .val (.int p2), .val (.int p3), .val (.int p4), .val (.int (p1 &&& (7 : Int32))), .unset, .unset, .unset, .unset, .unset, .unset, .unset, .unset] [(.ref b11)])) _
          refine XS.dup X83.here hx rfl (hb hby at_169) rfl rfl ?_
          show Steps p.tables e below (T83.setTop (mkF m 170 #[.val (.int p1), .val (.int p2), .val (.int p3), .val (.int p4), .val (.int (p1 &&& (7 : Int32))), .unset, .unset, .unset, .unset, .unset, .unset, .unset, .unset] [(.ref b11), (.ref b11)])) _
          refine XS.bipush X83.here hx rfl (hb hby at_170) ?_
          show Steps p.tables e below (T83.setTop (mkF m 172 #[.val (.int p1), .val (.int p2), .val (.int p3), .val (.int p4), .val (.int (p1 &&& (7 : Int32))), .unset, .unset, .unset, .unset, .unset, .unset, .unset, .unset] [(.int (24 : Int32)), (.ref b11), (.ref b11)])) _
          refine XS.bipush X83.here hx rfl (hb hby at_172) ?_
          exact k
        obtain ⟨T86, h86, X86, e86, W86, G86, st86⟩ := own_stC X83 hx hZ e83 G83 (j := (24 : Int32)) own_i24 (by omega) (g := (mkF m 174 #[.val (.int p1), .val (.int p2), .val (.int p3), .val (.int p4), .val (.int (p1 &&& (7 : Int32))), .unset, .unset, .unset, .unset, .unset, .unset, .unset, .unset] [(.int (49 : Int32)), (.int (24 : Int32)), (.ref b11), (.ref b11)])) rfl rfl (hb hby at_174)
        have N86 := Fr.snoc X86 N83 ge11
        have K86 : Keep h0 h86 [] := K83.wr W86 (Or.inr bo11)
        have Z86 : n0 ≤ h86.size := Nat.le_trans Z83 (Keep.of_wr W86).1
        have Xo86 := Xo83.wr W86 ge11
        have k87 : ∀ t, Steps p.tables e below (T86.setTop (mkF m 175 #[.val (.int p1), .val (.int p2), .val (.int p3), .val (.int p4), .val (.int (p1 &&& (7 : Int32))), .unset, .unset, .unset, .unset, .unset, .unset, .unset, .unset] [(.ref b11)])) t → Steps p.tables e below (s₁.setTop (entryFrame m #[(.int p1), (.int p2), (.int p3), (.int p4)] maxLocals)) t := fun t k => k85 t (st86 t k)
        have k88 : ∀ t, Steps p.tables e below (T86.setTop (mkF m 180 #[.val (.int p1), .val (.int p2), .val (.int p3), .val (.int p4), .val (.int (p1 &&& (7 : Int32))), .unset, .unset, .unset, .unset, .unset, .unset, .unset, .unset] [(.int (46 : Int32)), (.int (25 : Int32)), (.ref b11), (.ref b11)])) t → Steps p.tables e below (s₁.setTop (entryFrame m #[(.int p1), (.int p2), (.int p3), (.int p4)] maxLocals)) t := by
          intro t k
          refine k87 t ?_
          show Steps p.tables e below (T86.setTop (mkF m 175 #[.val (.int p1), .val (.int p2), .val (.int p3), .val (.int p4), .val (.int (p1 &&& (7 : Int32))), .unset, .unset, .unset, .unset, .unset, .unset, .unset, .unset] [(.ref b11)])) _
          refine XS.dup X86.here hx rfl (hb hby at_175) rfl rfl ?_
          show Steps p.tables e below (T86.setTop (mkF m 176 #[.val (.int p1), .val (.int p2), .val (.int p3), .val (.int p4), .val (.int (p1 &&& (7 : Int32))), .unset, .unset, .unset, .unset, .unset, .unset, .unset, .unset] [(.ref b11), (.ref b11)])) _
          refine XS.bipush X86.here hx rfl (hb hby at_176) ?_
          show Steps p.tables e below (T86.setTop (mkF m 178 #[.val (.int p1), .val (.int p2), .val (.int p3), .val (.int p4), .val (.int (p1 &&& (7 : Int32))), .unset, .unset, .unset, .unset, .unset, .unset, .unset, .unset] [(.int (25 : Int32)), (.ref b11), (.ref b11)])) _
          refine XS.bipush X86.here hx rfl (hb hby at_178) ?_
          exact k
        obtain ⟨T89, h89, X89, e89, W89, G89, st89⟩ := own_stC X86 hx hZ e86 G86 (j := (25 : Int32)) own_i25 (by omega) (g := (mkF m 180 #[.val (.int p1), .val (.int p2), .val (.int p3), .val (.int p4), .val (.int (p1 &&& (7 : Int32))), .unset, .unset, .unset, .unset, .unset, .unset, .unset, .unset] [(.int (46 : Int32)), (.int (25 : Int32)), (.ref b11), (.ref b11)])) rfl rfl (hb hby at_180)
        have N89 := Fr.snoc X89 N86 ge11
        have K89 : Keep h0 h89 [] := K86.wr W89 (Or.inr bo11)
        have Z89 : n0 ≤ h89.size := Nat.le_trans Z86 (Keep.of_wr W89).1
        have Xo89 := Xo86.wr W89 ge11
        have k90 : ∀ t, Steps p.tables e below (T89.setTop (mkF m 181 #[.val (.int p1), .val (.int p2), .val (.int p3), .val (.int p4), .val (.int (p1 &&& (7 : Int32))), .unset, .unset, .unset, .unset, .unset, .unset, .unset, .unset] [(.ref b11)])) t → Steps p.tables e below (s₁.setTop (entryFrame m #[(.int p1), (.int p2), (.int p3), (.int p4)] maxLocals)) t := fun t k => k88 t (st89 t k)
        have k91 : ∀ t, Steps p.tables e below (T89.setTop (mkF m 186 #[.val (.int p1), .val (.int p2), .val (.int p3), .val (.int p4), .val (.int (p1 &&& (7 : Int32))), .unset, .unset, .unset, .unset, .unset, .unset, .unset, .unset] [(.int (48 : Int32)), (.int (26 : Int32)), (.ref b11), (.ref b11)])) t → Steps p.tables e below (s₁.setTop (entryFrame m #[(.int p1), (.int p2), (.int p3), (.int p4)] maxLocals)) t := by
          intro t k
          refine k90 t ?_
          show Steps p.tables e below (T89.setTop (mkF m 181 #[.val (.int p1), .val (.int p2), .val (.int p3), .val (.int p4), .val (.int (p1 &&& (7 : Int32))), .unset, .unset, .unset, .unset, .unset, .unset, .unset, .unset] [(.ref b11)])) _
          refine XS.dup X89.here hx rfl (hb hby at_181) rfl rfl ?_
          show Steps p.tables e below (T89.setTop (mkF m 182 #[.val (.int p1), .val (.int p2), .val (.int p3), .val (.int p4), .val (.int (p1 &&& (7 : Int32))), .unset, .unset, .unset, .unset, .unset, .unset, .unset, .unset] [(.ref b11), (.ref b11)])) _
          refine XS.bipush X89.here hx rfl (hb hby at_182) ?_
          show Steps p.tables e below (T89.setTop (mkF m 184 #[.val (.int p1), .val (.int p2), .val (.int p3), .val (.int p4), .val (.int (p1 &&& (7 : Int32))), .unset, .unset, .unset, .unset, .unset, .unset, .unset, .unset] [(.int (26 : Int32)), (.ref b11), (.ref b11)])) _
          refine XS.bipush X89.here hx rfl (hb hby at_184) ?_
          exact k
        obtain ⟨T92, h92, X92, e92, W92, G92, st92⟩ := own_stC X89 hx hZ e89 G89 (j := (26 : Int32)) own_i26 (by omega) (g := (mkF m 186 #[.val (.int p1), .val (.int p2), .val (.int p3), .val (.int p4), .val (.int (p1 &&& (7 : Int32))), .unset, .unset, .unset, .unset, .unset, .unset, .unset, .unset] [(.int (48 : Int32)), (.int (26 : Int32)), (.ref b11), (.ref b11)])) rfl rfl (hb hby at_186)
        have N92 := Fr.snoc X92 N89 ge11
        have K92 : Keep h0 h92 [] := K89.wr W92 (Or.inr bo11)
        have Z92 : n0 ≤ h92.size := Nat.le_trans Z89 (Keep.of_wr W92).1
        have Xo92 := Xo89.wr W92 ge11
        have k93 : ∀ t, Steps p.tables e below (T92.setTop (mkF m 187 #[.val (.int p1), .val (.int p2), .val (.int p3), .val (.int p4), .val (.int (p1 &&& (7 : Int32))), .unset, .unset, .unset, .unset, .unset, .unset, .unset, .unset] [(.ref b11)])) t → Steps p.tables e below (s₁.setTop (entryFrame m #[(.int p1), (.int p2), (.int p3), (.int p4)] maxLocals)) t := fun t k => k91 t (st92 t k)
        have k94 : ∀ t, Steps p.tables e below (T92.setTop (mkF m 197 #[.val (.int p1), .val (.int p2), .val (.int p3), .val (.int p4), .val (.int (p1 &&& (7 : Int32))), .unset, .unset, .val (.ref b11), .val (.int (own_k1 p1)), .unset, .unset, .unset, .unset] [])) t → Steps p.tables e below (s₁.setTop (entryFrame m #[(.int p1), (.int p2), (.int p3), (.int p4)] maxLocals)) t := by
          intro t k
          refine k93 t ?_
          show Steps p.tables e below (T92.setTop (mkF m 187 #[.val (.int p1), .val (.int p2), .val (.int p3), .val (.int p4), .val (.int (p1 &&& (7 : Int32))), .unset, .unset, .unset, .unset, .unset, .unset, .unset, .unset] [(.ref b11)])) _
          refine XS.astore X92.here hx rfl (hb hby at_187) rfl rfl (l' := #[.val (.int p1), .val (.int p2), .val (.int p3), .val (.int p4), .val (.int (p1 &&& (7 : Int32))), .unset, .unset, .val (.ref b11), .unset, .unset, .unset, .unset, .unset]) rfl ?_
          show Steps p.tables e below (T92.setTop (mkF m 189 #[.val (.int p1), .val (.int p2), .val (.int p3), .val (.int p4), .val (.int (p1 &&& (7 : Int32))), .unset, .unset, .val (.ref b11), .unset, .unset, .unset, .unset, .unset] [])) _
          refine XS.iloadN X92.here hx rfl (hb hby at_189) rfl ?_
          show Steps p.tables e below (T92.setTop (mkF m 190 #[.val (.int p1), .val (.int p2), .val (.int p3), .val (.int p4), .val (.int (p1 &&& (7 : Int32))), .unset, .unset, .val (.ref b11), .unset, .unset, .unset, .unset, .unset] [(.int p1)])) _
          refine XS.iconst X92.here hx rfl (hb hby at_190) ?_
          show Steps p.tables e below (T92.setTop (mkF m 191 #[.val (.int p1), .val (.int p2), .val (.int p3), .val (.int p4), .val (.int (p1 &&& (7 : Int32))), .unset, .unset, .val (.ref b11), .unset, .unset, .unset, .unset, .unset] [(.int (3 : Int32)), (.int p1)])) _
          refine XS.iushr X92.here hx rfl (hb hby at_191) rfl ?_
          show Steps p.tables e below (T92.setTop (mkF m 192 #[.val (.int p1), .val (.int p2), .val (.int p3), .val (.int p4), .val (.int (p1 &&& (7 : Int32))), .unset, .unset, .val (.ref b11), .unset, .unset, .unset, .unset, .unset] [(.int ((p1.toUInt32 >>> ((3 : Int32) &&& 31).toUInt32).toInt32))])) _
          refine XS.bipush X92.here hx rfl (hb hby at_192) ?_
          show Steps p.tables e below (T92.setTop (mkF m 194 #[.val (.int p1), .val (.int p2), .val (.int p3), .val (.int p4), .val (.int (p1 &&& (7 : Int32))), .unset, .unset, .val (.ref b11), .unset, .unset, .unset, .unset, .unset] [(.int (27 : Int32)), (.int ((p1.toUInt32 >>> ((3 : Int32) &&& 31).toUInt32).toInt32))])) _
          refine iremM X92 hx rfl (hb hby at_194) rfl (by decide) ?_
          show Steps p.tables e below (T92.setTop (mkF m 195 #[.val (.int p1), .val (.int p2), .val (.int p3), .val (.int p4), .val (.int (p1 &&& (7 : Int32))), .unset, .unset, .val (.ref b11), .unset, .unset, .unset, .unset, .unset] [(.int (((p1.toUInt32 >>> ((3 : Int32) &&& 31).toUInt32).toInt32) % (27 : Int32)))])) _
          refine XS.istore X92.here hx rfl (hb hby at_195) rfl (l' := #[.val (.int p1), .val (.int p2), .val (.int p3), .val (.int p4), .val (.int (p1 &&& (7 : Int32))), .unset, .unset, .val (.ref b11), .val (.int (((p1.toUInt32 >>> ((3 : Int32) &&& 31).toUInt32).toInt32) % (27 : Int32))), .unset, .unset, .unset, .unset]) rfl ?_
          exact k
        obtain ⟨kn1, hkn1, hkl1⟩ := own_kN1 p1
        have k95 : ∀ t, Steps p.tables e below (T92.setTop (mkF m 205 #[.val (.int p1), .val (.int p2), .val (.int p3), .val (.int p4), .val (.int (p1 &&& (7 : Int32))), .unset, .unset, .val (.ref b11), .val (.int (own_k1 p1)), .val (.int (own_r1 p3)), .unset, .unset, .unset] [])) t → Steps p.tables e below (s₁.setTop (entryFrame m #[(.int p1), (.int p2), (.int p3), (.int p4)] maxLocals)) t := by
          intro t k
          refine k94 t ?_
          show Steps p.tables e below (T92.setTop (mkF m 197 #[.val (.int p1), .val (.int p2), .val (.int p3), .val (.int p4), .val (.int (p1 &&& (7 : Int32))), .unset, .unset, .val (.ref b11), .val (.int (own_k1 p1)), .unset, .unset, .unset, .unset] [])) _
          refine XS.iloadN X92.here hx rfl (hb hby at_197) rfl ?_
          show Steps p.tables e below (T92.setTop (mkF m 198 #[.val (.int p1), .val (.int p2), .val (.int p3), .val (.int p4), .val (.int (p1 &&& (7 : Int32))), .unset, .unset, .val (.ref b11), .val (.int (own_k1 p1)), .unset, .unset, .unset, .unset] [(.int p3)])) _
          refine XS.sipush X92.here hx rfl (hb hby at_198) ?_
          show Steps p.tables e below (T92.setTop (mkF m 201 #[.val (.int p1), .val (.int p2), .val (.int p3), .val (.int p4), .val (.int (p1 &&& (7 : Int32))), .unset, .unset, .val (.ref b11), .val (.int (own_k1 p1)), .unset, .unset, .unset, .unset] [(.int (255 : Int32)), (.int p3)])) _
          refine XS.iand X92.here hx rfl (hb hby at_201) rfl ?_
          show Steps p.tables e below (T92.setTop (mkF m 202 #[.val (.int p1), .val (.int p2), .val (.int p3), .val (.int p4), .val (.int (p1 &&& (7 : Int32))), .unset, .unset, .val (.ref b11), .val (.int (own_k1 p1)), .unset, .unset, .unset, .unset] [(.int (p3 &&& (255 : Int32)))])) _
          refine XS.i2c X92.here hx rfl (hb hby at_202) rfl ?_
          show Steps p.tables e below (T92.setTop (mkF m 203 #[.val (.int p1), .val (.int p2), .val (.int p3), .val (.int p4), .val (.int (p1 &&& (7 : Int32))), .unset, .unset, .val (.ref b11), .val (.int (own_k1 p1)), .unset, .unset, .unset, .unset] [(.int ((p3 &&& (255 : Int32)).toUInt32.toUInt16.toUInt32.toInt32))])) _
          refine XS.istore X92.here hx rfl (hb hby at_203) rfl (l' := #[.val (.int p1), .val (.int p2), .val (.int p3), .val (.int p4), .val (.int (p1 &&& (7 : Int32))), .unset, .unset, .val (.ref b11), .val (.int (own_k1 p1)), .val (.int ((p3 &&& (255 : Int32)).toUInt32.toUInt16.toUInt32.toInt32)), .unset, .unset, .unset]) rfl ?_
          exact k
        have GA96 : own_G Z h92 b11 .char 27 (own_of own_tx0) := G92.congr own_fill1
        obtain ⟨Lg96, Xg96, Ng96⟩ : ∃ L', Stand p l e room_1 s m #[(.int p1), (.int p2), (.int p3), (.int p4)] below meth c T92 L' 1 27 ∧ Fr n0 L' := ⟨_, X92, N92⟩
        have k97 : ∀ t, Steps p.tables e below (T92.setTop (mkF m 212 #[.val (.int p1), .val (.int p2), .val (.int p3), .val (.int p4), .val (.int (p1 &&& (7 : Int32))), .unset, .unset, .val (.ref b11), .val (.int (own_k1 p1)), .val (.int (own_r1 p3)), .unset, .unset, .unset] [(.int (own_r1 p3)), (.int ((own_of own_tx0) kn1))])) t → Steps p.tables e below (s₁.setTop (entryFrame m #[(.int p1), (.int p2), (.int p3), (.int p4)] maxLocals)) t := by
          intro t k
          refine k95 t ?_
          show Steps p.tables e below (T92.setTop (mkF m 205 #[.val (.int p1), .val (.int p2), .val (.int p3), .val (.int p4), .val (.int (p1 &&& (7 : Int32))), .unset, .unset, .val (.ref b11), .val (.int (own_k1 p1)), .val (.int (own_r1 p3)), .unset, .unset, .unset] [])) _
          refine XS.aload Xg96.here hx rfl (hb hby at_205) rfl rfl ?_
          show Steps p.tables e below (T92.setTop (mkF m 207 #[.val (.int p1), .val (.int p2), .val (.int p3), .val (.int p4), .val (.int (p1 &&& (7 : Int32))), .unset, .unset, .val (.ref b11), .val (.int (own_k1 p1)), .val (.int (own_r1 p3)), .unset, .unset, .unset] [(.ref b11)])) _
          refine XS.iload Xg96.here hx rfl (hb hby at_207) rfl ?_
          show Steps p.tables e below (T92.setTop (mkF m 209 #[.val (.int p1), .val (.int p2), .val (.int p3), .val (.int p4), .val (.int (p1 &&& (7 : Int32))), .unset, .unset, .val (.ref b11), .val (.int (own_k1 p1)), .val (.int (own_r1 p3)), .unset, .unset, .unset] [(.int (own_k1 p1)), (.ref b11)])) _
          refine own_ldC Xg96 hx hZ e92 GA96 (j := (own_k1 p1)) hkn1 (by omega) (g := (mkF m 209 #[.val (.int p1), .val (.int p2), .val (.int p3), .val (.int p4), .val (.int (p1 &&& (7 : Int32))), .unset, .unset, .val (.ref b11), .val (.int (own_k1 p1)), .val (.int (own_r1 p3)), .unset, .unset, .unset] [(.int (own_k1 p1)), (.ref b11)])) rfl rfl (hb hby at_209) ?_
          show Steps p.tables e below (T92.setTop (mkF m 210 #[.val (.int p1), .val (.int p2), .val (.int p3), .val (.int p4), .val (.int (p1 &&& (7 : Int32))), .unset, .unset, .val (.ref b11), .val (.int (own_k1 p1)), .val (.int (own_r1 p3)), .unset, .unset, .unset] [(.int ((own_of own_tx0) kn1))])) _
          refine XS.iload Xg96.here hx rfl (hb hby at_210) rfl ?_
          exact k
        by_cases hc212_98 : ((own_of own_tx0) kn1) = (own_r1 p3)
        · have k99 : ∀ t, Steps p.tables e below (T92.setTop (mkF m 228 #[.val (.int p1), .val (.int p2), .val (.int p3), .val (.int p4), .val (.int (p1 &&& (7 : Int32))), .unset, .val (.int (1 : Int32)), .val (.ref b11), .val (.int (own_k1 p1)), .val (.int (own_r1 p3)), .unset, .unset, .unset] [(.int (own_r1 p3)), (.int (own_k1 p1)), (.ref b11)])) t → Steps p.tables e below (s₁.setTop (entryFrame m #[(.int p1), (.int p2), (.int p3), (.int p4)] maxLocals)) t := by
            intro t k
            refine k97 t ?_
            show Steps p.tables e below (T92.setTop (mkF m 212 #[.val (.int p1), .val (.int p2), .val (.int p3), .val (.int p4), .val (.int (p1 &&& (7 : Int32))), .unset, .unset, .val (.ref b11), .val (.int (own_k1 p1)), .val (.int (own_r1 p3)), .unset, .unset, .unset] [(.int (own_r1 p3)), (.int ((own_of own_tx0) kn1))])) _
            refine XS.icmpNo Xg96.here hx rfl (hb hby at_212) rfl (teq hc212_98).2 ?_
            show Steps p.tables e below (T92.setTop (mkF m 215 #[.val (.int p1), .val (.int p2), .val (.int p3), .val (.int p4), .val (.int (p1 &&& (7 : Int32))), .unset, .unset, .val (.ref b11), .val (.int (own_k1 p1)), .val (.int (own_r1 p3)), .unset, .unset, .unset] [])) _
            refine XS.iconst Xg96.here hx rfl (hb hby at_215) ?_
            show Steps p.tables e below (T92.setTop (mkF m 216 #[.val (.int p1), .val (.int p2), .val (.int p3), .val (.int p4), .val (.int (p1 &&& (7 : Int32))), .unset, .unset, .val (.ref b11), .val (.int (own_k1 p1)), .val (.int (own_r1 p3)), .unset, .unset, .unset] [(.int (1 : Int32))])) _
            refine XS.goto Xg96.here hx rfl (pc0 := 216) (pc' := 220) rfl (hb hby at_216) (by decide) (by decide) ?_
            show Steps p.tables e below (T92.setTop (mkF m 220 #[.val (.int p1), .val (.int p2), .val (.int p3), .val (.int p4), .val (.int (p1 &&& (7 : Int32))), .unset, .unset, .val (.ref b11), .val (.int (own_k1 p1)), .val (.int (own_r1 p3)), .unset, .unset, .unset] [(.int (1 : Int32))])) _
            refine XS.istore Xg96.here hx rfl (hb hby at_220) rfl (l' := #[.val (.int p1), .val (.int p2), .val (.int p3), .val (.int p4), .val (.int (p1 &&& (7 : Int32))), .unset, .val (.int (1 : Int32)), .val (.ref b11), .val (.int (own_k1 p1)), .val (.int (own_r1 p3)), .unset, .unset, .unset]) rfl ?_
            show Steps p.tables e below (T92.setTop (mkF m 222 #[.val (.int p1), .val (.int p2), .val (.int p3), .val (.int p4), .val (.int (p1 &&& (7 : Int32))), .unset, .val (.int (1 : Int32)), .val (.ref b11), .val (.int (own_k1 p1)), .val (.int (own_r1 p3)), .unset, .unset, .unset] [])) _
            refine XS.aload Xg96.here hx rfl (hb hby at_222) rfl rfl ?_
            show Steps p.tables e below (T92.setTop (mkF m 224 #[.val (.int p1), .val (.int p2), .val (.int p3), .val (.int p4), .val (.int (p1 &&& (7 : Int32))), .unset, .val (.int (1 : Int32)), .val (.ref b11), .val (.int (own_k1 p1)), .val (.int (own_r1 p3)), .unset, .unset, .unset] [(.ref b11)])) _
            refine XS.iload Xg96.here hx rfl (hb hby at_224) rfl ?_
            show Steps p.tables e below (T92.setTop (mkF m 226 #[.val (.int p1), .val (.int p2), .val (.int p3), .val (.int p4), .val (.int (p1 &&& (7 : Int32))), .unset, .val (.int (1 : Int32)), .val (.ref b11), .val (.int (own_k1 p1)), .val (.int (own_r1 p3)), .unset, .unset, .unset] [(.int (own_k1 p1)), (.ref b11)])) _
            refine XS.iload Xg96.here hx rfl (hb hby at_226) rfl ?_
            exact k
          obtain ⟨T100, h100, X100, e100, W100, G100, st100⟩ := own_stC Xg96 hx hZ e92 GA96 (j := (own_k1 p1)) hkn1 (by omega) (g := (mkF m 228 #[.val (.int p1), .val (.int p2), .val (.int p3), .val (.int p4), .val (.int (p1 &&& (7 : Int32))), .unset, .val (.int (1 : Int32)), .val (.ref b11), .val (.int (own_k1 p1)), .val (.int (own_r1 p3)), .unset, .unset, .unset] [(.int (own_r1 p3)), (.int (own_k1 p1)), (.ref b11)])) rfl rfl (hb hby at_228)
          have N100 := Fr.snoc X100 Ng96 ge11
          have K100 : Keep h0 h100 [] := K92.wr W100 (Or.inr bo11)
          have Z100 : n0 ≤ h100.size := Nat.le_trans Z92 (Keep.of_wr W100).1
          have Xo100 := Xo92.wr W100 ge11
          have k101 : ∀ t, Steps p.tables e below (T100.setTop (mkF m 229 #[.val (.int p1), .val (.int p2), .val (.int p3), .val (.int p4), .val (.int (p1 &&& (7 : Int32))), .unset, .val (.int (1 : Int32)), .val (.ref b11), .val (.int (own_k1 p1)), .val (.int (own_r1 p3)), .unset, .unset, .unset] [])) t → Steps p.tables e below (s₁.setTop (entryFrame m #[(.int p1), (.int p2), (.int p3), (.int p4)] maxLocals)) t := fun t k => k99 t (st100 t k)
          obtain ⟨T102, h102, X102, e102, E102, A102, D102, -, st102⟩ := newO X100 hx hZ hown (hw _ (List.mem_of_getElem? (i := 9) rfl)) (hw _ (List.mem_of_getElem? (i := 2) rfl)) (hw _ (List.mem_of_getElem? (i := 1) rfl)) e100 (g := (mkF m 229 #[.val (.int p1), .val (.int p2), .val (.int p3), .val (.int p4), .val (.int (p1 &&& (7 : Int32))), .unset, .val (.int (1 : Int32)), .val (.ref b11), .val (.int (own_k1 p1)), .val (.int (own_r1 p3)), .unset, .unset, .unset] [])) rfl (hb hby at_229) (by decide) (by decide)
          obtain ⟨b102, g102⟩ : ∃ z, z = h100.size := ⟨_, rfl⟩
          rw [← g102] at A102 D102 st102
          have ge102 : n0 ≤ b102 := Nat.le_trans Z100 (Nat.le_of_eq g102.symm)
          have bo102 : h0.size ≤ b102 := Nat.le_trans K100.1 (Nat.le_of_eq g102.symm)
          have ne103 : b11 ≠ b102 := Nat.ne_of_lt (Nat.lt_of_lt_of_le G100.lt (Nat.le_of_eq g102.symm))
          have Z102 : n0 ≤ h102.size := Nat.le_trans Z100 E102.1
          have K102 : Keep h0 h102 [] := K100.ext E102
          have Xo102 := Xo100.ext E102
          have f104 := G100.ext E102
          have f105 : Fld Z h102 b102 "java/lang/String" "value" "[B" .null := D102 (Or.inr (hw _ (List.mem_of_getElem? (i := 4) rfl))) (ty := (.array .byte)) (by decide)
          have f106 : Fld Z h102 b102 "java/lang/String" "coder" "B" (.int (0 : Int32)) := D102 (Or.inr (hw _ (List.mem_of_getElem? (i := 5) rfl))) (ty := .byte) (by decide)
          have k107 : ∀ t, Steps p.tables e below (T102.setTop (mkF m 232 #[.val (.int p1), .val (.int p2), .val (.int p3), .val (.int p4), .val (.int (p1 &&& (7 : Int32))), .unset, .val (.int (1 : Int32)), .val (.ref b11), .val (.int (own_k1 p1)), .val (.int (own_r1 p3)), .unset, .unset, .unset] [(.ref b102)])) t → Steps p.tables e below (s₁.setTop (entryFrame m #[(.int p1), (.int p2), (.int p3), (.int p4)] maxLocals)) t := fun t k => k101 t (st102 t k)
          have k108 : ∀ t, Steps p.tables e below (T102.setTop (mkF m 235 #[.val (.int p1), .val (.int p2), .val (.int p3), .val (.int p4), .val (.int (p1 &&& (7 : Int32))), .unset, .val (.int (1 : Int32)), .val (.ref b11), .val (.int (own_k1 p1)), .val (.int (own_r1 p3)), .unset, .unset, .unset] [(.ref b11), (.ref b102), (.ref b102)])) t → Steps p.tables e below (s₁.setTop (entryFrame m #[(.int p1), (.int p2), (.int p3), (.int p4)] maxLocals)) t := by
            intro t k
            refine k107 t ?_
            show Steps p.tables e below (T102.setTop (mkF m 232 #[.val (.int p1), .val (.int p2), .val (.int p3), .val (.int p4), .val (.int (p1 &&& (7 : Int32))), .unset, .val (.int (1 : Int32)), .val (.ref b11), .val (.int (own_k1 p1)), .val (.int (own_r1 p3)), .unset, .unset, .unset] [(.ref b102)])) _
            refine XS.dup X102.here hx rfl (hb hby at_232) rfl rfl ?_
            show Steps p.tables e below (T102.setTop (mkF m 233 #[.val (.int p1), .val (.int p2), .val (.int p3), .val (.int p4), .val (.int (p1 &&& (7 : Int32))), .unset, .val (.int (1 : Int32)), .val (.ref b11), .val (.int (own_k1 p1)), .val (.int (own_r1 p3)), .unset, .unset, .unset] [(.ref b102), (.ref b102)])) _
            refine XS.aload X102.here hx rfl (hb hby at_233) rfl rfl ?_
            exact k
          have hal : ∀ i, i < 27 → ¬ ((255 : Int32) < (own_upd (own_of own_tx0) kn1 (nar .char (own_r1 p3))) (0 + i)) := own_halU (f := own_of own_tx0) own_halT1 (own_rr1 _).2.2
          obtain ⟨_, _, ⟨T109, L109, k109c, n109⟩, -, X109, ⟨Lc109, hQ109, l109, y109, z109⟩, st109⟩ := X102.specialBack hx (y := (⟨"java/lang/String", "<init>", "([C)V"⟩ : MethodName)) rfl hown (mvT hZ (hw _ (List.mem_of_getElem? (i := 10) rfl))) (mvT hZ (hw _ (List.mem_of_getElem? (i := 11) rfl))) (mvT hZ (hw _ (List.mem_of_getElem? (i := 12) rfl))) (by decide) (backOf (W := 1) (own_rms1 l Z a0 hw [] b102 b11 .null (.int (0 : Int32)) 27 (own_upd (own_of own_tx0) kn1 (nar .char (own_r1 p3))) cs h102 n0 Z102 A102 f105 f106 f104 ge102 ne103 Xo102 SC hcs (by omega) (by omega) hal) hZ (hw _ (List.mem_of_getElem? (i := 12) rfl)) (hw _ (List.mem_of_getElem? (i := 1) rfl)) (by decide) (by decide)) (g := (mkF m 235 #[.val (.int p1), .val (.int p2), .val (.int p3), .val (.int p4), .val (.int (p1 &&& (7 : Int32))), .unset, .val (.int (1 : Int32)), .val (.ref b11), .val (.int (own_k1 p1)), .val (.int (own_r1 p3)), .unset, .unset, .unset] [(.ref b11), (.ref b102), (.ref b102)])) rfl (by rw [hml]; rfl) (Steps.refl _) (a := b102) (argsL := [(.ref b11)]) (rest := [(.ref b102)]) (lenOf own_pd6 rfl) rfl (by show 2 * 0 + _ ≤ _; exact Nat.le_of_eq rfl) (hb hby at_235) (fun _ _ => ⟨rfl, e102, (by decide : 2 + 1 ≤ _), (by decide : 31 + 28 ≤ _)⟩)
          dsimp only [Pt.U, Pt.locs, Pt.cells, Pt.slots] at X109 l109 y109 z109 st109 hQ109
          subst l109 y109 z109
          obtain ⟨rb_109, rfl, N109q, Kq109, gz109_b, fq109_0, fq109_1, fq109_2⟩ := hQ109
          have N109 := Fr.app N100 N109q
          have ge109_b : n0 ≤ rb_109 := Nat.le_trans Z102 gz109_b
          have bo109_b : h0.size ≤ rb_109 := Nat.le_trans K102.1 gz109_b
          have ne110 : b102 ≠ rb_109 := Nat.ne_of_lt (Nat.lt_of_lt_of_le A102.lt gz109_b)
          have ne111 : b11 ≠ rb_109 := Nat.ne_of_lt (Nat.lt_of_lt_of_le f104.lt gz109_b)
          have f112 := f104.keep Kq109 (List.not_mem_cons_of_ne_of_not_mem ne103 List.not_mem_nil)
          have f113 := A102.keep Kq109
          have Z109 : n0 ≤ T109.heap.size := Nat.le_trans Z102 Kq109.1
          have K109 : Keep h0 T109.heap [] := K102.trans Kq109 (fun x hx => by rcases List.mem_cons.mp hx with rfl | hx; exact Or.inr bo102; exact nomatch hx)
          have Xo109 := Xo102.keep Kq109 (allS ge102 all0)
          have k114 : ∀ t, Steps p.tables e below (T109.setTop (mkF m 238 #[.val (.int p1), .val (.int p2), .val (.int p3), .val (.int p4), .val (.int (p1 &&& (7 : Int32))), .unset, .val (.int (1 : Int32)), .val (.ref b11), .val (.int (own_k1 p1)), .val (.int (own_r1 p3)), .unset, .unset, .unset] [(.ref b102)])) t → Steps p.tables e below (s₁.setTop (entryFrame m #[(.int p1), (.int p2), (.int p3), (.int p4)] maxLocals)) t := fun t k => k108 t (st109.trans k)
          have k115 : ∀ t, Steps p.tables e below (T109.setTop (mkF m 338 #[.val (.int p1), .val (.int p2), .val (.int p3), .val (.int p4), .val (.int (p1 &&& (7 : Int32))), .val (.ref b102), .val (.int (1 : Int32)), .val (.ref b11), .val (.int (own_k1 p1)), .val (.int (own_r1 p3)), .unset, .unset, .unset] [])) t → Steps p.tables e below (s₁.setTop (entryFrame m #[(.int p1), (.int p2), (.int p3), (.int p4)] maxLocals)) t := by
            intro t k
            refine k114 t ?_
            show Steps p.tables e below (T109.setTop (mkF m 238 #[.val (.int p1), .val (.int p2), .val (.int p3), .val (.int p4), .val (.int (p1 &&& (7 : Int32))), .unset, .val (.int (1 : Int32)), .val (.ref b11), .val (.int (own_k1 p1)), .val (.int (own_r1 p3)), .unset, .unset, .unset] [(.ref b102)])) _
            refine XS.astore X109.here hx rfl (hb hby at_238) rfl rfl (l' := #[.val (.int p1), .val (.int p2), .val (.int p3), .val (.int p4), .val (.int (p1 &&& (7 : Int32))), .val (.ref b102), .val (.int (1 : Int32)), .val (.ref b11), .val (.int (own_k1 p1)), .val (.int (own_r1 p3)), .unset, .unset, .unset]) rfl ?_
            show Steps p.tables e below (T109.setTop (mkF m 240 #[.val (.int p1), .val (.int p2), .val (.int p3), .val (.int p4), .val (.int (p1 &&& (7 : Int32))), .val (.ref b102), .val (.int (1 : Int32)), .val (.ref b11), .val (.int (own_k1 p1)), .val (.int (own_r1 p3)), .unset, .unset, .unset] [])) _
            refine XS.goto X109.here hx rfl (pc0 := 240) (pc' := 338) rfl (hb hby at_240) (by decide) (by decide) ?_
            exact k
          exact ⟨s.vm, _, _, _, _, b102, rb_109, 27, (own_b8 (own_upd (own_of own_tx0) kn1 (nar .char (own_r1 p3))) 0), (1 : Int32), (.val (.ref b11)), (.val (.int (own_k1 p1))), (.val (.int (own_r1 p3))), (X109.more (by decide) (by decide)), rfl, N109, Z109, Xo109, (own_since s 0), (Nat.zero_le _), hZ, hown, (hH0.keep K109 (fun x hx => nomatch hx)), f113, fq109_0, fq109_1, fq109_2, (by omega), (Or.inl ⟨rfl, (own_chgR (L := own_tx0) (n := 27) (k := kn1) (own_rr1 _) rfl own_lowT1 hkl1).mpr hc212_98⟩), (Or.inr (Or.inl ⟨_, rfl⟩)), (Or.inr (Or.inr ⟨_, rfl⟩)), (Or.inr (Or.inr ⟨_, rfl⟩)), k115⟩
        · have k116 : ∀ t, Steps p.tables e below (T92.setTop (mkF m 228 #[.val (.int p1), .val (.int p2), .val (.int p3), .val (.int p4), .val (.int (p1 &&& (7 : Int32))), .unset, .val (.int (0 : Int32)), .val (.ref b11), .val (.int (own_k1 p1)), .val (.int (own_r1 p3)), .unset, .unset, .unset] [(.int (own_r1 p3)), (.int (own_k1 p1)), (.ref b11)])) t → Steps p.tables e below (s₁.setTop (entryFrame m #[(.int p1), (.int p2), (.int p3), (.int p4)] maxLocals)) t := by
            intro t k
            refine k97 t ?_
            show Steps p.tables e below (T92.setTop (mkF m 212 #[.val (.int p1), .val (.int p2), .val (.int p3), .val (.int p4), .val (.int (p1 &&& (7 : Int32))), .unset, .unset, .val (.ref b11), .val (.int (own_k1 p1)), .val (.int (own_r1 p3)), .unset, .unset, .unset] [(.int (own_r1 p3)), (.int ((own_of own_tx0) kn1))])) _
            refine XS.icmpYes Xg96.here hx rfl (pc0 := 212) (pc' := 219) rfl (hb hby at_212) rfl (feq hc212_98).2 (by decide) (by decide) ?_
            show Steps p.tables e below (T92.setTop (mkF m 219 #[.val (.int p1), .val (.int p2), .val (.int p3), .val (.int p4), .val (.int (p1 &&& (7 : Int32))), .unset, .unset, .val (.ref b11), .val (.int (own_k1 p1)), .val (.int (own_r1 p3)), .unset, .unset, .unset] [])) _
            refine XS.iconst Xg96.here hx rfl (hb hby at_219) ?_
            show Steps p.tables e below (T92.setTop (mkF m 220 #[.val (.int p1), .val (.int p2), .val (.int p3), .val (.int p4), .val (.int (p1 &&& (7 : Int32))), .unset, .unset, .val (.ref b11), .val (.int (own_k1 p1)), .val (.int (own_r1 p3)), .unset, .unset, .unset] [(.int (0 : Int32))])) _
            refine XS.istore Xg96.here hx rfl (hb hby at_220) rfl (l' := #[.val (.int p1), .val (.int p2), .val (.int p3), .val (.int p4), .val (.int (p1 &&& (7 : Int32))), .unset, .val (.int (0 : Int32)), .val (.ref b11), .val (.int (own_k1 p1)), .val (.int (own_r1 p3)), .unset, .unset, .unset]) rfl ?_
            show Steps p.tables e below (T92.setTop (mkF m 222 #[.val (.int p1), .val (.int p2), .val (.int p3), .val (.int p4), .val (.int (p1 &&& (7 : Int32))), .unset, .val (.int (0 : Int32)), .val (.ref b11), .val (.int (own_k1 p1)), .val (.int (own_r1 p3)), .unset, .unset, .unset] [])) _
            refine XS.aload Xg96.here hx rfl (hb hby at_222) rfl rfl ?_
            show Steps p.tables e below (T92.setTop (mkF m 224 #[.val (.int p1), .val (.int p2), .val (.int p3), .val (.int p4), .val (.int (p1 &&& (7 : Int32))), .unset, .val (.int (0 : Int32)), .val (.ref b11), .val (.int (own_k1 p1)), .val (.int (own_r1 p3)), .unset, .unset, .unset] [(.ref b11)])) _
            refine XS.iload Xg96.here hx rfl (hb hby at_224) rfl ?_
            show Steps p.tables e below (T92.setTop (mkF m 226 #[.val (.int p1), .val (.int p2), .val (.int p3), .val (.int p4), .val (.int (p1 &&& (7 : Int32))), .unset, .val (.int (0 : Int32)), .val (.ref b11), .val (.int (own_k1 p1)), .val (.int (own_r1 p3)), .unset, .unset, .unset] [(.int (own_k1 p1)), (.ref b11)])) _
            refine XS.iload Xg96.here hx rfl (hb hby at_226) rfl ?_
            exact k
          obtain ⟨T117, h117, X117, e117, W117, G117, st117⟩ := own_stC Xg96 hx hZ e92 GA96 (j := (own_k1 p1)) hkn1 (by omega) (g := (mkF m 228 #[.val (.int p1), .val (.int p2), .val (.int p3), .val (.int p4), .val (.int (p1 &&& (7 : Int32))), .unset, .val (.int (0 : Int32)), .val (.ref b11), .val (.int (own_k1 p1)), .val (.int (own_r1 p3)), .unset, .unset, .unset] [(.int (own_r1 p3)), (.int (own_k1 p1)), (.ref b11)])) rfl rfl (hb hby at_228)
          have N117 := Fr.snoc X117 Ng96 ge11
          have K117 : Keep h0 h117 [] := K92.wr W117 (Or.inr bo11)
          have Z117 : n0 ≤ h117.size := Nat.le_trans Z92 (Keep.of_wr W117).1
          have Xo117 := Xo92.wr W117 ge11
          have k118 : ∀ t, Steps p.tables e below (T117.setTop (mkF m 229 #[.val (.int p1), .val (.int p2), .val (.int p3), .val (.int p4), .val (.int (p1 &&& (7 : Int32))), .unset, .val (.int (0 : Int32)), .val (.ref b11), .val (.int (own_k1 p1)), .val (.int (own_r1 p3)), .unset, .unset, .unset] [])) t → Steps p.tables e below (s₁.setTop (entryFrame m #[(.int p1), (.int p2), (.int p3), (.int p4)] maxLocals)) t := fun t k => k116 t (st117 t k)
          obtain ⟨T119, h119, X119, e119, E119, A119, D119, -, st119⟩ := newO X117 hx hZ hown (hw _ (List.mem_of_getElem? (i := 9) rfl)) (hw _ (List.mem_of_getElem? (i := 2) rfl)) (hw _ (List.mem_of_getElem? (i := 1) rfl)) e117 (g := (mkF m 229 #[.val (.int p1), .val (.int p2), .val (.int p3), .val (.int p4), .val (.int (p1 &&& (7 : Int32))), .unset, .val (.int (0 : Int32)), .val (.ref b11), .val (.int (own_k1 p1)), .val (.int (own_r1 p3)), .unset, .unset, .unset] [])) rfl (hb hby at_229) (by decide) (by decide)
          obtain ⟨b119, g119⟩ : ∃ z, z = h117.size := ⟨_, rfl⟩
          rw [← g119] at A119 D119 st119
          have ge119 : n0 ≤ b119 := Nat.le_trans Z117 (Nat.le_of_eq g119.symm)
          have bo119 : h0.size ≤ b119 := Nat.le_trans K117.1 (Nat.le_of_eq g119.symm)
          have ne120 : b11 ≠ b119 := Nat.ne_of_lt (Nat.lt_of_lt_of_le G117.lt (Nat.le_of_eq g119.symm))
          have Z119 : n0 ≤ h119.size := Nat.le_trans Z117 E119.1
          have K119 : Keep h0 h119 [] := K117.ext E119
          have Xo119 := Xo117.ext E119
          have f121 := G117.ext E119
          have f122 : Fld Z h119 b119 "java/lang/String" "value" "[B" .null := D119 (Or.inr (hw _ (List.mem_of_getElem? (i := 4) rfl))) (ty := (.array .byte)) (by decide)
          have f123 : Fld Z h119 b119 "java/lang/String" "coder" "B" (.int (0 : Int32)) := D119 (Or.inr (hw _ (List.mem_of_getElem? (i := 5) rfl))) (ty := .byte) (by decide)
          have k124 : ∀ t, Steps p.tables e below (T119.setTop (mkF m 232 #[.val (.int p1), .val (.int p2), .val (.int p3), .val (.int p4), .val (.int (p1 &&& (7 : Int32))), .unset, .val (.int (0 : Int32)), .val (.ref b11), .val (.int (own_k1 p1)), .val (.int (own_r1 p3)), .unset, .unset, .unset] [(.ref b119)])) t → Steps p.tables e below (s₁.setTop (entryFrame m #[(.int p1), (.int p2), (.int p3), (.int p4)] maxLocals)) t := fun t k => k118 t (st119 t k)
          have k125 : ∀ t, Steps p.tables e below (T119.setTop (mkF m 235 #[.val (.int p1), .val (.int p2), .val (.int p3), .val (.int p4), .val (.int (p1 &&& (7 : Int32))), .unset, .val (.int (0 : Int32)), .val (.ref b11), .val (.int (own_k1 p1)), .val (.int (own_r1 p3)), .unset, .unset, .unset] [(.ref b11), (.ref b119), (.ref b119)])) t → Steps p.tables e below (s₁.setTop (entryFrame m #[(.int p1), (.int p2), (.int p3), (.int p4)] maxLocals)) t := by
            intro t k
            refine k124 t ?_
            show Steps p.tables e below (T119.setTop (mkF m 232 #[.val (.int p1), .val (.int p2), .val (.int p3), .val (.int p4), .val (.int (p1 &&& (7 : Int32))), .unset, .val (.int (0 : Int32)), .val (.ref b11), .val (.int (own_k1 p1)), .val (.int (own_r1 p3)), .unset, .unset, .unset] [(.ref b119)])) _
            refine XS.dup X119.here hx rfl (hb hby at_232) rfl rfl ?_
            show Steps p.tables e below (T119.setTop (mkF m 233 #[.val (.int p1), .val (.int p2), .val (.int p3), .val (.int p4), .val (.int (p1 &&& (7 : Int32))), .unset, .val (.int (0 : Int32)), .val (.ref b11), .val (.int (own_k1 p1)), .val (.int (own_r1 p3)), .unset, .unset, .unset] [(.ref b119), (.ref b119)])) _
            refine XS.aload X119.here hx rfl (hb hby at_233) rfl rfl ?_
            exact k
          have hal : ∀ i, i < 27 → ¬ ((255 : Int32) < (own_upd (own_of own_tx0) kn1 (nar .char (own_r1 p3))) (0 + i)) := own_halU (f := own_of own_tx0) own_halT1 (own_rr1 _).2.2
          obtain ⟨_, _, ⟨T126, L126, k126c, n126⟩, -, X126, ⟨Lc126, hQ126, l126, y126, z126⟩, st126⟩ := X119.specialBack hx (y := (⟨"java/lang/String", "<init>", "([C)V"⟩ : MethodName)) rfl hown (mvT hZ (hw _ (List.mem_of_getElem? (i := 10) rfl))) (mvT hZ (hw _ (List.mem_of_getElem? (i := 11) rfl))) (mvT hZ (hw _ (List.mem_of_getElem? (i := 12) rfl))) (by decide) (backOf (W := 1) (own_rms1 l Z a0 hw [] b119 b11 .null (.int (0 : Int32)) 27 (own_upd (own_of own_tx0) kn1 (nar .char (own_r1 p3))) cs h119 n0 Z119 A119 f122 f123 f121 ge119 ne120 Xo119 SC hcs (by omega) (by omega) hal) hZ (hw _ (List.mem_of_getElem? (i := 12) rfl)) (hw _ (List.mem_of_getElem? (i := 1) rfl)) (by decide) (by decide)) (g := (mkF m 235 #[.val (.int p1), .val (.int p2), .val (.int p3), .val (.int p4), .val (.int (p1 &&& (7 : Int32))), .unset, .val (.int (0 : Int32)), .val (.ref b11), .val (.int (own_k1 p1)), .val (.int (own_r1 p3)), .unset, .unset, .unset] [(.ref b11), (.ref b119), (.ref b119)])) rfl (by rw [hml]; rfl) (Steps.refl _) (a := b119) (argsL := [(.ref b11)]) (rest := [(.ref b119)]) (lenOf own_pd6 rfl) rfl (by show 2 * 0 + _ ≤ _; exact Nat.le_of_eq rfl) (hb hby at_235) (fun _ _ => ⟨rfl, e119, (by decide : 2 + 1 ≤ _), (by decide : 31 + 28 ≤ _)⟩)
          dsimp only [Pt.U, Pt.locs, Pt.cells, Pt.slots] at X126 l126 y126 z126 st126 hQ126
          subst l126 y126 z126
          obtain ⟨rb_126, rfl, N126q, Kq126, gz126_b, fq126_0, fq126_1, fq126_2⟩ := hQ126
          have N126 := Fr.app N117 N126q
          have ge126_b : n0 ≤ rb_126 := Nat.le_trans Z119 gz126_b
          have bo126_b : h0.size ≤ rb_126 := Nat.le_trans K119.1 gz126_b
          have ne127 : b11 ≠ rb_126 := Nat.ne_of_lt (Nat.lt_of_lt_of_le f121.lt gz126_b)
          have ne128 : b119 ≠ rb_126 := Nat.ne_of_lt (Nat.lt_of_lt_of_le A119.lt gz126_b)
          have f129 := f121.keep Kq126 (List.not_mem_cons_of_ne_of_not_mem ne120 List.not_mem_nil)
          have f130 := A119.keep Kq126
          have Z126 : n0 ≤ T126.heap.size := Nat.le_trans Z119 Kq126.1
          have K126 : Keep h0 T126.heap [] := K119.trans Kq126 (fun x hx => by rcases List.mem_cons.mp hx with rfl | hx; exact Or.inr bo119; exact nomatch hx)
          have Xo126 := Xo119.keep Kq126 (allS ge119 all0)
          have k131 : ∀ t, Steps p.tables e below (T126.setTop (mkF m 238 #[.val (.int p1), .val (.int p2), .val (.int p3), .val (.int p4), .val (.int (p1 &&& (7 : Int32))), .unset, .val (.int (0 : Int32)), .val (.ref b11), .val (.int (own_k1 p1)), .val (.int (own_r1 p3)), .unset, .unset, .unset] [(.ref b119)])) t → Steps p.tables e below (s₁.setTop (entryFrame m #[(.int p1), (.int p2), (.int p3), (.int p4)] maxLocals)) t := fun t k => k125 t (st126.trans k)
          have k132 : ∀ t, Steps p.tables e below (T126.setTop (mkF m 338 #[.val (.int p1), .val (.int p2), .val (.int p3), .val (.int p4), .val (.int (p1 &&& (7 : Int32))), .val (.ref b119), .val (.int (0 : Int32)), .val (.ref b11), .val (.int (own_k1 p1)), .val (.int (own_r1 p3)), .unset, .unset, .unset] [])) t → Steps p.tables e below (s₁.setTop (entryFrame m #[(.int p1), (.int p2), (.int p3), (.int p4)] maxLocals)) t := by
            intro t k
            refine k131 t ?_
            show Steps p.tables e below (T126.setTop (mkF m 238 #[.val (.int p1), .val (.int p2), .val (.int p3), .val (.int p4), .val (.int (p1 &&& (7 : Int32))), .unset, .val (.int (0 : Int32)), .val (.ref b11), .val (.int (own_k1 p1)), .val (.int (own_r1 p3)), .unset, .unset, .unset] [(.ref b119)])) _
            refine XS.astore X126.here hx rfl (hb hby at_238) rfl rfl (l' := #[.val (.int p1), .val (.int p2), .val (.int p3), .val (.int p4), .val (.int (p1 &&& (7 : Int32))), .val (.ref b119), .val (.int (0 : Int32)), .val (.ref b11), .val (.int (own_k1 p1)), .val (.int (own_r1 p3)), .unset, .unset, .unset]) rfl ?_
            show Steps p.tables e below (T126.setTop (mkF m 240 #[.val (.int p1), .val (.int p2), .val (.int p3), .val (.int p4), .val (.int (p1 &&& (7 : Int32))), .val (.ref b119), .val (.int (0 : Int32)), .val (.ref b11), .val (.int (own_k1 p1)), .val (.int (own_r1 p3)), .unset, .unset, .unset] [])) _
            refine XS.goto X126.here hx rfl (pc0 := 240) (pc' := 338) rfl (hb hby at_240) (by decide) (by decide) ?_
            exact k
          exact ⟨s.vm, _, _, _, _, b119, rb_126, 27, (own_b8 (own_upd (own_of own_tx0) kn1 (nar .char (own_r1 p3))) 0), (0 : Int32), (.val (.ref b11)), (.val (.int (own_k1 p1))), (.val (.int (own_r1 p3))), (X126.more (by decide) (by decide)), rfl, N126, Z126, Xo126, (own_since s 0), (Nat.zero_le _), hZ, hown, (hH0.keep K126 (fun x hx => nomatch hx)), f130, fq126_0, fq126_1, fq126_2, (by omega), (Or.inr ⟨rfl, fun q => hc212_98 ((own_chgR (L := own_tx0) (n := 27) (k := kn1) (own_rr1 _) rfl own_lowT1 hkl1).mp q)⟩), (Or.inr (Or.inl ⟨_, rfl⟩)), (Or.inr (Or.inr ⟨_, rfl⟩)), (Or.inr (Or.inr ⟨_, rfl⟩)), k132⟩
      · have k133 : ∀ t, Steps p.tables e below (s₁.setTop (mkF m 246 #[.val (.int p1), .val (.int p2), .val (.int p3), .val (.int p4), .val (.int (p1 &&& (7 : Int32))), .unset, .unset, .unset, .unset, .unset, .unset, .unset, .unset] [(.int (2 : Int32)), (.int (p1 &&& (7 : Int32)))])) t → Steps p.tables e below (s₁.setTop (entryFrame m #[(.int p1), (.int p2), (.int p3), (.int p4)] maxLocals)) t := by
          intro t k
          refine k8 t ?_
          show Steps p.tables e below (s₁.setTop (mkF m 24 #[.val (.int p1), .val (.int p2), .val (.int p3), .val (.int p4), .val (.int (p1 &&& (7 : Int32))), .unset, .unset, .unset, .unset, .unset, .unset, .unset, .unset] [(.int (1 : Int32)), (.int (p1 &&& (7 : Int32)))])) _
          refine XS.icmpYes X0.here hx rfl (pc0 := 24) (pc' := 243) rfl (hb hby at_24) rfl (feq hc24_9).2 (by decide) (by decide) ?_
          show Steps p.tables e below (s₁.setTop (mkF m 243 #[.val (.int p1), .val (.int p2), .val (.int p3), .val (.int p4), .val (.int (p1 &&& (7 : Int32))), .unset, .unset, .unset, .unset, .unset, .unset, .unset, .unset] [])) _
          refine XS.iload X0.here hx rfl (hb hby at_243) rfl ?_
          show Steps p.tables e below (s₁.setTop (mkF m 245 #[.val (.int p1), .val (.int p2), .val (.int p3), .val (.int p4), .val (.int (p1 &&& (7 : Int32))), .unset, .unset, .unset, .unset, .unset, .unset, .unset, .unset] [(.int (p1 &&& (7 : Int32)))])) _
          refine XS.iconst X0.here hx rfl (hb hby at_245) ?_
          exact k
        by_cases hc246_134 : (p1 &&& (7 : Int32)) = (2 : Int32)
        · have k135 : ∀ t, Steps p.tables e below (s₁.setTop (mkF m 249 #[.val (.int p1), .val (.int p2), .val (.int p3), .val (.int p4), .val (.int (p1 &&& (7 : Int32))), .unset, .unset, .unset, .unset, .unset, .unset, .unset, .unset] [])) t → Steps p.tables e below (s₁.setTop (entryFrame m #[(.int p1), (.int p2), (.int p3), (.int p4)] maxLocals)) t := by
            intro t k
            refine k133 t ?_
            show Steps p.tables e below (s₁.setTop (mkF m 246 #[.val (.int p1), .val (.int p2), .val (.int p3), .val (.int p4), .val (.int (p1 &&& (7 : Int32))), .unset, .unset, .unset, .unset, .unset, .unset, .unset, .unset] [(.int (2 : Int32)), (.int (p1 &&& (7 : Int32)))])) _
            refine XS.icmpNo X0.here hx rfl (hb hby at_246) rfl (teq hc246_134).2 ?_
            exact k
          obtain ⟨lt136, T136, h136, lb136, k1136, X136, e136, E136, Si136, hk136, Zw136, Ow136, Ea136, Fc136, Fv136, Gb136, Cl136, Li136, st136⟩ := own_ldcL (s := s) (vm0 := s.vm) (text := "") (vs := own_tx3) (n := 0) (z := 0) X0 hx hZ hown hw (hw _ (List.mem_of_getElem? (i := 61) rfl)) (List.mem_of_getElem? (i := 4) rfl) e0 (own_since s 0) (Nat.zero_le _) hH0 (by decide +kernel) (by first | rfl | decide +kernel) rfl rfl (g := (mkF m 249 #[.val (.int p1), .val (.int p2), .val (.int p3), .val (.int p4), .val (.int (p1 &&& (7 : Int32))), .unset, .unset, .unset, .unset, .unset, .unset, .unset, .unset] [])) rfl (hb hby at_249) (cap := 0) (by decide +kernel) (by decide) (by decide) (by decide)
          have hZ : Z.Warmed39 (s.setVm T136.vm).vm := Zw136
          have hown : (s.setVm T136.vm).vm.findClass "com/example/domicile/domicile/tei/TeiVocabularyMayBeRecordPinLaw" = some m.cls := Ow136
          have Z136 : n0 ≤ h136.size := Nat.le_trans Z0 E136.1
          have K136 : Keep h0 h136 [] := (Keep.refl h0 []).ext E136
          have Xo136 := Xo.ext E136
          have k137 : ∀ t, Steps p.tables e below (T136.setTop (mkF m 251 #[.val (.int p1), .val (.int p2), .val (.int p3), .val (.int p4), .val (.int (p1 &&& (7 : Int32))), .unset, .unset, .unset, .unset, .unset, .unset, .unset, .unset] [(.ref lt136)])) t → Steps p.tables e below (s₁.setTop (entryFrame m #[(.int p1), (.int p2), (.int p3), (.int p4)] maxLocals)) t := fun t k => k135 t (st136 t k)
          have k138 : ∀ t, Steps p.tables e below (T136.setTop (mkF m 338 #[.val (.int p1), .val (.int p2), .val (.int p3), .val (.int p4), .val (.int (p1 &&& (7 : Int32))), .val (.ref lt136), .val (.int (0 : Int32)), .unset, .unset, .unset, .unset, .unset, .unset] [])) t → Steps p.tables e below (s₁.setTop (entryFrame m #[(.int p1), (.int p2), (.int p3), (.int p4)] maxLocals)) t := by
            intro t k
            refine k137 t ?_
            show Steps p.tables e below (T136.setTop (mkF m 251 #[.val (.int p1), .val (.int p2), .val (.int p3), .val (.int p4), .val (.int (p1 &&& (7 : Int32))), .unset, .unset, .unset, .unset, .unset, .unset, .unset, .unset] [(.ref lt136)])) _
            refine XS.astore X136.here hx rfl (hb hby at_251) rfl rfl (l' := #[.val (.int p1), .val (.int p2), .val (.int p3), .val (.int p4), .val (.int (p1 &&& (7 : Int32))), .val (.ref lt136), .unset, .unset, .unset, .unset, .unset, .unset, .unset]) rfl ?_
            show Steps p.tables e below (T136.setTop (mkF m 253 #[.val (.int p1), .val (.int p2), .val (.int p3), .val (.int p4), .val (.int (p1 &&& (7 : Int32))), .val (.ref lt136), .unset, .unset, .unset, .unset, .unset, .unset, .unset] [])) _
            refine XS.iconst X136.here hx rfl (hb hby at_253) ?_
            show Steps p.tables e below (T136.setTop (mkF m 254 #[.val (.int p1), .val (.int p2), .val (.int p3), .val (.int p4), .val (.int (p1 &&& (7 : Int32))), .val (.ref lt136), .unset, .unset, .unset, .unset, .unset, .unset, .unset] [(.int (0 : Int32))])) _
            refine XS.istore X136.here hx rfl (hb hby at_254) rfl (l' := #[.val (.int p1), .val (.int p2), .val (.int p3), .val (.int p4), .val (.int (p1 &&& (7 : Int32))), .val (.ref lt136), .val (.int (0 : Int32)), .unset, .unset, .unset, .unset, .unset, .unset]) rfl ?_
            show Steps p.tables e below (T136.setTop (mkF m 256 #[.val (.int p1), .val (.int p2), .val (.int p3), .val (.int p4), .val (.int (p1 &&& (7 : Int32))), .val (.ref lt136), .val (.int (0 : Int32)), .unset, .unset, .unset, .unset, .unset, .unset] [])) _
            refine XS.goto X136.here hx rfl (pc0 := 256) (pc' := 338) rfl (hb hby at_256) (by decide) (by decide) ?_
            exact k
          exact ⟨T136.vm, _, _, _, _, lt136, lb136, 0, (own_of own_tx3), (0 : Int32), (.unset), (.unset), (.unset), (X136.more (by decide) (by decide)), e136, N0, Z136, Xo136, Si136, (Nat.le_trans (Nat.le_refl _) (hk136)), hZ, hown, Cl136.1, Ea136, Fv136, Fc136, Gb136, (by omega), (Or.inr ⟨rfl, (own_notL (by decide))⟩), (Or.inl rfl), (Or.inl rfl), (Or.inl rfl), k138⟩
        · have k139 : ∀ t, Steps p.tables e below (s₁.setTop (mkF m 262 #[.val (.int p1), .val (.int p2), .val (.int p3), .val (.int p4), .val (.int (p1 &&& (7 : Int32))), .unset, .unset, .unset, .unset, .unset, .unset, .unset, .unset] [(.int (3 : Int32)), (.int (p1 &&& (7 : Int32)))])) t → Steps p.tables e below (s₁.setTop (entryFrame m #[(.int p1), (.int p2), (.int p3), (.int p4)] maxLocals)) t := by
            intro t k
            refine k133 t ?_
            show Steps p.tables e below (s₁.setTop (mkF m 246 #[.val (.int p1), .val (.int p2), .val (.int p3), .val (.int p4), .val (.int (p1 &&& (7 : Int32))), .unset, .unset, .unset, .unset, .unset, .unset, .unset, .unset] [(.int (2 : Int32)), (.int (p1 &&& (7 : Int32)))])) _
            refine XS.icmpYes X0.here hx rfl (pc0 := 246) (pc' := 259) rfl (hb hby at_246) rfl (feq hc246_134).2 (by decide) (by decide) ?_
            show Steps p.tables e below (s₁.setTop (mkF m 259 #[.val (.int p1), .val (.int p2), .val (.int p3), .val (.int p4), .val (.int (p1 &&& (7 : Int32))), .unset, .unset, .unset, .unset, .unset, .unset, .unset, .unset] [])) _
            refine XS.iload X0.here hx rfl (hb hby at_259) rfl ?_
            show Steps p.tables e below (s₁.setTop (mkF m 261 #[.val (.int p1), .val (.int p2), .val (.int p3), .val (.int p4), .val (.int (p1 &&& (7 : Int32))), .unset, .unset, .unset, .unset, .unset, .unset, .unset, .unset] [(.int (p1 &&& (7 : Int32)))])) _
            refine XS.iconst X0.here hx rfl (hb hby at_261) ?_
            exact k
          by_cases hc262_140 : (p1 &&& (7 : Int32)) = (3 : Int32)
          · have k141 : ∀ t, Steps p.tables e below (s₁.setTop (mkF m 271 #[.val (.int p1), .val (.int p2), .val (.int p3), .val (.int p4), .val (.int (p1 &&& (7 : Int32))), .unset, .unset, .unset, .unset, .unset, .unset, .unset, .unset] [(.int p3), (.int (((p1.toUInt32 >>> ((3 : Int32) &&& 31).toUInt32).toInt32) &&& (3 : Int32)))])) t → Steps p.tables e below (s₁.setTop (entryFrame m #[(.int p1), (.int p2), (.int p3), (.int p4)] maxLocals)) t := by
              intro t k
              refine k139 t ?_
              show Steps p.tables e below (s₁.setTop (mkF m 262 #[.val (.int p1), .val (.int p2), .val (.int p3), .val (.int p4), .val (.int (p1 &&& (7 : Int32))), .unset, .unset, .unset, .unset, .unset, .unset, .unset, .unset] [(.int (3 : Int32)), (.int (p1 &&& (7 : Int32)))])) _
              refine XS.icmpNo X0.here hx rfl (hb hby at_262) rfl (teq hc262_140).2 ?_
              show Steps p.tables e below (s₁.setTop (mkF m 265 #[.val (.int p1), .val (.int p2), .val (.int p3), .val (.int p4), .val (.int (p1 &&& (7 : Int32))), .unset, .unset, .unset, .unset, .unset, .unset, .unset, .unset] [])) _
              refine XS.iloadN X0.here hx rfl (hb hby at_265) rfl ?_
              show Steps p.tables e below (s₁.setTop (mkF m 266 #[.val (.int p1), .val (.int p2), .val (.int p3), .val (.int p4), .val (.int (p1 &&& (7 : Int32))), .unset, .unset, .unset, .unset, .unset, .unset, .unset, .unset] [(.int p1)])) _
              refine XS.iconst X0.here hx rfl (hb hby at_266) ?_
              show Steps p.tables e below (s₁.setTop (mkF m 267 #[.val (.int p1), .val (.int p2), .val (.int p3), .val (.int p4), .val (.int (p1 &&& (7 : Int32))), .unset, .unset, .unset, .unset, .unset, .unset, .unset, .unset] [(.int (3 : Int32)), (.int p1)])) _
              refine XS.iushr X0.here hx rfl (hb hby at_267) rfl ?_
              show Steps p.tables e below (s₁.setTop (mkF m 268 #[.val (.int p1), .val (.int p2), .val (.int p3), .val (.int p4), .val (.int (p1 &&& (7 : Int32))), .unset, .unset, .unset, .unset, .unset, .unset, .unset, .unset] [(.int ((p1.toUInt32 >>> ((3 : Int32) &&& 31).toUInt32).toInt32))])) _
              refine XS.iconst X0.here hx rfl (hb hby at_268) ?_
              show Steps p.tables e below (s₁.setTop (mkF m 269 #[.val (.int p1), .val (.int p2), .val (.int p3), .val (.int p4), .val (.int (p1 &&& (7 : Int32))), .unset, .unset, .unset, .unset, .unset, .unset, .unset, .unset] [(.int (3 : Int32)), (.int ((p1.toUInt32 >>> ((3 : Int32) &&& 31).toUInt32).toInt32))])) _
              refine XS.iand X0.here hx rfl (hb hby at_269) rfl ?_
              show Steps p.tables e below (s₁.setTop (mkF m 270 #[.val (.int p1), .val (.int p2), .val (.int p3), .val (.int p4), .val (.int (p1 &&& (7 : Int32))), .unset, .unset, .unset, .unset, .unset, .unset, .unset, .unset] [(.int (((p1.toUInt32 >>> ((3 : Int32) &&& 31).toUInt32).toInt32) &&& (3 : Int32)))])) _
              refine XS.iloadN X0.here hx rfl (hb hby at_270) rfl ?_
              exact k
            obtain ⟨_, T142, L142, X142, Si142, Zw142, Ow142, Cl142, hQ142, st142⟩ := own_callSH (s := s) (vm0 := s.vm) (W := 0) X0 hx hw hZ hown (own_since s 0) (Nat.zero_le _) hH0 (hw _ (List.mem_of_getElem? (i := 64) rfl)) (hw _ (List.mem_of_getElem? (i := 65) rfl)) (hw _ (List.mem_of_getElem? (i := 66) rfl)) (hw _ (List.mem_of_getElem? (i := 67) rfl)) (by decide) (own_rmdr l Z a0 hw [] (((p1.toUInt32 >>> ((3 : Int32) &&& 31).toUInt32).toInt32) &&& (3 : Int32)) p3 cs h0 n0 Z0 Xo SC hcs) (by decide) (by decide) e0 (g := (mkF m 271 #[.val (.int p1), .val (.int p2), .val (.int p3), .val (.int p4), .val (.int (p1 &&& (7 : Int32))), .unset, .unset, .unset, .unset, .unset, .unset, .unset, .unset] [(.int p3), (.int (((p1.toUInt32 >>> ((3 : Int32) &&& 31).toUInt32).toInt32) &&& (3 : Int32)))])) rfl (by rw [hml]; rfl) own_pd7 (argsL := [(.int (((p1.toUInt32 >>> ((3 : Int32) &&& 31).toUInt32).toInt32) &&& (3 : Int32))), (.int p3)]) (rest := []) rfl rfl rfl (by show 2 * 0 + _ ≤ _; exact Nat.le_of_eq rfl) (hb hby at_271) (by decide) (by decide)
            have hZ : Z.Warmed39 (s.setVm T142.vm).vm := Zw142
            have hown : (s.setVm T142.vm).vm.findClass "com/example/domicile/domicile/tei/TeiVocabularyMayBeRecordPinLaw" = some m.cls := Ow142
            obtain ⟨rs__142, b_142, n__142, f__142, rfl, N142q, Kq142, gz142_s_, fq142_0, fq142_1, fq142_2, fq142_3, hq142_hn⟩ := hQ142
            have N142 := Fr.app N0 N142q
            have ge142_s_ : n0 ≤ rs__142 := Nat.le_trans Z0 gz142_s_
            have bo142_s_ : h0.size ≤ rs__142 := Nat.le_trans (Keep.refl h0 []).1 gz142_s_
            have Z142 : n0 ≤ T142.heap.size := Nat.le_trans Z0 Kq142.1
            have K142 : Keep h0 T142.heap [] := (Keep.refl h0 []).trans Kq142 (fun x hx => nomatch hx)
            have Xo142 := Xo.keep Kq142 all0
            have k143 : ∀ t, Steps p.tables e below (T142.setTop (mkF m 274 #[.val (.int p1), .val (.int p2), .val (.int p3), .val (.int p4), .val (.int (p1 &&& (7 : Int32))), .unset, .unset, .unset, .unset, .unset, .unset, .unset, .unset] [(.ref rs__142)])) t → Steps p.tables e below (s₁.setTop (entryFrame m #[(.int p1), (.int p2), (.int p3), (.int p4)] maxLocals)) t := fun t k => k141 t (st142 t k)
            have k144 : ∀ t, Steps p.tables e below (T142.setTop (mkF m 338 #[.val (.int p1), .val (.int p2), .val (.int p3), .val (.int p4), .val (.int (p1 &&& (7 : Int32))), .val (.ref rs__142), .val (.int (0 : Int32)), .unset, .unset, .unset, .unset, .unset, .unset] [])) t → Steps p.tables e below (s₁.setTop (entryFrame m #[(.int p1), (.int p2), (.int p3), (.int p4)] maxLocals)) t := by
              intro t k
              refine k143 t ?_
              show Steps p.tables e below (T142.setTop (mkF m 274 #[.val (.int p1), .val (.int p2), .val (.int p3), .val (.int p4), .val (.int (p1 &&& (7 : Int32))), .unset, .unset, .unset, .unset, .unset, .unset, .unset, .unset] [(.ref rs__142)])) _
              refine XS.astore X142.here hx rfl (hb hby at_274) rfl rfl (l' := #[.val (.int p1), .val (.int p2), .val (.int p3), .val (.int p4), .val (.int (p1 &&& (7 : Int32))), .val (.ref rs__142), .unset, .unset, .unset, .unset, .unset, .unset, .unset]) rfl ?_
              show Steps p.tables e below (T142.setTop (mkF m 276 #[.val (.int p1), .val (.int p2), .val (.int p3), .val (.int p4), .val (.int (p1 &&& (7 : Int32))), .val (.ref rs__142), .unset, .unset, .unset, .unset, .unset, .unset, .unset] [])) _
              refine XS.iconst X142.here hx rfl (hb hby at_276) ?_
              show Steps p.tables e below (T142.setTop (mkF m 277 #[.val (.int p1), .val (.int p2), .val (.int p3), .val (.int p4), .val (.int (p1 &&& (7 : Int32))), .val (.ref rs__142), .unset, .unset, .unset, .unset, .unset, .unset, .unset] [(.int (0 : Int32))])) _
              refine XS.istore X142.here hx rfl (hb hby at_277) rfl (l' := #[.val (.int p1), .val (.int p2), .val (.int p3), .val (.int p4), .val (.int (p1 &&& (7 : Int32))), .val (.ref rs__142), .val (.int (0 : Int32)), .unset, .unset, .unset, .unset, .unset, .unset]) rfl ?_
              show Steps p.tables e below (T142.setTop (mkF m 279 #[.val (.int p1), .val (.int p2), .val (.int p3), .val (.int p4), .val (.int (p1 &&& (7 : Int32))), .val (.ref rs__142), .val (.int (0 : Int32)), .unset, .unset, .unset, .unset, .unset, .unset] [])) _
              refine XS.goto X142.here hx rfl (pc0 := 279) (pc' := 338) rfl (hb hby at_279) (by decide) (by decide) ?_
              exact k
            exact ⟨T142.vm, _, _, _, _, rs__142, b_142, n__142, f__142, (0 : Int32), (.unset), (.unset), (.unset), (X142.more (by decide) (by decide)), rfl, N142, Z142, Xo142, Si142, (Nat.le_refl _), hZ, hown, Cl142.1, fq142_0, fq142_1, fq142_2, fq142_3, (by omega), (Or.inr ⟨rfl, (own_not3 hq142_hn (by decide))⟩), (Or.inl rfl), (Or.inl rfl), (Or.inl rfl), k144⟩
          · have k145 : ∀ t, Steps p.tables e below (s₁.setTop (mkF m 285 #[.val (.int p1), .val (.int p2), .val (.int p3), .val (.int p4), .val (.int (p1 &&& (7 : Int32))), .unset, .unset, .unset, .unset, .unset, .unset, .unset, .unset] [(.int (4 : Int32)), (.int (p1 &&& (7 : Int32)))])) t → Steps p.tables e below (s₁.setTop (entryFrame m #[(.int p1), (.int p2), (.int p3), (.int p4)] maxLocals)) t := by
              intro t k
              refine k139 t ?_
              show Steps p.tables e below (s₁.setTop (mkF m 262 #[.val (.int p1), .val (.int p2), .val (.int p3), .val (.int p4), .val (.int (p1 &&& (7 : Int32))), .unset, .unset, .unset, .unset, .unset, .unset, .unset, .unset] [(.int (3 : Int32)), (.int (p1 &&& (7 : Int32)))])) _
              refine XS.icmpYes X0.here hx rfl (pc0 := 262) (pc' := 282) rfl (hb hby at_262) rfl (feq hc262_140).2 (by decide) (by decide) ?_
              show Steps p.tables e below (s₁.setTop (mkF m 282 #[.val (.int p1), .val (.int p2), .val (.int p3), .val (.int p4), .val (.int (p1 &&& (7 : Int32))), .unset, .unset, .unset, .unset, .unset, .unset, .unset, .unset] [])) _
              refine XS.iload X0.here hx rfl (hb hby at_282) rfl ?_
              show Steps p.tables e below (s₁.setTop (mkF m 284 #[.val (.int p1), .val (.int p2), .val (.int p3), .val (.int p4), .val (.int (p1 &&& (7 : Int32))), .unset, .unset, .unset, .unset, .unset, .unset, .unset, .unset] [(.int (p1 &&& (7 : Int32)))])) _
              refine XS.iconst X0.here hx rfl (hb hby at_284) ?_
              exact k
            by_cases hc285_146 : (p1 &&& (7 : Int32)) = (4 : Int32)
            · have k147 : ∀ t, Steps p.tables e below (s₁.setTop (mkF m 288 #[.val (.int p1), .val (.int p2), .val (.int p3), .val (.int p4), .val (.int (p1 &&& (7 : Int32))), .unset, .unset, .unset, .unset, .unset, .unset, .unset, .unset] [])) t → Steps p.tables e below (s₁.setTop (entryFrame m #[(.int p1), (.int p2), (.int p3), (.int p4)] maxLocals)) t := by
                intro t k
                refine k145 t ?_
                show Steps p.tables e below (s₁.setTop (mkF m 285 #[.val (.int p1), .val (.int p2), .val (.int p3), .val (.int p4), .val (.int (p1 &&& (7 : Int32))), .unset, .unset, .unset, .unset, .unset, .unset, .unset, .unset] [(.int (4 : Int32)), (.int (p1 &&& (7 : Int32)))])) _
                refine XS.icmpNo X0.here hx rfl (hb hby at_285) rfl (teq hc285_146).2 ?_
                exact k
              obtain ⟨lt148, T148, h148, lb148, k1148, X148, e148, E148, Si148, hk148, Zw148, Ow148, Ea148, Fc148, Fv148, Gb148, Cl148, Li148, st148⟩ := own_ldcL (s := s) (vm0 := s.vm) (text := "http://www.tei-c.org/ns/1.0/") (vs := own_tx4) (n := 28) (z := 28) X0 hx hZ hown hw (hw _ (List.mem_of_getElem? (i := 58) rfl)) (List.mem_of_getElem? (i := 5) rfl) e0 (own_since s 0) (Nat.zero_le _) hH0 (by decide +kernel) (by first | rfl | decide +kernel) rfl rfl (g := (mkF m 288 #[.val (.int p1), .val (.int p2), .val (.int p3), .val (.int p4), .val (.int (p1 &&& (7 : Int32))), .unset, .unset, .unset, .unset, .unset, .unset, .unset, .unset] [])) rfl (hb hby at_288) (cap := 112) (by decide +kernel) (by decide) (by decide) (by decide)
              have hZ : Z.Warmed39 (s.setVm T148.vm).vm := Zw148
              have hown : (s.setVm T148.vm).vm.findClass "com/example/domicile/domicile/tei/TeiVocabularyMayBeRecordPinLaw" = some m.cls := Ow148
              have Z148 : n0 ≤ h148.size := Nat.le_trans Z0 E148.1
              have K148 : Keep h0 h148 [] := (Keep.refl h0 []).ext E148
              have Xo148 := Xo.ext E148
              have k149 : ∀ t, Steps p.tables e below (T148.setTop (mkF m 290 #[.val (.int p1), .val (.int p2), .val (.int p3), .val (.int p4), .val (.int (p1 &&& (7 : Int32))), .unset, .unset, .unset, .unset, .unset, .unset, .unset, .unset] [(.ref lt148)])) t → Steps p.tables e below (s₁.setTop (entryFrame m #[(.int p1), (.int p2), (.int p3), (.int p4)] maxLocals)) t := fun t k => k147 t (st148 t k)
              have k150 : ∀ t, Steps p.tables e below (T148.setTop (mkF m 338 #[.val (.int p1), .val (.int p2), .val (.int p3), .val (.int p4), .val (.int (p1 &&& (7 : Int32))), .val (.ref lt148), .val (.int (0 : Int32)), .unset, .unset, .unset, .unset, .unset, .unset] [])) t → Steps p.tables e below (s₁.setTop (entryFrame m #[(.int p1), (.int p2), (.int p3), (.int p4)] maxLocals)) t := by
                intro t k
                refine k149 t ?_
                show Steps p.tables e below (T148.setTop (mkF m 290 #[.val (.int p1), .val (.int p2), .val (.int p3), .val (.int p4), .val (.int (p1 &&& (7 : Int32))), .unset, .unset, .unset, .unset, .unset, .unset, .unset, .unset] [(.ref lt148)])) _
                refine XS.astore X148.here hx rfl (hb hby at_290) rfl rfl (l' := #[.val (.int p1), .val (.int p2), .val (.int p3), .val (.int p4), .val (.int (p1 &&& (7 : Int32))), .val (.ref lt148), .unset, .unset, .unset, .unset, .unset, .unset, .unset]) rfl ?_
                show Steps p.tables e below (T148.setTop (mkF m 292 #[.val (.int p1), .val (.int p2), .val (.int p3), .val (.int p4), .val (.int (p1 &&& (7 : Int32))), .val (.ref lt148), .unset, .unset, .unset, .unset, .unset, .unset, .unset] [])) _
                refine XS.iconst X148.here hx rfl (hb hby at_292) ?_
                show Steps p.tables e below (T148.setTop (mkF m 293 #[.val (.int p1), .val (.int p2), .val (.int p3), .val (.int p4), .val (.int (p1 &&& (7 : Int32))), .val (.ref lt148), .unset, .unset, .unset, .unset, .unset, .unset, .unset] [(.int (0 : Int32))])) _
                refine XS.istore X148.here hx rfl (hb hby at_293) rfl (l' := #[.val (.int p1), .val (.int p2), .val (.int p3), .val (.int p4), .val (.int (p1 &&& (7 : Int32))), .val (.ref lt148), .val (.int (0 : Int32)), .unset, .unset, .unset, .unset, .unset, .unset]) rfl ?_
                show Steps p.tables e below (T148.setTop (mkF m 295 #[.val (.int p1), .val (.int p2), .val (.int p3), .val (.int p4), .val (.int (p1 &&& (7 : Int32))), .val (.ref lt148), .val (.int (0 : Int32)), .unset, .unset, .unset, .unset, .unset, .unset] [])) _
                refine XS.goto X148.here hx rfl (pc0 := 295) (pc' := 338) rfl (hb hby at_295) (by decide) (by decide) ?_
                exact k
              exact ⟨T148.vm, _, _, _, _, lt148, lb148, 28, (own_of own_tx4), (0 : Int32), (.unset), (.unset), (.unset), (X148.more (by decide) (by decide)), e148, N0, Z148, Xo148, Si148, (Nat.le_trans (Nat.le_refl _) (hk148)), hZ, hown, Cl148.1, Ea148, Fv148, Fc148, Gb148, (by omega), (Or.inr ⟨rfl, (own_notL (by decide))⟩), (Or.inl rfl), (Or.inl rfl), (Or.inl rfl), k150⟩
            · have k151 : ∀ t, Steps p.tables e below (s₁.setTop (mkF m 301 #[.val (.int p1), .val (.int p2), .val (.int p3), .val (.int p4), .val (.int (p1 &&& (7 : Int32))), .unset, .unset, .unset, .unset, .unset, .unset, .unset, .unset] [(.int (5 : Int32)), (.int (p1 &&& (7 : Int32)))])) t → Steps p.tables e below (s₁.setTop (entryFrame m #[(.int p1), (.int p2), (.int p3), (.int p4)] maxLocals)) t := by
                intro t k
                refine k145 t ?_
                show Steps p.tables e below (s₁.setTop (mkF m 285 #[.val (.int p1), .val (.int p2), .val (.int p3), .val (.int p4), .val (.int (p1 &&& (7 : Int32))), .unset, .unset, .unset, .unset, .unset, .unset, .unset, .unset] [(.int (4 : Int32)), (.int (p1 &&& (7 : Int32)))])) _
                refine XS.icmpYes X0.here hx rfl (pc0 := 285) (pc' := 298) rfl (hb hby at_285) rfl (feq hc285_146).2 (by decide) (by decide) ?_
                show Steps p.tables e below (s₁.setTop (mkF m 298 #[.val (.int p1), .val (.int p2), .val (.int p3), .val (.int p4), .val (.int (p1 &&& (7 : Int32))), .unset, .unset, .unset, .unset, .unset, .unset, .unset, .unset] [])) _
                refine XS.iload X0.here hx rfl (hb hby at_298) rfl ?_
                show Steps p.tables e below (s₁.setTop (mkF m 300 #[.val (.int p1), .val (.int p2), .val (.int p3), .val (.int p4), .val (.int (p1 &&& (7 : Int32))), .unset, .unset, .unset, .unset, .unset, .unset, .unset, .unset] [(.int (p1 &&& (7 : Int32)))])) _
                refine XS.iconst X0.here hx rfl (hb hby at_300) ?_
                exact k
              by_cases hc301_152 : (p1 &&& (7 : Int32)) = (5 : Int32)
              · have k153 : ∀ t, Steps p.tables e below (s₁.setTop (mkF m 304 #[.val (.int p1), .val (.int p2), .val (.int p3), .val (.int p4), .val (.int (p1 &&& (7 : Int32))), .unset, .unset, .unset, .unset, .unset, .unset, .unset, .unset] [])) t → Steps p.tables e below (s₁.setTop (entryFrame m #[(.int p1), (.int p2), (.int p3), (.int p4)] maxLocals)) t := by
                  intro t k
                  refine k151 t ?_
                  show Steps p.tables e below (s₁.setTop (mkF m 301 #[.val (.int p1), .val (.int p2), .val (.int p3), .val (.int p4), .val (.int (p1 &&& (7 : Int32))), .unset, .unset, .unset, .unset, .unset, .unset, .unset, .unset] [(.int (5 : Int32)), (.int (p1 &&& (7 : Int32)))])) _
                  refine XS.icmpNo X0.here hx rfl (hb hby at_301) rfl (teq hc301_152).2 ?_
                  exact k
                obtain ⟨lt154, T154, h154, lb154, k1154, X154, e154, E154, Si154, hk154, Zw154, Ow154, Ea154, Fc154, Fv154, Gb154, Cl154, Li154, st154⟩ := own_ldcL (s := s) (vm0 := s.vm) (text := "http://www.tei-c.org/ns/1.") (vs := own_tx5) (n := 26) (z := 26) X0 hx hZ hown hw (hw _ (List.mem_of_getElem? (i := 71) rfl)) (List.mem_of_getElem? (i := 6) rfl) e0 (own_since s 0) (Nat.zero_le _) hH0 (by decide +kernel) (by first | rfl | decide +kernel) rfl rfl (g := (mkF m 304 #[.val (.int p1), .val (.int p2), .val (.int p3), .val (.int p4), .val (.int (p1 &&& (7 : Int32))), .unset, .unset, .unset, .unset, .unset, .unset, .unset, .unset] [])) rfl (hb hby at_304) (cap := 104) (by decide +kernel) (by decide) (by decide) (by decide)
                have hZ : Z.Warmed39 (s.setVm T154.vm).vm := Zw154
                have hown : (s.setVm T154.vm).vm.findClass "com/example/domicile/domicile/tei/TeiVocabularyMayBeRecordPinLaw" = some m.cls := Ow154
                have Z154 : n0 ≤ h154.size := Nat.le_trans Z0 E154.1
                have K154 : Keep h0 h154 [] := (Keep.refl h0 []).ext E154
                have Xo154 := Xo.ext E154
                have k155 : ∀ t, Steps p.tables e below (T154.setTop (mkF m 306 #[.val (.int p1), .val (.int p2), .val (.int p3), .val (.int p4), .val (.int (p1 &&& (7 : Int32))), .unset, .unset, .unset, .unset, .unset, .unset, .unset, .unset] [(.ref lt154)])) t → Steps p.tables e below (s₁.setTop (entryFrame m #[(.int p1), (.int p2), (.int p3), (.int p4)] maxLocals)) t := fun t k => k153 t (st154 t k)
                have k156 : ∀ t, Steps p.tables e below (T154.setTop (mkF m 338 #[.val (.int p1), .val (.int p2), .val (.int p3), .val (.int p4), .val (.int (p1 &&& (7 : Int32))), .val (.ref lt154), .val (.int (0 : Int32)), .unset, .unset, .unset, .unset, .unset, .unset] [])) t → Steps p.tables e below (s₁.setTop (entryFrame m #[(.int p1), (.int p2), (.int p3), (.int p4)] maxLocals)) t := by
                  intro t k
                  refine k155 t ?_
                  show Steps p.tables e below (T154.setTop (mkF m 306 #[.val (.int p1), .val (.int p2), .val (.int p3), .val (.int p4), .val (.int (p1 &&& (7 : Int32))), .unset, .unset, .unset, .unset, .unset, .unset, .unset, .unset] [(.ref lt154)])) _
                  refine XS.astore X154.here hx rfl (hb hby at_306) rfl rfl (l' := #[.val (.int p1), .val (.int p2), .val (.int p3), .val (.int p4), .val (.int (p1 &&& (7 : Int32))), .val (.ref lt154), .unset, .unset, .unset, .unset, .unset, .unset, .unset]) rfl ?_
                  show Steps p.tables e below (T154.setTop (mkF m 308 #[.val (.int p1), .val (.int p2), .val (.int p3), .val (.int p4), .val (.int (p1 &&& (7 : Int32))), .val (.ref lt154), .unset, .unset, .unset, .unset, .unset, .unset, .unset] [])) _
                  refine XS.iconst X154.here hx rfl (hb hby at_308) ?_
                  show Steps p.tables e below (T154.setTop (mkF m 309 #[.val (.int p1), .val (.int p2), .val (.int p3), .val (.int p4), .val (.int (p1 &&& (7 : Int32))), .val (.ref lt154), .unset, .unset, .unset, .unset, .unset, .unset, .unset] [(.int (0 : Int32))])) _
                  refine XS.istore X154.here hx rfl (hb hby at_309) rfl (l' := #[.val (.int p1), .val (.int p2), .val (.int p3), .val (.int p4), .val (.int (p1 &&& (7 : Int32))), .val (.ref lt154), .val (.int (0 : Int32)), .unset, .unset, .unset, .unset, .unset, .unset]) rfl ?_
                  show Steps p.tables e below (T154.setTop (mkF m 311 #[.val (.int p1), .val (.int p2), .val (.int p3), .val (.int p4), .val (.int (p1 &&& (7 : Int32))), .val (.ref lt154), .val (.int (0 : Int32)), .unset, .unset, .unset, .unset, .unset, .unset] [])) _
                  refine XS.goto X154.here hx rfl (pc0 := 311) (pc' := 338) rfl (hb hby at_311) (by decide) (by decide) ?_
                  exact k
                exact ⟨T154.vm, _, _, _, _, lt154, lb154, 26, (own_of own_tx5), (0 : Int32), (.unset), (.unset), (.unset), (X154.more (by decide) (by decide)), e154, N0, Z154, Xo154, Si154, (Nat.le_trans (Nat.le_refl _) (hk154)), hZ, hown, Cl154.1, Ea154, Fv154, Fc154, Gb154, (by omega), (Or.inr ⟨rfl, (own_notL (by decide))⟩), (Or.inl rfl), (Or.inl rfl), (Or.inl rfl), k156⟩
              · have k157 : ∀ t, Steps p.tables e below (s₁.setTop (mkF m 318 #[.val (.int p1), .val (.int p2), .val (.int p3), .val (.int p4), .val (.int (p1 &&& (7 : Int32))), .unset, .unset, .unset, .unset, .unset, .unset, .unset, .unset] [(.int (6 : Int32)), (.int (p1 &&& (7 : Int32)))])) t → Steps p.tables e below (s₁.setTop (entryFrame m #[(.int p1), (.int p2), (.int p3), (.int p4)] maxLocals)) t := by
                  intro t k
                  refine k151 t ?_
                  show Steps p.tables e below (s₁.setTop (mkF m 301 #[.val (.int p1), .val (.int p2), .val (.int p3), .val (.int p4), .val (.int (p1 &&& (7 : Int32))), .unset, .unset, .unset, .unset, .unset, .unset, .unset, .unset] [(.int (5 : Int32)), (.int (p1 &&& (7 : Int32)))])) _
                  refine XS.icmpYes X0.here hx rfl (pc0 := 301) (pc' := 314) rfl (hb hby at_301) rfl (feq hc301_152).2 (by decide) (by decide) ?_
                  show Steps p.tables e below (s₁.setTop (mkF m 314 #[.val (.int p1), .val (.int p2), .val (.int p3), .val (.int p4), .val (.int (p1 &&& (7 : Int32))), .unset, .unset, .unset, .unset, .unset, .unset, .unset, .unset] [])) _
                  refine XS.iload X0.here hx rfl (hb hby at_314) rfl ?_
                  show Steps p.tables e below (s₁.setTop (mkF m 316 #[.val (.int p1), .val (.int p2), .val (.int p3), .val (.int p4), .val (.int (p1 &&& (7 : Int32))), .unset, .unset, .unset, .unset, .unset, .unset, .unset, .unset] [(.int (p1 &&& (7 : Int32)))])) _
                  refine XS.bipush X0.here hx rfl (hb hby at_316) ?_
                  exact k
                by_cases hc318_158 : (p1 &&& (7 : Int32)) = (6 : Int32)
                · have k159 : ∀ t, Steps p.tables e below (s₁.setTop (mkF m 321 #[.val (.int p1), .val (.int p2), .val (.int p3), .val (.int p4), .val (.int (p1 &&& (7 : Int32))), .unset, .unset, .unset, .unset, .unset, .unset, .unset, .unset] [])) t → Steps p.tables e below (s₁.setTop (entryFrame m #[(.int p1), (.int p2), (.int p3), (.int p4)] maxLocals)) t := by
                    intro t k
                    refine k157 t ?_
                    show Steps p.tables e below (s₁.setTop (mkF m 318 #[.val (.int p1), .val (.int p2), .val (.int p3), .val (.int p4), .val (.int (p1 &&& (7 : Int32))), .unset, .unset, .unset, .unset, .unset, .unset, .unset, .unset] [(.int (6 : Int32)), (.int (p1 &&& (7 : Int32)))])) _
                    refine XS.icmpNo X0.here hx rfl (hb hby at_318) rfl (teq hc318_158).2 ?_
                    exact k
                  obtain ⟨lt160, T160, h160, lb160, k1160, X160, e160, E160, Si160, hk160, Zw160, Ow160, Ea160, Fc160, Fv160, Gb160, Cl160, Li160, st160⟩ := own_ldcL (s := s) (vm0 := s.vm) (text := "HTTP://WWW.TEI-C.ORG/NS/1.0") (vs := own_tx6) (n := 27) (z := 27) X0 hx hZ hown hw (hw _ (List.mem_of_getElem? (i := 76) rfl)) (List.mem_of_getElem? (i := 7) rfl) e0 (own_since s 0) (Nat.zero_le _) hH0 (by decide +kernel) (by first | rfl | decide +kernel) rfl rfl (g := (mkF m 321 #[.val (.int p1), .val (.int p2), .val (.int p3), .val (.int p4), .val (.int (p1 &&& (7 : Int32))), .unset, .unset, .unset, .unset, .unset, .unset, .unset, .unset] [])) rfl (hb hby at_321) (cap := 108) (by decide +kernel) (by decide) (by decide) (by decide)
                  have hZ : Z.Warmed39 (s.setVm T160.vm).vm := Zw160
                  have hown : (s.setVm T160.vm).vm.findClass "com/example/domicile/domicile/tei/TeiVocabularyMayBeRecordPinLaw" = some m.cls := Ow160
                  have Z160 : n0 ≤ h160.size := Nat.le_trans Z0 E160.1
                  have K160 : Keep h0 h160 [] := (Keep.refl h0 []).ext E160
                  have Xo160 := Xo.ext E160
                  have k161 : ∀ t, Steps p.tables e below (T160.setTop (mkF m 323 #[.val (.int p1), .val (.int p2), .val (.int p3), .val (.int p4), .val (.int (p1 &&& (7 : Int32))), .unset, .unset, .unset, .unset, .unset, .unset, .unset, .unset] [(.ref lt160)])) t → Steps p.tables e below (s₁.setTop (entryFrame m #[(.int p1), (.int p2), (.int p3), (.int p4)] maxLocals)) t := fun t k => k159 t (st160 t k)
                  have k162 : ∀ t, Steps p.tables e below (T160.setTop (mkF m 338 #[.val (.int p1), .val (.int p2), .val (.int p3), .val (.int p4), .val (.int (p1 &&& (7 : Int32))), .val (.ref lt160), .val (.int (0 : Int32)), .unset, .unset, .unset, .unset, .unset, .unset] [])) t → Steps p.tables e below (s₁.setTop (entryFrame m #[(.int p1), (.int p2), (.int p3), (.int p4)] maxLocals)) t := by
                    intro t k
                    refine k161 t ?_
                    show Steps p.tables e below (T160.setTop (mkF m 323 #[.val (.int p1), .val (.int p2), .val (.int p3), .val (.int p4), .val (.int (p1 &&& (7 : Int32))), .unset, .unset, .unset, .unset, .unset, .unset, .unset, .unset] [(.ref lt160)])) _
                    refine XS.astore X160.here hx rfl (hb hby at_323) rfl rfl (l' := #[.val (.int p1), .val (.int p2), .val (.int p3), .val (.int p4), .val (.int (p1 &&& (7 : Int32))), .val (.ref lt160), .unset, .unset, .unset, .unset, .unset, .unset, .unset]) rfl ?_
                    show Steps p.tables e below (T160.setTop (mkF m 325 #[.val (.int p1), .val (.int p2), .val (.int p3), .val (.int p4), .val (.int (p1 &&& (7 : Int32))), .val (.ref lt160), .unset, .unset, .unset, .unset, .unset, .unset, .unset] [])) _
                    refine XS.iconst X160.here hx rfl (hb hby at_325) ?_
                    show Steps p.tables e below (T160.setTop (mkF m 326 #[.val (.int p1), .val (.int p2), .val (.int p3), .val (.int p4), .val (.int (p1 &&& (7 : Int32))), .val (.ref lt160), .unset, .unset, .unset, .unset, .unset, .unset, .unset] [(.int (0 : Int32))])) _
                    refine XS.istore X160.here hx rfl (hb hby at_326) rfl (l' := #[.val (.int p1), .val (.int p2), .val (.int p3), .val (.int p4), .val (.int (p1 &&& (7 : Int32))), .val (.ref lt160), .val (.int (0 : Int32)), .unset, .unset, .unset, .unset, .unset, .unset]) rfl ?_
                    show Steps p.tables e below (T160.setTop (mkF m 328 #[.val (.int p1), .val (.int p2), .val (.int p3), .val (.int p4), .val (.int (p1 &&& (7 : Int32))), .val (.ref lt160), .val (.int (0 : Int32)), .unset, .unset, .unset, .unset, .unset, .unset] [])) _
                    refine XS.goto X160.here hx rfl (pc0 := 328) (pc' := 338) rfl (hb hby at_328) (by decide) (by decide) ?_
                    exact k
                  exact ⟨T160.vm, _, _, _, _, lt160, lb160, 27, (own_of own_tx6), (0 : Int32), (.unset), (.unset), (.unset), (X160.more (by decide) (by decide)), e160, N0, Z160, Xo160, Si160, (Nat.le_trans (Nat.le_refl _) (hk160)), hZ, hown, Cl160.1, Ea160, Fv160, Fc160, Gb160, (by omega), (Or.inr ⟨rfl, (fun q => absurd (q.2 0 (by decide)) (by decide))⟩), (Or.inl rfl), (Or.inl rfl), (Or.inl rfl), k162⟩
                · have k163 : ∀ t, Steps p.tables e below (s₁.setTop (mkF m 331 #[.val (.int p1), .val (.int p2), .val (.int p3), .val (.int p4), .val (.int (p1 &&& (7 : Int32))), .unset, .unset, .unset, .unset, .unset, .unset, .unset, .unset] [])) t → Steps p.tables e below (s₁.setTop (entryFrame m #[(.int p1), (.int p2), (.int p3), (.int p4)] maxLocals)) t := by
                    intro t k
                    refine k157 t ?_
                    show Steps p.tables e below (s₁.setTop (mkF m 318 #[.val (.int p1), .val (.int p2), .val (.int p3), .val (.int p4), .val (.int (p1 &&& (7 : Int32))), .unset, .unset, .unset, .unset, .unset, .unset, .unset, .unset] [(.int (6 : Int32)), (.int (p1 &&& (7 : Int32)))])) _
                    refine XS.icmpYes X0.here hx rfl (pc0 := 318) (pc' := 331) rfl (hb hby at_318) rfl (feq hc318_158).2 (by decide) (by decide) ?_
                    exact k
                  obtain ⟨lt164, T164, h164, lb164, k1164, X164, e164, E164, Si164, hk164, Zw164, Ow164, Ea164, Fc164, Fv164, Gb164, Cl164, Li164, st164⟩ := own_ldcL (s := s) (vm0 := s.vm) (text := "address") (vs := own_tx1) (n := 7) (z := 7) X0 hx hZ hown hw (hw _ (List.mem_of_getElem? (i := 59) rfl)) (List.mem_of_getElem? (i := 8) rfl) e0 (own_since s 0) (Nat.zero_le _) hH0 (by decide +kernel) (by first | rfl | decide +kernel) rfl rfl (g := (mkF m 331 #[.val (.int p1), .val (.int p2), .val (.int p3), .val (.int p4), .val (.int (p1 &&& (7 : Int32))), .unset, .unset, .unset, .unset, .unset, .unset, .unset, .unset] [])) rfl (hb hby at_331) (cap := 28) (by decide +kernel) (by decide) (by decide) (by decide)
                  have hZ : Z.Warmed39 (s.setVm T164.vm).vm := Zw164
                  have hown : (s.setVm T164.vm).vm.findClass "com/example/domicile/domicile/tei/TeiVocabularyMayBeRecordPinLaw" = some m.cls := Ow164
                  have Z164 : n0 ≤ h164.size := Nat.le_trans Z0 E164.1
                  have K164 : Keep h0 h164 [] := (Keep.refl h0 []).ext E164
                  have Xo164 := Xo.ext E164
                  have k165 : ∀ t, Steps p.tables e below (T164.setTop (mkF m 333 #[.val (.int p1), .val (.int p2), .val (.int p3), .val (.int p4), .val (.int (p1 &&& (7 : Int32))), .unset, .unset, .unset, .unset, .unset, .unset, .unset, .unset] [(.ref lt164)])) t → Steps p.tables e below (s₁.setTop (entryFrame m #[(.int p1), (.int p2), (.int p3), (.int p4)] maxLocals)) t := fun t k => k163 t (st164 t k)
                  have k166 : ∀ t, Steps p.tables e below (T164.setTop (mkF m 338 #[.val (.int p1), .val (.int p2), .val (.int p3), .val (.int p4), .val (.int (p1 &&& (7 : Int32))), .val (.ref lt164), .val (.int (0 : Int32)), .unset, .unset, .unset, .unset, .unset, .unset] [])) t → Steps p.tables e below (s₁.setTop (entryFrame m #[(.int p1), (.int p2), (.int p3), (.int p4)] maxLocals)) t := by
                    intro t k
                    refine k165 t ?_
                    show Steps p.tables e below (T164.setTop (mkF m 333 #[.val (.int p1), .val (.int p2), .val (.int p3), .val (.int p4), .val (.int (p1 &&& (7 : Int32))), .unset, .unset, .unset, .unset, .unset, .unset, .unset, .unset] [(.ref lt164)])) _
                    refine XS.astore X164.here hx rfl (hb hby at_333) rfl rfl (l' := #[.val (.int p1), .val (.int p2), .val (.int p3), .val (.int p4), .val (.int (p1 &&& (7 : Int32))), .val (.ref lt164), .unset, .unset, .unset, .unset, .unset, .unset, .unset]) rfl ?_
                    show Steps p.tables e below (T164.setTop (mkF m 335 #[.val (.int p1), .val (.int p2), .val (.int p3), .val (.int p4), .val (.int (p1 &&& (7 : Int32))), .val (.ref lt164), .unset, .unset, .unset, .unset, .unset, .unset, .unset] [])) _
                    refine XS.iconst X164.here hx rfl (hb hby at_335) ?_
                    show Steps p.tables e below (T164.setTop (mkF m 336 #[.val (.int p1), .val (.int p2), .val (.int p3), .val (.int p4), .val (.int (p1 &&& (7 : Int32))), .val (.ref lt164), .unset, .unset, .unset, .unset, .unset, .unset, .unset] [(.int (0 : Int32))])) _
                    refine XS.istore X164.here hx rfl (hb hby at_336) rfl (l' := #[.val (.int p1), .val (.int p2), .val (.int p3), .val (.int p4), .val (.int (p1 &&& (7 : Int32))), .val (.ref lt164), .val (.int (0 : Int32)), .unset, .unset, .unset, .unset, .unset, .unset]) rfl ?_
                    exact k
                  exact ⟨T164.vm, _, _, _, _, lt164, lb164, 7, (own_of own_tx1), (0 : Int32), (.unset), (.unset), (.unset), (X164.more (by decide) (by decide)), e164, N0, Z164, Xo164, Si164, (Nat.le_trans (Nat.le_refl _) (hk164)), hZ, hown, Cl164.1, Ea164, Fv164, Fc164, Gb164, (by omega), (Or.inr ⟨rfl, (own_notL (by decide))⟩), (Or.inl rfl), (Or.inl rfl), (Or.inl rfl), k166⟩
  obtain ⟨vmju, kkju, Tju, Lju, hju, sju, bju, nju, fju, flju, q7u, q8u, q9u, Xju, eju, Nju, Zju, Oju, Siju, hkju, Zwju, Owju, Hcju, fm1u, fm2u, fm3u, fm4u, hnju, hclju, hqq7u, hqq8u, hqq9u, kju⟩ := sg167
  have hZ : Z.Warmed39 (s.setVm vmju).vm := Zwju
  have hown : (s.setVm vmju).vm.findClass "com/example/domicile/domicile/tei/TeiVocabularyMayBeRecordPinLaw" = some m.cls := Owju
  have k168 : ∀ t, Steps p.tables e below (Tju.setTop (mkF m 344 #[.val (.int p1), .val (.int p2), .val (.int p3), .val (.int p4), .val (.int (p1 &&& (7 : Int32))), .val (.ref sju), .val (.int flju), .val (.int (p2 &&& (15 : Int32))), q8u, q9u, .unset, .unset, .unset] [])) t → Steps p.tables e below (s₁.setTop (entryFrame m #[(.int p1), (.int p2), (.int p3), (.int p4)] maxLocals)) t := by
    intro t k
    refine kju t ?_
    show Steps p.tables e below (Tju.setTop (mkF m 338 #[.val (.int p1), .val (.int p2), .val (.int p3), .val (.int p4), .val (.int (p1 &&& (7 : Int32))), .val (.ref sju), .val (.int flju), q7u, q8u, q9u, .unset, .unset, .unset] [])) _
    refine XS.iloadN Xju.here hx rfl (hb hby at_338) rfl ?_
    show Steps p.tables e below (Tju.setTop (mkF m 339 #[.val (.int p1), .val (.int p2), .val (.int p3), .val (.int p4), .val (.int (p1 &&& (7 : Int32))), .val (.ref sju), .val (.int flju), q7u, q8u, q9u, .unset, .unset, .unset] [(.int p2)])) _
    refine XS.bipush Xju.here hx rfl (hb hby at_339) ?_
    show Steps p.tables e below (Tju.setTop (mkF m 341 #[.val (.int p1), .val (.int p2), .val (.int p3), .val (.int p4), .val (.int (p1 &&& (7 : Int32))), .val (.ref sju), .val (.int flju), q7u, q8u, q9u, .unset, .unset, .unset] [(.int (15 : Int32)), (.int p2)])) _
    refine XS.iand Xju.here hx rfl (hb hby at_341) rfl ?_
    show Steps p.tables e below (Tju.setTop (mkF m 342 #[.val (.int p1), .val (.int p2), .val (.int p3), .val (.int p4), .val (.int (p1 &&& (7 : Int32))), .val (.ref sju), .val (.int flju), q7u, q8u, q9u, .unset, .unset, .unset] [(.int (p2 &&& (15 : Int32)))])) _
    refine XS.istore Xju.here hx rfl (hb hby at_342) rfl (l' := #[.val (.int p1), .val (.int p2), .val (.int p3), .val (.int p4), .val (.int (p1 &&& (7 : Int32))), .val (.ref sju), .val (.int flju), .val (.int (p2 &&& (15 : Int32))), q8u, q9u, .unset, .unset, .unset]) (by rcases hqq7u with rfl | ⟨v_, rfl⟩ | ⟨v_, rfl⟩ <;> rfl) ?_
    exact k
  have sg585 : ∃ (vmjv : Vm) (kkjv : Nat) (Tjv : State) (Ljv : List Loc) (hjv : Heap) (sjv : Addr) (bjv : Addr) (njv : Nat) (fjv : Nat → Int32) (fljv : Int32) (q10v : Slot) (q11v : Slot) (q12v : Slot), Stand p l e room_1 (s.setVm vmjv) m #[(.int p1), (.int p2), (.int p3), (.int p4)] below meth c Tjv Ljv 8 228 ∧ Tjv.heap = hjv ∧ Fr n0 Ljv ∧ n0 ≤ hjv.size ∧ Old Z n0 hjv ∧ s.Since vmjv kkjv ∧ kkjv ≤ hjv.size ∧ Z.Warmed39 vmjv ∧ vmjv.findClass "com/example/domicile/domicile/tei/TeiVocabularyMayBeRecordPinLaw" = some m.cls ∧ CHv Z own_EL vmjv hjv ∧ Exa Z hjv sju "java/lang/String" ∧ Fld Z hjv sju "java/lang/String" "value" "[B" (.ref bju) ∧ Fld Z hjv sju "java/lang/String" "coder" "B" (.int (0 : Int32)) ∧ own_G Z hjv bju .byte nju fju ∧ Exa Z hjv sjv "java/lang/String" ∧ Fld Z hjv sjv "java/lang/String" "value" "[B" (.ref bjv) ∧ Fld Z hjv sjv "java/lang/String" "coder" "B" (.int (0 : Int32)) ∧ own_G Z hjv bjv .byte njv fjv ∧ njv ≤ 28 ∧ ((fljv = (1 : Int32) ∧ (own_is njv fjv own_tx1 ∨ own_is njv fjv own_tx2)) ∨ (fljv = (0 : Int32) ∧ ¬ (own_is njv fjv own_tx1 ∨ own_is njv fjv own_tx2))) ∧ (q10v = .unset ∨ (∃ v, q10v = .val (.ref v)) ∨ ∃ v, q10v = .val (.int v)) ∧ (q11v = .unset ∨ (∃ v, q11v = .val (.ref v)) ∨ ∃ v, q11v = .val (.int v)) ∧ (q12v = .unset ∨ (∃ v, q12v = .val (.ref v)) ∨ ∃ v, q12v = .val (.int v)) ∧ ∀ t, Steps p.tables e below (Tjv.setTop (mkF m 793 #[.val (.int p1), .val (.int p2), .val (.int p3), .val (.int p4), .val (.int (p1 &&& (7 : Int32))), .val (.ref sju), .val (.int flju), .val (.int (p2 &&& (15 : Int32))), .val (.ref sjv), .val (.int fljv), q10v, q11v, q12v] [])) t → Steps p.tables e below (s₁.setTop (entryFrame m #[(.int p1), (.int p2), (.int p3), (.int p4)] maxLocals)) t := by
    have k169 : ∀ t, Steps p.tables e below (Tju.setTop (mkF m 346 #[.val (.int p1), .val (.int p2), .val (.int p3), .val (.int p4), .val (.int (p1 &&& (7 : Int32))), .val (.ref sju), .val (.int flju), .val (.int (p2 &&& (15 : Int32))), q8u, q9u, .unset, .unset, .unset] [(.int (p2 &&& (15 : Int32)))])) t → Steps p.tables e below (s₁.setTop (entryFrame m #[(.int p1), (.int p2), (.int p3), (.int p4)] maxLocals)) t := by
      intro t k
      refine k168 t ?_
      show Steps p.tables e below (Tju.setTop (mkF m 344 #[.val (.int p1), .val (.int p2), .val (.int p3), .val (.int p4), .val (.int (p1 &&& (7 : Int32))), .val (.ref sju), .val (.int flju), .val (.int (p2 &&& (15 : Int32))), q8u, q9u, .unset, .unset, .unset] [])) _
      refine XS.iload Xju.here hx rfl (hb hby at_344) rfl ?_
      exact k
    by_cases hc346_170 : (p2 &&& (15 : Int32)) = (0 : Int32)
    · have k171 : ∀ t, Steps p.tables e below (Tju.setTop (mkF m 349 #[.val (.int p1), .val (.int p2), .val (.int p3), .val (.int p4), .val (.int (p1 &&& (7 : Int32))), .val (.ref sju), .val (.int flju), .val (.int (p2 &&& (15 : Int32))), q8u, q9u, .unset, .unset, .unset] [])) t → Steps p.tables e below (s₁.setTop (entryFrame m #[(.int p1), (.int p2), (.int p3), (.int p4)] maxLocals)) t := by
        intro t k
        refine k169 t ?_
        show Steps p.tables e below (Tju.setTop (mkF m 346 #[.val (.int p1), .val (.int p2), .val (.int p3), .val (.int p4), .val (.int (p1 &&& (7 : Int32))), .val (.ref sju), .val (.int flju), .val (.int (p2 &&& (15 : Int32))), q8u, q9u, .unset, .unset, .unset] [(.int (p2 &&& (15 : Int32)))])) _
        refine XS.ifNo Xju.here hx rfl (hb hby at_346) rfl ((if0 _ _).trans (teq hc346_170).2) ?_
        exact k
      obtain ⟨lt172, T172, h172, lb172, k1172, X172, e172, E172, Si172, hk172, Zw172, Ow172, Ea172, Fc172, Fv172, Gb172, Cl172, Li172, st172⟩ := own_ldcL (s := s) (vm0 := vmju) (text := "address") (vs := own_tx1) (n := 7) (z := 7) Xju hx hZ hown hw (hw _ (List.mem_of_getElem? (i := 59) rfl)) (List.mem_of_getElem? (i := 8) rfl) eju Siju (Nat.le_trans (Nat.le_refl _) (hkju)) Hcju (by decide +kernel) (by first | rfl | decide +kernel) rfl rfl (g := (mkF m 349 #[.val (.int p1), .val (.int p2), .val (.int p3), .val (.int p4), .val (.int (p1 &&& (7 : Int32))), .val (.ref sju), .val (.int flju), .val (.int (p2 &&& (15 : Int32))), q8u, q9u, .unset, .unset, .unset] [])) rfl (hb hby at_349) (cap := 28) (by decide +kernel) (by decide) (by decide) (by decide)
      have hZ : Z.Warmed39 (s.setVm T172.vm).vm := Zw172
      have hown : (s.setVm T172.vm).vm.findClass "com/example/domicile/domicile/tei/TeiVocabularyMayBeRecordPinLaw" = some m.cls := Ow172
      have f173 := fm1u.ext E172
      have f174 := fm2u.ext E172
      have f175 := fm3u.ext E172
      have f176 := fm4u.ext E172
      have Z172 : n0 ≤ h172.size := Nat.le_trans Zju E172.1
      have K172 : Keep hju h172 [] := (Keep.refl hju []).ext E172
      have Xo172 := Oju.ext E172
      have k177 : ∀ t, Steps p.tables e below (T172.setTop (mkF m 351 #[.val (.int p1), .val (.int p2), .val (.int p3), .val (.int p4), .val (.int (p1 &&& (7 : Int32))), .val (.ref sju), .val (.int flju), .val (.int (p2 &&& (15 : Int32))), q8u, q9u, .unset, .unset, .unset] [(.ref lt172)])) t → Steps p.tables e below (s₁.setTop (entryFrame m #[(.int p1), (.int p2), (.int p3), (.int p4)] maxLocals)) t := fun t k => k171 t (st172 t k)
      have k178 : ∀ t, Steps p.tables e below (T172.setTop (mkF m 793 #[.val (.int p1), .val (.int p2), .val (.int p3), .val (.int p4), .val (.int (p1 &&& (7 : Int32))), .val (.ref sju), .val (.int flju), .val (.int (p2 &&& (15 : Int32))), .val (.ref lt172), .val (.int (1 : Int32)), .unset, .unset, .unset] [])) t → Steps p.tables e below (s₁.setTop (entryFrame m #[(.int p1), (.int p2), (.int p3), (.int p4)] maxLocals)) t := by
        intro t k
        refine k177 t ?_
        show Steps p.tables e below (T172.setTop (mkF m 351 #[.val (.int p1), .val (.int p2), .val (.int p3), .val (.int p4), .val (.int (p1 &&& (7 : Int32))), .val (.ref sju), .val (.int flju), .val (.int (p2 &&& (15 : Int32))), q8u, q9u, .unset, .unset, .unset] [(.ref lt172)])) _
        refine XS.astore X172.here hx rfl (hb hby at_351) rfl rfl (l' := #[.val (.int p1), .val (.int p2), .val (.int p3), .val (.int p4), .val (.int (p1 &&& (7 : Int32))), .val (.ref sju), .val (.int flju), .val (.int (p2 &&& (15 : Int32))), .val (.ref lt172), q9u, .unset, .unset, .unset]) (by rcases hqq8u with rfl | ⟨v_, rfl⟩ | ⟨v_, rfl⟩ <;> rfl) ?_
        show Steps p.tables e below (T172.setTop (mkF m 353 #[.val (.int p1), .val (.int p2), .val (.int p3), .val (.int p4), .val (.int (p1 &&& (7 : Int32))), .val (.ref sju), .val (.int flju), .val (.int (p2 &&& (15 : Int32))), .val (.ref lt172), q9u, .unset, .unset, .unset] [])) _
        refine XS.iconst X172.here hx rfl (hb hby at_353) ?_
        show Steps p.tables e below (T172.setTop (mkF m 354 #[.val (.int p1), .val (.int p2), .val (.int p3), .val (.int p4), .val (.int (p1 &&& (7 : Int32))), .val (.ref sju), .val (.int flju), .val (.int (p2 &&& (15 : Int32))), .val (.ref lt172), q9u, .unset, .unset, .unset] [(.int (1 : Int32))])) _
        refine XS.istore X172.here hx rfl (hb hby at_354) rfl (l' := #[.val (.int p1), .val (.int p2), .val (.int p3), .val (.int p4), .val (.int (p1 &&& (7 : Int32))), .val (.ref sju), .val (.int flju), .val (.int (p2 &&& (15 : Int32))), .val (.ref lt172), .val (.int (1 : Int32)), .unset, .unset, .unset]) (by rcases hqq9u with rfl | ⟨v_, rfl⟩ | ⟨v_, rfl⟩ <;> rfl) ?_
        show Steps p.tables e below (T172.setTop (mkF m 356 #[.val (.int p1), .val (.int p2), .val (.int p3), .val (.int p4), .val (.int (p1 &&& (7 : Int32))), .val (.ref sju), .val (.int flju), .val (.int (p2 &&& (15 : Int32))), .val (.ref lt172), .val (.int (1 : Int32)), .unset, .unset, .unset] [])) _
        refine XS.goto X172.here hx rfl (pc0 := 356) (pc' := 793) rfl (hb hby at_356) (by decide) (by decide) ?_
        exact k
      exact ⟨T172.vm, _, _, _, _, lt172, lb172, 7, (own_of own_tx1), (1 : Int32), (.unset), (.unset), (.unset), (X172.more (by decide) (by decide)), e172, Nju, Z172, Xo172, Si172, (Nat.le_trans (Nat.le_refl _) (hk172)), hZ, hown, Cl172.1, f173, f174, f175, f176, Ea172, Fv172, Fc172, Gb172, (by omega), (Or.inl ⟨rfl, Or.inl ⟨rfl, fun i hi => rfl⟩⟩), (Or.inl rfl), (Or.inl rfl), (Or.inl rfl), k178⟩
    · have k179 : ∀ t, Steps p.tables e below (Tju.setTop (mkF m 362 #[.val (.int p1), .val (.int p2), .val (.int p3), .val (.int p4), .val (.int (p1 &&& (7 : Int32))), .val (.ref sju), .val (.int flju), .val (.int (p2 &&& (15 : Int32))), q8u, q9u, .unset, .unset, .unset] [(.int (1 : Int32)), (.int (p2 &&& (15 : Int32)))])) t → Steps p.tables e below (s₁.setTop (entryFrame m #[(.int p1), (.int p2), (.int p3), (.int p4)] maxLocals)) t := by
        intro t k
        refine k169 t ?_
        show Steps p.tables e below (Tju.setTop (mkF m 346 #[.val (.int p1), .val (.int p2), .val (.int p3), .val (.int p4), .val (.int (p1 &&& (7 : Int32))), .val (.ref sju), .val (.int flju), .val (.int (p2 &&& (15 : Int32))), q8u, q9u, .unset, .unset, .unset] [(.int (p2 &&& (15 : Int32)))])) _
        refine XS.ifYes Xju.here hx rfl (pc0 := 346) (pc' := 359) rfl (hb hby at_346) rfl ((if0 _ _).trans (feq hc346_170).2) (by decide) (by decide) ?_
        show Steps p.tables e below (Tju.setTop (mkF m 359 #[.val (.int p1), .val (.int p2), .val (.int p3), .val (.int p4), .val (.int (p1 &&& (7 : Int32))), .val (.ref sju), .val (.int flju), .val (.int (p2 &&& (15 : Int32))), q8u, q9u, .unset, .unset, .unset] [])) _
        refine XS.iload Xju.here hx rfl (hb hby at_359) rfl ?_
        show Steps p.tables e below (Tju.setTop (mkF m 361 #[.val (.int p1), .val (.int p2), .val (.int p3), .val (.int p4), .val (.int (p1 &&& (7 : Int32))), .val (.ref sju), .val (.int flju), .val (.int (p2 &&& (15 : Int32))), q8u, q9u, .unset, .unset, .unset] [(.int (p2 &&& (15 : Int32)))])) _
        refine XS.iconst Xju.here hx rfl (hb hby at_361) ?_
        exact k
      by_cases hc362_180 : (p2 &&& (15 : Int32)) = (1 : Int32)
      · have k181 : ∀ t, Steps p.tables e below (Tju.setTop (mkF m 365 #[.val (.int p1), .val (.int p2), .val (.int p3), .val (.int p4), .val (.int (p1 &&& (7 : Int32))), .val (.ref sju), .val (.int flju), .val (.int (p2 &&& (15 : Int32))), q8u, q9u, .unset, .unset, .unset] [])) t → Steps p.tables e below (s₁.setTop (entryFrame m #[(.int p1), (.int p2), (.int p3), (.int p4)] maxLocals)) t := by
          intro t k
          refine k179 t ?_
          show Steps p.tables e below (Tju.setTop (mkF m 362 #[.val (.int p1), .val (.int p2), .val (.int p3), .val (.int p4), .val (.int (p1 &&& (7 : Int32))), .val (.ref sju), .val (.int flju), .val (.int (p2 &&& (15 : Int32))), q8u, q9u, .unset, .unset, .unset] [(.int (1 : Int32)), (.int (p2 &&& (15 : Int32)))])) _
          refine XS.icmpNo Xju.here hx rfl (hb hby at_362) rfl (teq hc362_180).2 ?_
          exact k
        obtain ⟨lt182, T182, h182, lb182, k1182, X182, e182, E182, Si182, hk182, Zw182, Ow182, Ea182, Fc182, Fv182, Gb182, Cl182, Li182, st182⟩ := own_ldcL (s := s) (vm0 := vmju) (text := "residence") (vs := own_tx2) (n := 9) (z := 9) Xju hx hZ hown hw (hw _ (List.mem_of_getElem? (i := 69) rfl)) (List.mem_of_getElem? (i := 9) rfl) eju Siju (Nat.le_trans (Nat.le_refl _) (hkju)) Hcju (by decide +kernel) (by first | rfl | decide +kernel) rfl rfl (g := (mkF m 365 #[.val (.int p1), .val (.int p2), .val (.int p3), .val (.int p4), .val (.int (p1 &&& (7 : Int32))), .val (.ref sju), .val (.int flju), .val (.int (p2 &&& (15 : Int32))), q8u, q9u, .unset, .unset, .unset] [])) rfl (hb hby at_365) (cap := 36) (by decide +kernel) (by decide) (by decide) (by decide)
        have hZ : Z.Warmed39 (s.setVm T182.vm).vm := Zw182
        have hown : (s.setVm T182.vm).vm.findClass "com/example/domicile/domicile/tei/TeiVocabularyMayBeRecordPinLaw" = some m.cls := Ow182
        have f183 := fm1u.ext E182
        have f184 := fm2u.ext E182
        have f185 := fm3u.ext E182
        have f186 := fm4u.ext E182
        have Z182 : n0 ≤ h182.size := Nat.le_trans Zju E182.1
        have K182 : Keep hju h182 [] := (Keep.refl hju []).ext E182
        have Xo182 := Oju.ext E182
        have k187 : ∀ t, Steps p.tables e below (T182.setTop (mkF m 367 #[.val (.int p1), .val (.int p2), .val (.int p3), .val (.int p4), .val (.int (p1 &&& (7 : Int32))), .val (.ref sju), .val (.int flju), .val (.int (p2 &&& (15 : Int32))), q8u, q9u, .unset, .unset, .unset] [(.ref lt182)])) t → Steps p.tables e below (s₁.setTop (entryFrame m #[(.int p1), (.int p2), (.int p3), (.int p4)] maxLocals)) t := fun t k => k181 t (st182 t k)
        have k188 : ∀ t, Steps p.tables e below (T182.setTop (mkF m 793 #[.val (.int p1), .val (.int p2), .val (.int p3), .val (.int p4), .val (.int (p1 &&& (7 : Int32))), .val (.ref sju), .val (.int flju), .val (.int (p2 &&& (15 : Int32))), .val (.ref lt182), .val (.int (1 : Int32)), .unset, .unset, .unset] [])) t → Steps p.tables e below (s₁.setTop (entryFrame m #[(.int p1), (.int p2), (.int p3), (.int p4)] maxLocals)) t := by
          intro t k
          refine k187 t ?_
          show Steps p.tables e below (T182.setTop (mkF m 367 #[.val (.int p1), .val (.int p2), .val (.int p3), .val (.int p4), .val (.int (p1 &&& (7 : Int32))), .val (.ref sju), .val (.int flju), .val (.int (p2 &&& (15 : Int32))), q8u, q9u, .unset, .unset, .unset] [(.ref lt182)])) _
          refine XS.astore X182.here hx rfl (hb hby at_367) rfl rfl (l' := #[.val (.int p1), .val (.int p2), .val (.int p3), .val (.int p4), .val (.int (p1 &&& (7 : Int32))), .val (.ref sju), .val (.int flju), .val (.int (p2 &&& (15 : Int32))), .val (.ref lt182), q9u, .unset, .unset, .unset]) (by rcases hqq8u with rfl | ⟨v_, rfl⟩ | ⟨v_, rfl⟩ <;> rfl) ?_
          show Steps p.tables e below (T182.setTop (mkF m 369 #[.val (.int p1), .val (.int p2), .val (.int p3), .val (.int p4), .val (.int (p1 &&& (7 : Int32))), .val (.ref sju), .val (.int flju), .val (.int (p2 &&& (15 : Int32))), .val (.ref lt182), q9u, .unset, .unset, .unset] [])) _
          refine XS.iconst X182.here hx rfl (hb hby at_369) ?_
          show Steps p.tables e below (T182.setTop (mkF m 370 #[.val (.int p1), .val (.int p2), .val (.int p3), .val (.int p4), .val (.int (p1 &&& (7 : Int32))), .val (.ref sju), .val (.int flju), .val (.int (p2 &&& (15 : Int32))), .val (.ref lt182), q9u, .unset, .unset, .unset] [(.int (1 : Int32))])) _
          refine XS.istore X182.here hx rfl (hb hby at_370) rfl (l' := #[.val (.int p1), .val (.int p2), .val (.int p3), .val (.int p4), .val (.int (p1 &&& (7 : Int32))), .val (.ref sju), .val (.int flju), .val (.int (p2 &&& (15 : Int32))), .val (.ref lt182), .val (.int (1 : Int32)), .unset, .unset, .unset]) (by rcases hqq9u with rfl | ⟨v_, rfl⟩ | ⟨v_, rfl⟩ <;> rfl) ?_
          show Steps p.tables e below (T182.setTop (mkF m 372 #[.val (.int p1), .val (.int p2), .val (.int p3), .val (.int p4), .val (.int (p1 &&& (7 : Int32))), .val (.ref sju), .val (.int flju), .val (.int (p2 &&& (15 : Int32))), .val (.ref lt182), .val (.int (1 : Int32)), .unset, .unset, .unset] [])) _
          refine XS.goto X182.here hx rfl (pc0 := 372) (pc' := 793) rfl (hb hby at_372) (by decide) (by decide) ?_
          exact k
        exact ⟨T182.vm, _, _, _, _, lt182, lb182, 9, (own_of own_tx2), (1 : Int32), (.unset), (.unset), (.unset), (X182.more (by decide) (by decide)), e182, Nju, Z182, Xo182, Si182, (Nat.le_trans (Nat.le_refl _) (hk182)), hZ, hown, Cl182.1, f183, f184, f185, f186, Ea182, Fv182, Fc182, Gb182, (by omega), (Or.inl ⟨rfl, Or.inr ⟨rfl, fun i hi => rfl⟩⟩), (Or.inl rfl), (Or.inl rfl), (Or.inl rfl), k188⟩
      · have k189 : ∀ t, Steps p.tables e below (Tju.setTop (mkF m 378 #[.val (.int p1), .val (.int p2), .val (.int p3), .val (.int p4), .val (.int (p1 &&& (7 : Int32))), .val (.ref sju), .val (.int flju), .val (.int (p2 &&& (15 : Int32))), q8u, q9u, .unset, .unset, .unset] [(.int (2 : Int32)), (.int (p2 &&& (15 : Int32)))])) t → Steps p.tables e below (s₁.setTop (entryFrame m #[(.int p1), (.int p2), (.int p3), (.int p4)] maxLocals)) t := by
          intro t k
          refine k179 t ?_
          show Steps p.tables e below (Tju.setTop (mkF m 362 #[.val (.int p1), .val (.int p2), .val (.int p3), .val (.int p4), .val (.int (p1 &&& (7 : Int32))), .val (.ref sju), .val (.int flju), .val (.int (p2 &&& (15 : Int32))), q8u, q9u, .unset, .unset, .unset] [(.int (1 : Int32)), (.int (p2 &&& (15 : Int32)))])) _
          refine XS.icmpYes Xju.here hx rfl (pc0 := 362) (pc' := 375) rfl (hb hby at_362) rfl (feq hc362_180).2 (by decide) (by decide) ?_
          show Steps p.tables e below (Tju.setTop (mkF m 375 #[.val (.int p1), .val (.int p2), .val (.int p3), .val (.int p4), .val (.int (p1 &&& (7 : Int32))), .val (.ref sju), .val (.int flju), .val (.int (p2 &&& (15 : Int32))), q8u, q9u, .unset, .unset, .unset] [])) _
          refine XS.iload Xju.here hx rfl (hb hby at_375) rfl ?_
          show Steps p.tables e below (Tju.setTop (mkF m 377 #[.val (.int p1), .val (.int p2), .val (.int p3), .val (.int p4), .val (.int (p1 &&& (7 : Int32))), .val (.ref sju), .val (.int flju), .val (.int (p2 &&& (15 : Int32))), q8u, q9u, .unset, .unset, .unset] [(.int (p2 &&& (15 : Int32)))])) _
          refine XS.iconst Xju.here hx rfl (hb hby at_377) ?_
          exact k
        by_cases hc378_190 : (p2 &&& (15 : Int32)) = (2 : Int32)
        · have k191 : ∀ t, Steps p.tables e below (Tju.setTop (mkF m 383 #[.val (.int p1), .val (.int p2), .val (.int p3), .val (.int p4), .val (.int (p1 &&& (7 : Int32))), .val (.ref sju), .val (.int flju), .val (.int (p2 &&& (15 : Int32))), q8u, q9u, .unset, .unset, .unset] [(.int (7 : Int32))])) t → Steps p.tables e below (s₁.setTop (entryFrame m #[(.int p1), (.int p2), (.int p3), (.int p4)] maxLocals)) t := by
            intro t k
            refine k189 t ?_
            show Steps p.tables e below (Tju.setTop (mkF m 378 #[.val (.int p1), .val (.int p2), .val (.int p3), .val (.int p4), .val (.int (p1 &&& (7 : Int32))), .val (.ref sju), .val (.int flju), .val (.int (p2 &&& (15 : Int32))), q8u, q9u, .unset, .unset, .unset] [(.int (2 : Int32)), (.int (p2 &&& (15 : Int32)))])) _
            refine XS.icmpNo Xju.here hx rfl (hb hby at_378) rfl (teq hc378_190).2 ?_
            show Steps p.tables e below (Tju.setTop (mkF m 381 #[.val (.int p1), .val (.int p2), .val (.int p3), .val (.int p4), .val (.int (p1 &&& (7 : Int32))), .val (.ref sju), .val (.int flju), .val (.int (p2 &&& (15 : Int32))), q8u, q9u, .unset, .unset, .unset] [])) _
            refine XS.bipush Xju.here hx rfl (hb hby at_381) ?_
            exact k
          obtain ⟨T192, h192, X192, e192, E192, A192, st192⟩ := own_newC Xju hx hZ (hw _ (List.mem_of_getElem? (i := 8) rfl)) eju (g := (mkF m 383 #[.val (.int p1), .val (.int p2), .val (.int p3), .val (.int p4), .val (.int (p1 &&& (7 : Int32))), .val (.ref sju), .val (.int flju), .val (.int (p2 &&& (15 : Int32))), q8u, q9u, .unset, .unset, .unset] [(.int (7 : Int32))])) rfl (hb hby at_383) rfl (n := 7) own_i7 (cap := 7) (by omega) (by decide) (by decide) (by decide)
          obtain ⟨b192, g192⟩ : ∃ z, z = hju.size := ⟨_, rfl⟩
          rw [← g192] at A192 st192
          have ge192 : n0 ≤ b192 := Nat.le_trans Zju (Nat.le_of_eq g192.symm)
          have bo192 : hju.size ≤ b192 := Nat.le_trans (Keep.refl hju []).1 (Nat.le_of_eq g192.symm)
          have ne193 : sju ≠ b192 := Nat.ne_of_lt (Nat.lt_of_lt_of_le fm1u.lt (Nat.le_of_eq g192.symm))
          have ne194 : bju ≠ b192 := Nat.ne_of_lt (Nat.lt_of_lt_of_le fm4u.lt (Nat.le_of_eq g192.symm))
          have Z192 : n0 ≤ h192.size := Nat.le_trans Zju E192.1
          have K192 : Keep hju h192 [] := (Keep.refl hju []).ext E192
          have Xo192 := Oju.ext E192
          have f195 := fm1u.ext E192
          have f196 := fm2u.ext E192
          have f197 := fm3u.ext E192
          have f198 := fm4u.ext E192
          have k199 : ∀ t, Steps p.tables e below (T192.setTop (mkF m 385 #[.val (.int p1), .val (.int p2), .val (.int p3), .val (.int p4), .val (.int (p1 &&& (7 : Int32))), .val (.ref sju), .val (.int flju), .val (.int (p2 &&& (15 : Int32))), q8u, q9u, .unset, .unset, .unset] [(.ref b192)])) t → Steps p.tables e below (s₁.setTop (entryFrame m #[(.int p1), (.int p2), (.int p3), (.int p4)] maxLocals)) t := fun t k => k191 t (st192 t k)
          have k200 : ∀ t, Steps p.tables e below (T192.setTop (mkF m 389 #[.val (.int p1), .val (.int p2), .val (.int p3), .val (.int p4), .val (.int (p1 &&& (7 : Int32))), .val (.ref sju), .val (.int flju), .val (.int (p2 &&& (15 : Int32))), q8u, q9u, .unset, .unset, .unset] [(.int (97 : Int32)), (.int (0 : Int32)), (.ref b192), (.ref b192)])) t → Steps p.tables e below (s₁.setTop (entryFrame m #[(.int p1), (.int p2), (.int p3), (.int p4)] maxLocals)) t := by
            intro t k
            refine k199 t ?_
            show Steps p.tables e below (T192.setTop (mkF m 385 #[.val (.int p1), .val (.int p2), .val (.int p3), .val (.int p4), .val (.int (p1 &&& (7 : Int32))), .val (.ref sju), .val (.int flju), .val (.int (p2 &&& (15 : Int32))), q8u, q9u, .unset, .unset, .unset] [(.ref b192)])) _
            refine XS.dup X192.here hx rfl (hb hby at_385) rfl rfl ?_
            show Steps p.tables e below (T192.setTop (mkF m 386 #[.val (.int p1), .val (.int p2), .val (.int p3), .val (.int p4), .val (.int (p1 &&& (7 : Int32))), .val (.ref sju), .val (.int flju), .val (.int (p2 &&& (15 : Int32))), q8u, q9u, .unset, .unset, .unset] [(.ref b192), (.ref b192)])) _
            refine XS.iconst X192.here hx rfl (hb hby at_386) ?_
            show Steps p.tables e below (T192.setTop (mkF m 387 #[.val (.int p1), .val (.int p2), .val (.int p3), .val (.int p4), .val (.int (p1 &&& (7 : Int32))), .val (.ref sju), .val (.int flju), .val (.int (p2 &&& (15 : Int32))), q8u, q9u, .unset, .unset, .unset] [(.int (0 : Int32)), (.ref b192), (.ref b192)])) _
            refine XS.bipush X192.here hx rfl (hb hby at_387) ?_
            exact k
          obtain ⟨T201, h201, X201, e201, W201, G201, st201⟩ := own_stC X192 hx hZ e192 A192 (j := (0 : Int32)) own_i0 (by omega) (g := (mkF m 389 #[.val (.int p1), .val (.int p2), .val (.int p3), .val (.int p4), .val (.int (p1 &&& (7 : Int32))), .val (.ref sju), .val (.int flju), .val (.int (p2 &&& (15 : Int32))), q8u, q9u, .unset, .unset, .unset] [(.int (97 : Int32)), (.int (0 : Int32)), (.ref b192), (.ref b192)])) rfl rfl (hb hby at_389)
          have f202 := f195.wr W201
          have f203 := f196.other W201 (Or.inl ne193)
          have f204 := f197.other W201 (Or.inl ne193)
          have f205 := f198.other W201 ne194
          have N201 := Fr.snoc X201 Nju ge192
          have K201 : Keep hju h201 [] := K192.wr W201 (Or.inr bo192)
          have Z201 : n0 ≤ h201.size := Nat.le_trans Z192 (Keep.of_wr W201).1
          have Xo201 := Xo192.wr W201 ge192
          have k206 : ∀ t, Steps p.tables e below (T201.setTop (mkF m 390 #[.val (.int p1), .val (.int p2), .val (.int p3), .val (.int p4), .val (.int (p1 &&& (7 : Int32))), .val (.ref sju), .val (.int flju), .val (.int (p2 &&& (15 : Int32))), q8u, q9u, .unset, .unset, .unset] [(.ref b192)])) t → Steps p.tables e below (s₁.setTop (entryFrame m #[(.int p1), (.int p2), (.int p3), (.int p4)] maxLocals)) t := fun t k => k200 t (st201 t k)
          have k207 : ∀ t, Steps p.tables e below (T201.setTop (mkF m 394 #[.val (.int p1), .val (.int p2), .val (.int p3), .val (.int p4), .val (.int (p1 &&& (7 : Int32))), .val (.ref sju), .val (.int flju), .val (.int (p2 &&& (15 : Int32))), q8u, q9u, .unset, .unset, .unset] [(.int (100 : Int32)), (.int (1 : Int32)), (.ref b192), (.ref b192)])) t → Steps p.tables e below (s₁.setTop (entryFrame m #[(.int p1), (.int p2), (.int p3), (.int p4)] maxLocals)) t := by
            intro t k
            refine k206 t ?_
            show Steps p.tables e below (T201.setTop (mkF m 390 #[.val (.int p1), .val (.int p2), .val (.int p3), .val (.int p4), .val (.int (p1 &&& (7 : Int32))), .val (.ref sju), .val (.int flju), .val (.int (p2 &&& (15 : Int32))), q8u, q9u, .unset, .unset, .unset] [(.ref b192)])) _
            refine XS.dup X201.here hx rfl (hb hby at_390) rfl rfl ?_
            show Steps p.tables e below (T201.setTop (mkF m 391 #[.val (.int p1), .val (.int p2), .val (.int p3), .val (.int p4), .val (.int (p1 &&& (7 : Int32))), .val (.ref sju), .val (.int flju), .val (.int (p2 &&& (15 : Int32))), q8u, q9u, .unset, .unset, .unset] [(.ref b192), (.ref b192)])) _
            refine XS.iconst X201.here hx rfl (hb hby at_391) ?_
            show Steps p.tables e below (T201.setTop (mkF m 392 #[.val (.int p1), .val (.int p2), .val (.int p3), .val (.int p4), .val (.int (p1 &&& (7 : Int32))), .val (.ref sju), .val (.int flju), .val (.int (p2 &&& (15 : Int32))), q8u, q9u, .unset, .unset, .unset] [(.int (1 : Int32)), (.ref b192), (.ref b192)])) _
            refine XS.bipush X201.here hx rfl (hb hby at_392) ?_
            exact k
          obtain ⟨T208, h208, X208, e208, W208, G208, st208⟩ := own_stC X201 hx hZ e201 G201 (j := (1 : Int32)) own_i1 (by omega) (g := (mkF m 394 #[.val (.int p1), .val (.int p2), .val (.int p3), .val (.int p4), .val (.int (p1 &&& (7 : Int32))), .val (.ref sju), .val (.int flju), .val (.int (p2 &&& (15 : Int32))), q8u, q9u, .unset, .unset, .unset] [(.int (100 : Int32)), (.int (1 : Int32)), (.ref b192), (.ref b192)])) rfl rfl (hb hby at_394)
          have f209 := f202.wr W208
          have f210 := f203.other W208 (Or.inl ne193)
          have f211 := f204.other W208 (Or.inl ne193)
          have f212 := f205.other W208 ne194
          have N208 := Fr.snoc X208 N201 ge192
          have K208 : Keep hju h208 [] := K201.wr W208 (Or.inr bo192)
          have Z208 : n0 ≤ h208.size := Nat.le_trans Z201 (Keep.of_wr W208).1
          have Xo208 := Xo201.wr W208 ge192
          have k213 : ∀ t, Steps p.tables e below (T208.setTop (mkF m 395 #[.val (.int p1), .val (.int p2), .val (.int p3), .val (.int p4), .val (.int (p1 &&& (7 : Int32))), .val (.ref sju), .val (.int flju), .val (.int (p2 &&& (15 : Int32))), q8u, q9u, .unset, .unset, .unset] [(.ref b192)])) t → Steps p.tables e below (s₁.setTop (entryFrame m #[(.int p1), (.int p2), (.int p3), (.int p4)] maxLocals)) t := fun t k => k207 t (st208 t k)
          have k214 : ∀ t, Steps p.tables e below (T208.setTop (mkF m 399 #[.val (.int p1), .val (.int p2), .val (.int p3), .val (.int p4), .val (.int (p1 &&& (7 : Int32))), .val (.ref sju), .val (.int flju), .val (.int (p2 &&& (15 : Int32))), q8u, q9u, .unset, .unset, .unset] [(.int (100 : Int32)), (.int (2 : Int32)), (.ref b192), (.ref b192)])) t → Steps p.tables e below (s₁.setTop (entryFrame m #[(.int p1), (.int p2), (.int p3), (.int p4)] maxLocals)) t := by
            intro t k
            refine k213 t ?_
            show Steps p.tables e below (T208.setTop (mkF m 395 #[.val (.int p1), .val (.int p2), .val (.int p3), .val (.int p4), .val (.int (p1 &&& (7 : Int32))), .val (.ref sju), .val (.int flju), .val (.int (p2 &&& (15 : Int32))), q8u, q9u, .unset, .unset, .unset] [(.ref b192)])) _
            refine XS.dup X208.here hx rfl (hb hby at_395) rfl rfl ?_
            show Steps p.tables e below (T208.setTop (mkF m 396 #[.val (.int p1), .val (.int p2), .val (.int p3), .val (.int p4), .val (.int (p1 &&& (7 : Int32))), .val (.ref sju), .val (.int flju), .val (.int (p2 &&& (15 : Int32))), q8u, q9u, .unset, .unset, .unset] [(.ref b192), (.ref b192)])) _
            refine XS.iconst X208.here hx rfl (hb hby at_396) ?_
            show Steps p.tables e below (T208.setTop (mkF m 397 #[.val (.int p1), .val (.int p2), .val (.int p3), .val (.int p4), .val (.int (p1 &&& (7 : Int32))), .val (.ref sju), .val (.int flju), .val (.int (p2 &&& (15 : Int32))), q8u, q9u, .unset, .unset, .unset] [(.int (2 : Int32)), (.ref b192), (.ref b192)])) _
            refine XS.bipush X208.here hx rfl (hb hby at_397) ?_
            exact k
          obtain ⟨T215, h215, X215, e215, W215, G215, st215⟩ := own_stC X208 hx hZ e208 G208 (j := (2 : Int32)) own_i2 (by omega) (g := (mkF m 399 #[.val (.int p1), .val (.int p2), .val (.int p3), .val (.int p4), .val (.int (p1 &&& (7 : Int32))), .val (.ref sju), .val (.int flju), .val (.int (p2 &&& (15 : Int32))), q8u, q9u, .unset, .unset, .unset] [(.int (100 : Int32)), (.int (2 : Int32)), (.ref b192), (.ref b192)])) rfl rfl (hb hby at_399)
          have f216 := f209.wr W215
          have f217 := f210.other W215 (Or.inl ne193)
          have f218 := f211.other W215 (Or.inl ne193)
          have f219 := f212.other W215 ne194
          have N215 := Fr.snoc X215 N208 ge192
          have K215 : Keep hju h215 [] := K208.wr W215 (Or.inr bo192)
          have Z215 : n0 ≤ h215.size := Nat.le_trans Z208 (Keep.of_wr W215).1
          have Xo215 := Xo208.wr W215 ge192
          have k220 : ∀ t, Steps p.tables e below (T215.setTop (mkF m 400 #[.val (.int p1), .val (.int p2), .val (.int p3), .val (.int p4), .val (.int (p1 &&& (7 : Int32))), .val (.ref sju), .val (.int flju), .val (.int (p2 &&& (15 : Int32))), q8u, q9u, .unset, .unset, .unset] [(.ref b192)])) t → Steps p.tables e below (s₁.setTop (entryFrame m #[(.int p1), (.int p2), (.int p3), (.int p4)] maxLocals)) t := fun t k => k214 t (st215 t k)
          have k221 : ∀ t, Steps p.tables e below (T215.setTop (mkF m 404 #[.val (.int p1), .val (.int p2), .val (.int p3), .val (.int p4), .val (.int (p1 &&& (7 : Int32))), .val (.ref sju), .val (.int flju), .val (.int (p2 &&& (15 : Int32))), q8u, q9u, .unset, .unset, .unset] [(.int (114 : Int32)), (.int (3 : Int32)), (.ref b192), (.ref b192)])) t → Steps p.tables e below (s₁.setTop (entryFrame m #[(.int p1), (.int p2), (.int p3), (.int p4)] maxLocals)) t := by
            intro t k
            refine k220 t ?_
            show Steps p.tables e below (T215.setTop (mkF m 400 #[.val (.int p1), .val (.int p2), .val (.int p3), .val (.int p4), .val (.int (p1 &&& (7 : Int32))), .val (.ref sju), .val (.int flju), .val (.int (p2 &&& (15 : Int32))), q8u, q9u, .unset, .unset, .unset] [(.ref b192)])) _
            refine XS.dup X215.here hx rfl (hb hby at_400) rfl rfl ?_
            show Steps p.tables e below (T215.setTop (mkF m 401 #[.val (.int p1), .val (.int p2), .val (.int p3), .val (.int p4), .val (.int (p1 &&& (7 : Int32))), .val (.ref sju), .val (.int flju), .val (.int (p2 &&& (15 : Int32))), q8u, q9u, .unset, .unset, .unset] [(.ref b192), (.ref b192)])) _
            refine XS.iconst X215.here hx rfl (hb hby at_401) ?_
            show Steps p.tables e below (T215.setTop (mkF m 402 #[.val (.int p1), .val (.int p2), .val (.int p3), .val (.int p4), .val (.int (p1 &&& (7 : Int32))), .val (.ref sju), .val (.int flju), .val (.int (p2 &&& (15 : Int32))), q8u, q9u, .unset, .unset, .unset] [(.int (3 : Int32)), (.ref b192), (.ref b192)])) _
            refine XS.bipush X215.here hx rfl (hb hby at_402) ?_
            exact k
          obtain ⟨T222, h222, X222, e222, W222, G222, st222⟩ := own_stC X215 hx hZ e215 G215 (j := (3 : Int32)) own_i3 (by omega) (g := (mkF m 404 #[.val (.int p1), .val (.int p2), .val (.int p3), .val (.int p4), .val (.int (p1 &&& (7 : Int32))), .val (.ref sju), .val (.int flju), .val (.int (p2 &&& (15 : Int32))), q8u, q9u, .unset, .unset, .unset] [(.int (114 : Int32)), (.int (3 : Int32)), (.ref b192), (.ref b192)])) rfl rfl (hb hby at_404)
          have f223 := f216.wr W222
          have f224 := f217.other W222 (Or.inl ne193)
          have f225 := f218.other W222 (Or.inl ne193)
          have f226 := f219.other W222 ne194
          have N222 := Fr.snoc X222 N215 ge192
          have K222 : Keep hju h222 [] := K215.wr W222 (Or.inr bo192)
          have Z222 : n0 ≤ h222.size := Nat.le_trans Z215 (Keep.of_wr W222).1
          have Xo222 := Xo215.wr W222 ge192
          have k227 : ∀ t, Steps p.tables e below (T222.setTop (mkF m 405 #[.val (.int p1), .val (.int p2), .val (.int p3), .val (.int p4), .val (.int (p1 &&& (7 : Int32))), .val (.ref sju), .val (.int flju), .val (.int (p2 &&& (15 : Int32))), q8u, q9u, .unset, .unset, .unset] [(.ref b192)])) t → Steps p.tables e below (s₁.setTop (entryFrame m #[(.int p1), (.int p2), (.int p3), (.int p4)] maxLocals)) t := fun t k => k221 t (st222 t k)
          have k228 : ∀ t, Steps p.tables e below (T222.setTop (mkF m 409 #[.val (.int p1), .val (.int p2), .val (.int p3), .val (.int p4), .val (.int (p1 &&& (7 : Int32))), .val (.ref sju), .val (.int flju), .val (.int (p2 &&& (15 : Int32))), q8u, q9u, .unset, .unset, .unset] [(.int (101 : Int32)), (.int (4 : Int32)), (.ref b192), (.ref b192)])) t → Steps p.tables e below (s₁.setTop (entryFrame m #[(.int p1), (.int p2), (.int p3), (.int p4)] maxLocals)) t := by
            intro t k
            refine k227 t ?_
            show Steps p.tables e below (T222.setTop (mkF m 405 #[.val (.int p1), .val (.int p2), .val (.int p3), .val (.int p4), .val (.int (p1 &&& (7 : Int32))), .val (.ref sju), .val (.int flju), .val (.int (p2 &&& (15 : Int32))), q8u, q9u, .unset, .unset, .unset] [(.ref b192)])) _
            refine XS.dup X222.here hx rfl (hb hby at_405) rfl rfl ?_
            show Steps p.tables e below (T222.setTop (mkF m 406 #[.val (.int p1), .val (.int p2), .val (.int p3), .val (.int p4), .val (.int (p1 &&& (7 : Int32))), .val (.ref sju), .val (.int flju), .val (.int (p2 &&& (15 : Int32))), q8u, q9u, .unset, .unset, .unset] [(.ref b192), (.ref b192)])) _
            refine XS.iconst X222.here hx rfl (hb hby at_406) ?_
            show Steps p.tables e below (T222.setTop (mkF m 407 #[.val (.int p1), .val (.int p2), .val (.int p3), .val (.int p4), .val (.int (p1 &&& (7 : Int32))), .val (.ref sju), .val (.int flju), .val (.int (p2 &&& (15 : Int32))), q8u, q9u, .unset, .unset, .unset] [(.int (4 : Int32)), (.ref b192), (.ref b192)])) _
            refine XS.bipush X222.here hx rfl (hb hby at_407) ?_
            exact k
          obtain ⟨T229, h229, X229, e229, W229, G229, st229⟩ := own_stC X222 hx hZ e222 G222 (j := (4 : Int32)) own_i4 (by omega) (g := (mkF m 409 #[.val (.int p1), .val (.int p2), .val (.int p3), .val (.int p4), .val (.int (p1 &&& (7 : Int32))), .val (.ref sju), .val (.int flju), .val (.int (p2 &&& (15 : Int32))), q8u, q9u, .unset, .unset, .unset] [(.int (101 : Int32)), (.int (4 : Int32)), (.ref b192), (.ref b192)])) rfl rfl (hb hby at_409)
          have f230 := f223.wr W229
          have f231 := f224.other W229 (Or.inl ne193)
          have f232 := f225.other W229 (Or.inl ne193)
          have f233 := f226.other W229 ne194
          have N229 := Fr.snoc X229 N222 ge192
          have K229 : Keep hju h229 [] := K222.wr W229 (Or.inr bo192)
          have Z229 : n0 ≤ h229.size := Nat.le_trans Z222 (Keep.of_wr W229).1
          have Xo229 := Xo222.wr W229 ge192
          have k234 : ∀ t, Steps p.tables e below (T229.setTop (mkF m 410 #[.val (.int p1), .val (.int p2), .val (.int p3), .val (.int p4), .val (.int (p1 &&& (7 : Int32))), .val (.ref sju), .val (.int flju), .val (.int (p2 &&& (15 : Int32))), q8u, q9u, .unset, .unset, .unset] [(.ref b192)])) t → Steps p.tables e below (s₁.setTop (entryFrame m #[(.int p1), (.int p2), (.int p3), (.int p4)] maxLocals)) t := fun t k => k228 t (st229 t k)
          have k235 : ∀ t, Steps p.tables e below (T229.setTop (mkF m 414 #[.val (.int p1), .val (.int p2), .val (.int p3), .val (.int p4), .val (.int (p1 &&& (7 : Int32))), .val (.ref sju), .val (.int flju), .val (.int (p2 &&& (15 : Int32))), q8u, q9u, .unset, .unset, .unset] [(.int (115 : Int32)), (.int (5 : Int32)), (.ref b192), (.ref b192)])) t → Steps p.tables e below (s₁.setTop (entryFrame m #[(.int p1), (.int p2), (.int p3), (.int p4)] maxLocals)) t := by
            intro t k
            refine k234 t ?_
            show Steps p.tables e below (T229.setTop (mkF m 410 #[.val (.int p1), .val (.int p2), .val (.int p3), .val (.int p4), .val (.int (p1 &&& (7 : Int32))), .val (.ref sju), .val (.int flju), .val (.int (p2 &&& (15 : Int32))), q8u, q9u, .unset, .unset, .unset] [(.ref b192)])) _
            refine XS.dup X229.here hx rfl (hb hby at_410) rfl rfl ?_
            show Steps p.tables e below (T229.setTop (mkF m 411 #[.val (.int p1), .val (.int p2), .val (.int p3), .val (.int p4), .val (.int (p1 &&& (7 : Int32))), .val (.ref sju), .val (.int flju), .val (.int (p2 &&& (15 : Int32))), q8u, q9u, .unset, .unset, .unset] [(.ref b192), (.ref b192)])) _
            refine XS.iconst X229.here hx rfl (hb hby at_411) ?_
            show Steps p.tables e below (T229.setTop (mkF m 412 #[.val (.int p1), .val (.int p2), .val (.int p3), .val (.int p4), .val (.int (p1 &&& (7 : Int32))), .val (.ref sju), .val (.int flju), .val (.int (p2 &&& (15 : Int32))), q8u, q9u, .unset, .unset, .unset] [(.int (5 : Int32)), (.ref b192), (.ref b192)])) _
            refine XS.bipush X229.here hx rfl (hb hby at_412) ?_
            exact k
          obtain ⟨T236, h236, X236, e236, W236, G236, st236⟩ := own_stC X229 hx hZ e229 G229 (j := (5 : Int32)) own_i5 (by omega) (g := (mkF m 414 #[.val (.int p1), .val (.int p2), .val (.int p3), .val (.int p4), .val (.int (p1 &&& (7 : Int32))), .val (.ref sju), .val (.int flju), .val (.int (p2 &&& (15 : Int32))), q8u, q9u, .unset, .unset, .unset] [(.int (115 : Int32)), (.int (5 : Int32)), (.ref b192), (.ref b192)])) rfl rfl (hb hby at_414)
          have f237 := f230.wr W236
          have f238 := f231.other W236 (Or.inl ne193)
          have f239 := f232.other W236 (Or.inl ne193)
          have f240 := f233.other W236 ne194
          have N236 := Fr.snoc X236 N229 ge192
          have K236 : Keep hju h236 [] := K229.wr W236 (Or.inr bo192)
          have Z236 : n0 ≤ h236.size := Nat.le_trans Z229 (Keep.of_wr W236).1
          have Xo236 := Xo229.wr W236 ge192
          have k241 : ∀ t, Steps p.tables e below (T236.setTop (mkF m 415 #[.val (.int p1), .val (.int p2), .val (.int p3), .val (.int p4), .val (.int (p1 &&& (7 : Int32))), .val (.ref sju), .val (.int flju), .val (.int (p2 &&& (15 : Int32))), q8u, q9u, .unset, .unset, .unset] [(.ref b192)])) t → Steps p.tables e below (s₁.setTop (entryFrame m #[(.int p1), (.int p2), (.int p3), (.int p4)] maxLocals)) t := fun t k => k235 t (st236 t k)
          have k242 : ∀ t, Steps p.tables e below (T236.setTop (mkF m 420 #[.val (.int p1), .val (.int p2), .val (.int p3), .val (.int p4), .val (.int (p1 &&& (7 : Int32))), .val (.ref sju), .val (.int flju), .val (.int (p2 &&& (15 : Int32))), q8u, q9u, .unset, .unset, .unset] [(.int (115 : Int32)), (.int (6 : Int32)), (.ref b192), (.ref b192)])) t → Steps p.tables e below (s₁.setTop (entryFrame m #[(.int p1), (.int p2), (.int p3), (.int p4)] maxLocals)) t := by
            intro t k
            refine k241 t ?_
            show Steps p.tables e below (T236.setTop (mkF m 415 #[.val (.int p1), .val (.int p2), .val (.int p3), .val (.int p4), .val (.int (p1 &&& (7 : Int32))), .val (.ref sju), .val (.int flju), .val (.int (p2 &&& (15 : Int32))), q8u, q9u, .unset, .unset, .unset] [(.ref b192)])) _
            refine XS.dup X236.here hx rfl (hb hby at_415) rfl rfl ?_
            show Steps p.tables e below (T236.setTop (mkF m 416 #[.val (.int p1), .val (.int p2), .val (.int p3), .val (.int p4), .val (.int (p1 &&& (7 : Int32))), .val (.ref sju), .val (.int flju), .val (.int (p2 &&& (15 : Int32))), q8u, q9u, .unset, .unset, .unset] [(.ref b192), (.ref b192)])) _
            refine XS.bipush X236.here hx rfl (hb hby at_416) ?_
            show Steps p.tables e below (T236.setTop (mkF m 418 #[.val (.int p1), .val (.int p2), .val (.int p3), .val (.int p4), .val (.int (p1 &&& (7 : Int32))), .val (.ref sju), .val (.int flju), .val (.int (p2 &&& (15 : Int32))), q8u, q9u, .unset, .unset, .unset] [(.int (6 : Int32)), (.ref b192), (.ref b192)])) _
            refine XS.bipush X236.here hx rfl (hb hby at_418) ?_
            exact k
          obtain ⟨T243, h243, X243, e243, W243, G243, st243⟩ := own_stC X236 hx hZ e236 G236 (j := (6 : Int32)) own_i6 (by omega) (g := (mkF m 420 #[.val (.int p1), .val (.int p2), .val (.int p3), .val (.int p4), .val (.int (p1 &&& (7 : Int32))), .val (.ref sju), .val (.int flju), .val (.int (p2 &&& (15 : Int32))), q8u, q9u, .unset, .unset, .unset] [(.int (115 : Int32)), (.int (6 : Int32)), (.ref b192), (.ref b192)])) rfl rfl (hb hby at_420)
          have f244 := f237.wr W243
          have f245 := f238.other W243 (Or.inl ne193)
          have f246 := f239.other W243 (Or.inl ne193)
          have f247 := f240.other W243 ne194
          have N243 := Fr.snoc X243 N236 ge192
          have K243 : Keep hju h243 [] := K236.wr W243 (Or.inr bo192)
          have Z243 : n0 ≤ h243.size := Nat.le_trans Z236 (Keep.of_wr W243).1
          have Xo243 := Xo236.wr W243 ge192
          have k248 : ∀ t, Steps p.tables e below (T243.setTop (mkF m 421 #[.val (.int p1), .val (.int p2), .val (.int p3), .val (.int p4), .val (.int (p1 &&& (7 : Int32))), .val (.ref sju), .val (.int flju), .val (.int (p2 &&& (15 : Int32))), q8u, q9u, .unset, .unset, .unset] [(.ref b192)])) t → Steps p.tables e below (s₁.setTop (entryFrame m #[(.int p1), (.int p2), (.int p3), (.int p4)] maxLocals)) t := fun t k => k242 t (st243 t k)
          have k249 : ∀ t, Steps p.tables e below (T243.setTop (mkF m 431 #[.val (.int p1), .val (.int p2), .val (.int p3), .val (.int p4), .val (.int (p1 &&& (7 : Int32))), .val (.ref sju), .val (.int flju), .val (.int (p2 &&& (15 : Int32))), q8u, q9u, .val (.ref b192), .val (.int (own_k2 p2)), .unset] [])) t → Steps p.tables e below (s₁.setTop (entryFrame m #[(.int p1), (.int p2), (.int p3), (.int p4)] maxLocals)) t := by
            intro t k
            refine k248 t ?_
            show Steps p.tables e below (T243.setTop (mkF m 421 #[.val (.int p1), .val (.int p2), .val (.int p3), .val (.int p4), .val (.int (p1 &&& (7 : Int32))), .val (.ref sju), .val (.int flju), .val (.int (p2 &&& (15 : Int32))), q8u, q9u, .unset, .unset, .unset] [(.ref b192)])) _
            refine XS.astore X243.here hx rfl (hb hby at_421) rfl rfl (l' := #[.val (.int p1), .val (.int p2), .val (.int p3), .val (.int p4), .val (.int (p1 &&& (7 : Int32))), .val (.ref sju), .val (.int flju), .val (.int (p2 &&& (15 : Int32))), q8u, q9u, .val (.ref b192), .unset, .unset]) rfl ?_
            show Steps p.tables e below (T243.setTop (mkF m 423 #[.val (.int p1), .val (.int p2), .val (.int p3), .val (.int p4), .val (.int (p1 &&& (7 : Int32))), .val (.ref sju), .val (.int flju), .val (.int (p2 &&& (15 : Int32))), q8u, q9u, .val (.ref b192), .unset, .unset] [])) _
            refine XS.iloadN X243.here hx rfl (hb hby at_423) rfl ?_
            show Steps p.tables e below (T243.setTop (mkF m 424 #[.val (.int p1), .val (.int p2), .val (.int p3), .val (.int p4), .val (.int (p1 &&& (7 : Int32))), .val (.ref sju), .val (.int flju), .val (.int (p2 &&& (15 : Int32))), q8u, q9u, .val (.ref b192), .unset, .unset] [(.int p2)])) _
            refine XS.iconst X243.here hx rfl (hb hby at_424) ?_
            show Steps p.tables e below (T243.setTop (mkF m 425 #[.val (.int p1), .val (.int p2), .val (.int p3), .val (.int p4), .val (.int (p1 &&& (7 : Int32))), .val (.ref sju), .val (.int flju), .val (.int (p2 &&& (15 : Int32))), q8u, q9u, .val (.ref b192), .unset, .unset] [(.int (4 : Int32)), (.int p2)])) _
            refine XS.iushr X243.here hx rfl (hb hby at_425) rfl ?_
            show Steps p.tables e below (T243.setTop (mkF m 426 #[.val (.int p1), .val (.int p2), .val (.int p3), .val (.int p4), .val (.int (p1 &&& (7 : Int32))), .val (.ref sju), .val (.int flju), .val (.int (p2 &&& (15 : Int32))), q8u, q9u, .val (.ref b192), .unset, .unset] [(.int ((p2.toUInt32 >>> ((4 : Int32) &&& 31).toUInt32).toInt32))])) _
            refine XS.bipush X243.here hx rfl (hb hby at_426) ?_
            show Steps p.tables e below (T243.setTop (mkF m 428 #[.val (.int p1), .val (.int p2), .val (.int p3), .val (.int p4), .val (.int (p1 &&& (7 : Int32))), .val (.ref sju), .val (.int flju), .val (.int (p2 &&& (15 : Int32))), q8u, q9u, .val (.ref b192), .unset, .unset] [(.int (7 : Int32)), (.int ((p2.toUInt32 >>> ((4 : Int32) &&& 31).toUInt32).toInt32))])) _
            refine iremM X243 hx rfl (hb hby at_428) rfl (by decide) ?_
            show Steps p.tables e below (T243.setTop (mkF m 429 #[.val (.int p1), .val (.int p2), .val (.int p3), .val (.int p4), .val (.int (p1 &&& (7 : Int32))), .val (.ref sju), .val (.int flju), .val (.int (p2 &&& (15 : Int32))), q8u, q9u, .val (.ref b192), .unset, .unset] [(.int (((p2.toUInt32 >>> ((4 : Int32) &&& 31).toUInt32).toInt32) % (7 : Int32)))])) _
            refine XS.istore X243.here hx rfl (hb hby at_429) rfl (l' := #[.val (.int p1), .val (.int p2), .val (.int p3), .val (.int p4), .val (.int (p1 &&& (7 : Int32))), .val (.ref sju), .val (.int flju), .val (.int (p2 &&& (15 : Int32))), q8u, q9u, .val (.ref b192), .val (.int (((p2.toUInt32 >>> ((4 : Int32) &&& 31).toUInt32).toInt32) % (7 : Int32))), .unset]) rfl ?_
            exact k
          obtain ⟨kn2, hkn2, hkl2⟩ := own_kN2 p2
          have k250 : ∀ t, Steps p.tables e below (T243.setTop (mkF m 439 #[.val (.int p1), .val (.int p2), .val (.int p3), .val (.int p4), .val (.int (p1 &&& (7 : Int32))), .val (.ref sju), .val (.int flju), .val (.int (p2 &&& (15 : Int32))), q8u, q9u, .val (.ref b192), .val (.int (own_k2 p2)), .val (.int (own_r2 p4))] [])) t → Steps p.tables e below (s₁.setTop (entryFrame m #[(.int p1), (.int p2), (.int p3), (.int p4)] maxLocals)) t := by
            intro t k
            refine k249 t ?_
            show Steps p.tables e below (T243.setTop (mkF m 431 #[.val (.int p1), .val (.int p2), .val (.int p3), .val (.int p4), .val (.int (p1 &&& (7 : Int32))), .val (.ref sju), .val (.int flju), .val (.int (p2 &&& (15 : Int32))), q8u, q9u, .val (.ref b192), .val (.int (own_k2 p2)), .unset] [])) _
            refine XS.iloadN X243.here hx rfl (hb hby at_431) rfl ?_
            show Steps p.tables e below (T243.setTop (mkF m 432 #[.val (.int p1), .val (.int p2), .val (.int p3), .val (.int p4), .val (.int (p1 &&& (7 : Int32))), .val (.ref sju), .val (.int flju), .val (.int (p2 &&& (15 : Int32))), q8u, q9u, .val (.ref b192), .val (.int (own_k2 p2)), .unset] [(.int p4)])) _
            refine XS.sipush X243.here hx rfl (hb hby at_432) ?_
            show Steps p.tables e below (T243.setTop (mkF m 435 #[.val (.int p1), .val (.int p2), .val (.int p3), .val (.int p4), .val (.int (p1 &&& (7 : Int32))), .val (.ref sju), .val (.int flju), .val (.int (p2 &&& (15 : Int32))), q8u, q9u, .val (.ref b192), .val (.int (own_k2 p2)), .unset] [(.int (255 : Int32)), (.int p4)])) _
            refine XS.iand X243.here hx rfl (hb hby at_435) rfl ?_
            show Steps p.tables e below (T243.setTop (mkF m 436 #[.val (.int p1), .val (.int p2), .val (.int p3), .val (.int p4), .val (.int (p1 &&& (7 : Int32))), .val (.ref sju), .val (.int flju), .val (.int (p2 &&& (15 : Int32))), q8u, q9u, .val (.ref b192), .val (.int (own_k2 p2)), .unset] [(.int (p4 &&& (255 : Int32)))])) _
            refine XS.i2c X243.here hx rfl (hb hby at_436) rfl ?_
            show Steps p.tables e below (T243.setTop (mkF m 437 #[.val (.int p1), .val (.int p2), .val (.int p3), .val (.int p4), .val (.int (p1 &&& (7 : Int32))), .val (.ref sju), .val (.int flju), .val (.int (p2 &&& (15 : Int32))), q8u, q9u, .val (.ref b192), .val (.int (own_k2 p2)), .unset] [(.int ((p4 &&& (255 : Int32)).toUInt32.toUInt16.toUInt32.toInt32))])) _
            refine XS.istore X243.here hx rfl (hb hby at_437) rfl (l' := #[.val (.int p1), .val (.int p2), .val (.int p3), .val (.int p4), .val (.int (p1 &&& (7 : Int32))), .val (.ref sju), .val (.int flju), .val (.int (p2 &&& (15 : Int32))), q8u, q9u, .val (.ref b192), .val (.int (own_k2 p2)), .val (.int ((p4 &&& (255 : Int32)).toUInt32.toUInt16.toUInt32.toInt32))]) rfl ?_
            exact k
          have GA251 : own_G Z h243 b192 .char 7 (own_of own_tx1) := G243.congr own_fill2
          obtain ⟨Lg251, Xg251, Ng251⟩ : ∃ L', Stand p l e room_1 (s.setVm vmju) m #[(.int p1), (.int p2), (.int p3), (.int p4)] below meth c T243 L' 5 123 ∧ Fr n0 L' := ⟨_, X243, N243⟩
          have k252 : ∀ t, Steps p.tables e below (T243.setTop (mkF m 446 #[.val (.int p1), .val (.int p2), .val (.int p3), .val (.int p4), .val (.int (p1 &&& (7 : Int32))), .val (.ref sju), .val (.int flju), .val (.int (p2 &&& (15 : Int32))), q8u, q9u, .val (.ref b192), .val (.int (own_k2 p2)), .val (.int (own_r2 p4))] [(.int (own_r2 p4)), (.int ((own_of own_tx1) kn2))])) t → Steps p.tables e below (s₁.setTop (entryFrame m #[(.int p1), (.int p2), (.int p3), (.int p4)] maxLocals)) t := by
            intro t k
            refine k250 t ?_
            show Steps p.tables e below (T243.setTop (mkF m 439 #[.val (.int p1), .val (.int p2), .val (.int p3), .val (.int p4), .val (.int (p1 &&& (7 : Int32))), .val (.ref sju), .val (.int flju), .val (.int (p2 &&& (15 : Int32))), q8u, q9u, .val (.ref b192), .val (.int (own_k2 p2)), .val (.int (own_r2 p4))] [])) _
            refine XS.aload Xg251.here hx rfl (hb hby at_439) rfl rfl ?_
            show Steps p.tables e below (T243.setTop (mkF m 441 #[.val (.int p1), .val (.int p2), .val (.int p3), .val (.int p4), .val (.int (p1 &&& (7 : Int32))), .val (.ref sju), .val (.int flju), .val (.int (p2 &&& (15 : Int32))), q8u, q9u, .val (.ref b192), .val (.int (own_k2 p2)), .val (.int (own_r2 p4))] [(.ref b192)])) _
            refine XS.iload Xg251.here hx rfl (hb hby at_441) rfl ?_
            show Steps p.tables e below (T243.setTop (mkF m 443 #[.val (.int p1), .val (.int p2), .val (.int p3), .val (.int p4), .val (.int (p1 &&& (7 : Int32))), .val (.ref sju), .val (.int flju), .val (.int (p2 &&& (15 : Int32))), q8u, q9u, .val (.ref b192), .val (.int (own_k2 p2)), .val (.int (own_r2 p4))] [(.int (own_k2 p2)), (.ref b192)])) _
            refine own_ldC Xg251 hx hZ e243 GA251 (j := (own_k2 p2)) hkn2 (by omega) (g := (mkF m 443 #[.val (.int p1), .val (.int p2), .val (.int p3), .val (.int p4), .val (.int (p1 &&& (7 : Int32))), .val (.ref sju), .val (.int flju), .val (.int (p2 &&& (15 : Int32))), q8u, q9u, .val (.ref b192), .val (.int (own_k2 p2)), .val (.int (own_r2 p4))] [(.int (own_k2 p2)), (.ref b192)])) rfl rfl (hb hby at_443) ?_
            show Steps p.tables e below (T243.setTop (mkF m 444 #[.val (.int p1), .val (.int p2), .val (.int p3), .val (.int p4), .val (.int (p1 &&& (7 : Int32))), .val (.ref sju), .val (.int flju), .val (.int (p2 &&& (15 : Int32))), q8u, q9u, .val (.ref b192), .val (.int (own_k2 p2)), .val (.int (own_r2 p4))] [(.int ((own_of own_tx1) kn2))])) _
            refine XS.iload Xg251.here hx rfl (hb hby at_444) rfl ?_
            exact k
          by_cases hc446_253 : ((own_of own_tx1) kn2) = (own_r2 p4)
          · have k254 : ∀ t, Steps p.tables e below (T243.setTop (mkF m 462 #[.val (.int p1), .val (.int p2), .val (.int p3), .val (.int p4), .val (.int (p1 &&& (7 : Int32))), .val (.ref sju), .val (.int flju), .val (.int (p2 &&& (15 : Int32))), q8u, .val (.int (1 : Int32)), .val (.ref b192), .val (.int (own_k2 p2)), .val (.int (own_r2 p4))] [(.int (own_r2 p4)), (.int (own_k2 p2)), (.ref b192)])) t → Steps p.tables e below (s₁.setTop (entryFrame m #[(.int p1), (.int p2), (.int p3), (.int p4)] maxLocals)) t := by
              intro t k
              refine k252 t ?_
              show Steps p.tables e below (T243.setTop (mkF m 446 #[.val (.int p1), .val (.int p2), .val (.int p3), .val (.int p4), .val (.int (p1 &&& (7 : Int32))), .val (.ref sju), .val (.int flju), .val (.int (p2 &&& (15 : Int32))), q8u, q9u, .val (.ref b192), .val (.int (own_k2 p2)), .val (.int (own_r2 p4))] [(.int (own_r2 p4)), (.int ((own_of own_tx1) kn2))])) _
              refine XS.icmpNo Xg251.here hx rfl (hb hby at_446) rfl (teq hc446_253).2 ?_
              show Steps p.tables e below (T243.setTop (mkF m 449 #[.val (.int p1), .val (.int p2), .val (.int p3), .val (.int p4), .val (.int (p1 &&& (7 : Int32))), .val (.ref sju), .val (.int flju), .val (.int (p2 &&& (15 : Int32))), q8u, q9u, .val (.ref b192), .val (.int (own_k2 p2)), .val (.int (own_r2 p4))] [])) _
              refine XS.iconst Xg251.here hx rfl (hb hby at_449) ?_
              show Steps p.tables e below (T243.setTop (mkF m 450 #[.val (.int p1), .val (.int p2), .val (.int p3), .val (.int p4), .val (.int (p1 &&& (7 : Int32))), .val (.ref sju), .val (.int flju), .val (.int (p2 &&& (15 : Int32))), q8u, q9u, .val (.ref b192), .val (.int (own_k2 p2)), .val (.int (own_r2 p4))] [(.int (1 : Int32))])) _
              refine XS.goto Xg251.here hx rfl (pc0 := 450) (pc' := 454) rfl (hb hby at_450) (by decide) (by decide) ?_
              show Steps p.tables e below (T243.setTop (mkF m 454 #[.val (.int p1), .val (.int p2), .val (.int p3), .val (.int p4), .val (.int (p1 &&& (7 : Int32))), .val (.ref sju), .val (.int flju), .val (.int (p2 &&& (15 : Int32))), q8u, q9u, .val (.ref b192), .val (.int (own_k2 p2)), .val (.int (own_r2 p4))] [(.int (1 : Int32))])) _
              refine XS.istore Xg251.here hx rfl (hb hby at_454) rfl (l' := #[.val (.int p1), .val (.int p2), .val (.int p3), .val (.int p4), .val (.int (p1 &&& (7 : Int32))), .val (.ref sju), .val (.int flju), .val (.int (p2 &&& (15 : Int32))), q8u, .val (.int (1 : Int32)), .val (.ref b192), .val (.int (own_k2 p2)), .val (.int (own_r2 p4))]) (by rcases hqq9u with rfl | ⟨v_, rfl⟩ | ⟨v_, rfl⟩ <;> rfl) ?_
              show Steps p.tables e below (T243.setTop (mkF m 456 #[.val (.int p1), .val (.int p2), .val (.int p3), .val (.int p4), .val (.int (p1 &&& (7 : Int32))), .val (.ref sju), .val (.int flju), .val (.int (p2 &&& (15 : Int32))), q8u, .val (.int (1 : Int32)), .val (.ref b192), .val (.int (own_k2 p2)), .val (.int (own_r2 p4))] [])) _
              refine XS.aload Xg251.here hx rfl (hb hby at_456) rfl rfl ?_
              show Steps p.tables e below (T243.setTop (mkF m 458 #[.val (.int p1), .val (.int p2), .val (.int p3), .val (.int p4), .val (.int (p1 &&& (7 : Int32))), .val (.ref sju), .val (.int flju), .val (.int (p2 &&& (15 : Int32))), q8u, .val (.int (1 : Int32)), .val (.ref b192), .val (.int (own_k2 p2)), .val (.int (own_r2 p4))] [(.ref b192)])) _
              refine XS.iload Xg251.here hx rfl (hb hby at_458) rfl ?_
              show Steps p.tables e below (T243.setTop (mkF m 460 #[.val (.int p1), .val (.int p2), .val (.int p3), .val (.int p4), .val (.int (p1 &&& (7 : Int32))), .val (.ref sju), .val (.int flju), .val (.int (p2 &&& (15 : Int32))), q8u, .val (.int (1 : Int32)), .val (.ref b192), .val (.int (own_k2 p2)), .val (.int (own_r2 p4))] [(.int (own_k2 p2)), (.ref b192)])) _
              refine XS.iload Xg251.here hx rfl (hb hby at_460) rfl ?_
              exact k
            obtain ⟨T255, h255, X255, e255, W255, G255, st255⟩ := own_stC Xg251 hx hZ e243 GA251 (j := (own_k2 p2)) hkn2 (by omega) (g := (mkF m 462 #[.val (.int p1), .val (.int p2), .val (.int p3), .val (.int p4), .val (.int (p1 &&& (7 : Int32))), .val (.ref sju), .val (.int flju), .val (.int (p2 &&& (15 : Int32))), q8u, .val (.int (1 : Int32)), .val (.ref b192), .val (.int (own_k2 p2)), .val (.int (own_r2 p4))] [(.int (own_r2 p4)), (.int (own_k2 p2)), (.ref b192)])) rfl rfl (hb hby at_462)
            have f256 := f244.wr W255
            have f257 := f245.other W255 (Or.inl ne193)
            have f258 := f246.other W255 (Or.inl ne193)
            have f259 := f247.other W255 ne194
            have N255 := Fr.snoc X255 Ng251 ge192
            have K255 : Keep hju h255 [] := K243.wr W255 (Or.inr bo192)
            have Z255 : n0 ≤ h255.size := Nat.le_trans Z243 (Keep.of_wr W255).1
            have Xo255 := Xo243.wr W255 ge192
            have k260 : ∀ t, Steps p.tables e below (T255.setTop (mkF m 463 #[.val (.int p1), .val (.int p2), .val (.int p3), .val (.int p4), .val (.int (p1 &&& (7 : Int32))), .val (.ref sju), .val (.int flju), .val (.int (p2 &&& (15 : Int32))), q8u, .val (.int (1 : Int32)), .val (.ref b192), .val (.int (own_k2 p2)), .val (.int (own_r2 p4))] [])) t → Steps p.tables e below (s₁.setTop (entryFrame m #[(.int p1), (.int p2), (.int p3), (.int p4)] maxLocals)) t := fun t k => k254 t (st255 t k)
            obtain ⟨T261, h261, X261, e261, E261, A261, D261, -, st261⟩ := newO X255 hx hZ hown (hw _ (List.mem_of_getElem? (i := 9) rfl)) (hw _ (List.mem_of_getElem? (i := 2) rfl)) (hw _ (List.mem_of_getElem? (i := 1) rfl)) e255 (g := (mkF m 463 #[.val (.int p1), .val (.int p2), .val (.int p3), .val (.int p4), .val (.int (p1 &&& (7 : Int32))), .val (.ref sju), .val (.int flju), .val (.int (p2 &&& (15 : Int32))), q8u, .val (.int (1 : Int32)), .val (.ref b192), .val (.int (own_k2 p2)), .val (.int (own_r2 p4))] [])) rfl (hb hby at_463) (by decide) (by decide)
            obtain ⟨b261, g261⟩ : ∃ z, z = h255.size := ⟨_, rfl⟩
            rw [← g261] at A261 D261 st261
            have ge261 : n0 ≤ b261 := Nat.le_trans Z255 (Nat.le_of_eq g261.symm)
            have bo261 : hju.size ≤ b261 := Nat.le_trans K255.1 (Nat.le_of_eq g261.symm)
            have ne262 : sju ≠ b261 := Nat.ne_of_lt (Nat.lt_of_lt_of_le f256.lt (Nat.le_of_eq g261.symm))
            have ne263 : bju ≠ b261 := Nat.ne_of_lt (Nat.lt_of_lt_of_le f259.lt (Nat.le_of_eq g261.symm))
            have ne264 : b192 ≠ b261 := Nat.ne_of_lt (Nat.lt_of_lt_of_le G255.lt (Nat.le_of_eq g261.symm))
            have Z261 : n0 ≤ h261.size := Nat.le_trans Z255 E261.1
            have K261 : Keep hju h261 [] := K255.ext E261
            have Xo261 := Xo255.ext E261
            have f265 := f256.ext E261
            have f266 := f257.ext E261
            have f267 := f258.ext E261
            have f268 := f259.ext E261
            have f269 := G255.ext E261
            have f270 : Fld Z h261 b261 "java/lang/String" "value" "[B" .null := D261 (Or.inr (hw _ (List.mem_of_getElem? (i := 4) rfl))) (ty := (.array .byte)) (by decide)
            have f271 : Fld Z h261 b261 "java/lang/String" "coder" "B" (.int (0 : Int32)) := D261 (Or.inr (hw _ (List.mem_of_getElem? (i := 5) rfl))) (ty := .byte) (by decide)
            have k272 : ∀ t, Steps p.tables e below (T261.setTop (mkF m 466 #[.val (.int p1), .val (.int p2), .val (.int p3), .val (.int p4), .val (.int (p1 &&& (7 : Int32))), .val (.ref sju), .val (.int flju), .val (.int (p2 &&& (15 : Int32))), q8u, .val (.int (1 : Int32)), .val (.ref b192), .val (.int (own_k2 p2)), .val (.int (own_r2 p4))] [(.ref b261)])) t → Steps p.tables e below (s₁.setTop (entryFrame m #[(.int p1), (.int p2), (.int p3), (.int p4)] maxLocals)) t := fun t k => k260 t (st261 t k)
            have k273 : ∀ t, Steps p.tables e below (T261.setTop (mkF m 469 #[.val (.int p1), .val (.int p2), .val (.int p3), .val (.int p4), .val (.int (p1 &&& (7 : Int32))), .val (.ref sju), .val (.int flju), .val (.int (p2 &&& (15 : Int32))), q8u, .val (.int (1 : Int32)), .val (.ref b192), .val (.int (own_k2 p2)), .val (.int (own_r2 p4))] [(.ref b192), (.ref b261), (.ref b261)])) t → Steps p.tables e below (s₁.setTop (entryFrame m #[(.int p1), (.int p2), (.int p3), (.int p4)] maxLocals)) t := by
              intro t k
              refine k272 t ?_
              show Steps p.tables e below (T261.setTop (mkF m 466 #[.val (.int p1), .val (.int p2), .val (.int p3), .val (.int p4), .val (.int (p1 &&& (7 : Int32))), .val (.ref sju), .val (.int flju), .val (.int (p2 &&& (15 : Int32))), q8u, .val (.int (1 : Int32)), .val (.ref b192), .val (.int (own_k2 p2)), .val (.int (own_r2 p4))] [(.ref b261)])) _
              refine XS.dup X261.here hx rfl (hb hby at_466) rfl rfl ?_
              show Steps p.tables e below (T261.setTop (mkF m 467 #[.val (.int p1), .val (.int p2), .val (.int p3), .val (.int p4), .val (.int (p1 &&& (7 : Int32))), .val (.ref sju), .val (.int flju), .val (.int (p2 &&& (15 : Int32))), q8u, .val (.int (1 : Int32)), .val (.ref b192), .val (.int (own_k2 p2)), .val (.int (own_r2 p4))] [(.ref b261), (.ref b261)])) _
              refine XS.aload X261.here hx rfl (hb hby at_467) rfl rfl ?_
              exact k
            have hal : ∀ i, i < 7 → ¬ ((255 : Int32) < (own_upd (own_of own_tx1) kn2 (nar .char (own_r2 p4))) (0 + i)) := own_halU (f := own_of own_tx1) own_halT2 (own_rr2 _).2.2
            obtain ⟨_, _, ⟨T274, L274, k274c, n274⟩, -, X274, ⟨Lc274, hQ274, l274, y274, z274⟩, st274⟩ := X261.specialBack hx (y := (⟨"java/lang/String", "<init>", "([C)V"⟩ : MethodName)) rfl hown (mvT hZ (hw _ (List.mem_of_getElem? (i := 10) rfl))) (mvT hZ (hw _ (List.mem_of_getElem? (i := 11) rfl))) (mvT hZ (hw _ (List.mem_of_getElem? (i := 12) rfl))) (by decide) (backOf (W := 1) (own_rms1 l Z a0 hw [] b261 b192 .null (.int (0 : Int32)) 7 (own_upd (own_of own_tx1) kn2 (nar .char (own_r2 p4))) cs h261 n0 Z261 A261 f270 f271 f269 ge261 ne264 Xo261 SC hcs (by omega) (by omega) hal) hZ (hw _ (List.mem_of_getElem? (i := 12) rfl)) (hw _ (List.mem_of_getElem? (i := 1) rfl)) (by decide) (by decide)) (g := (mkF m 469 #[.val (.int p1), .val (.int p2), .val (.int p3), .val (.int p4), .val (.int (p1 &&& (7 : Int32))), .val (.ref sju), .val (.int flju), .val (.int (p2 &&& (15 : Int32))), q8u, .val (.int (1 : Int32)), .val (.ref b192), .val (.int (own_k2 p2)), .val (.int (own_r2 p4))] [(.ref b192), (.ref b261), (.ref b261)])) rfl (by rw [hml]; rfl) (Steps.refl _) (a := b261) (argsL := [(.ref b192)]) (rest := [(.ref b261)]) (lenOf own_pd6 rfl) rfl (by show 2 * 0 + _ ≤ _; exact Nat.le_of_eq rfl) (hb hby at_469) (fun _ _ => ⟨rfl, e261, (by decide : 6 + 1 ≤ _), (by decide : 127 + 28 ≤ _)⟩)
            dsimp only [Pt.U, Pt.locs, Pt.cells, Pt.slots] at X274 l274 y274 z274 st274 hQ274
            subst l274 y274 z274
            obtain ⟨rb_274, rfl, N274q, Kq274, gz274_b, fq274_0, fq274_1, fq274_2⟩ := hQ274
            have N274 := Fr.app N255 N274q
            have ge274_b : n0 ≤ rb_274 := Nat.le_trans Z261 gz274_b
            have bo274_b : hju.size ≤ rb_274 := Nat.le_trans K261.1 gz274_b
            have ne275 : b192 ≠ rb_274 := Nat.ne_of_lt (Nat.lt_of_lt_of_le f269.lt gz274_b)
            have ne276 : b261 ≠ rb_274 := Nat.ne_of_lt (Nat.lt_of_lt_of_le A261.lt gz274_b)
            have ne277 : bju ≠ rb_274 := Nat.ne_of_lt (Nat.lt_of_lt_of_le f268.lt gz274_b)
            have ne278 : sju ≠ rb_274 := Nat.ne_of_lt (Nat.lt_of_lt_of_le f265.lt gz274_b)
            have f279 := f265.keep Kq274
            have f280 := f266.keep Kq274 (List.not_mem_cons_of_ne_of_not_mem ne262 List.not_mem_nil)
            have f281 := f267.keep Kq274 (List.not_mem_cons_of_ne_of_not_mem ne262 List.not_mem_nil)
            have f282 := f268.keep Kq274 (List.not_mem_cons_of_ne_of_not_mem ne263 List.not_mem_nil)
            have f283 := f269.keep Kq274 (List.not_mem_cons_of_ne_of_not_mem ne264 List.not_mem_nil)
            have f284 := A261.keep Kq274
            have Z274 : n0 ≤ T274.heap.size := Nat.le_trans Z261 Kq274.1
            have K274 : Keep hju T274.heap [] := K261.trans Kq274 (fun x hx => by rcases List.mem_cons.mp hx with rfl | hx; exact Or.inr bo261; exact nomatch hx)
            have Xo274 := Xo261.keep Kq274 (allS ge261 all0)
            have k285 : ∀ t, Steps p.tables e below (T274.setTop (mkF m 472 #[.val (.int p1), .val (.int p2), .val (.int p3), .val (.int p4), .val (.int (p1 &&& (7 : Int32))), .val (.ref sju), .val (.int flju), .val (.int (p2 &&& (15 : Int32))), q8u, .val (.int (1 : Int32)), .val (.ref b192), .val (.int (own_k2 p2)), .val (.int (own_r2 p4))] [(.ref b261)])) t → Steps p.tables e below (s₁.setTop (entryFrame m #[(.int p1), (.int p2), (.int p3), (.int p4)] maxLocals)) t := fun t k => k273 t (st274.trans k)
            have k286 : ∀ t, Steps p.tables e below (T274.setTop (mkF m 793 #[.val (.int p1), .val (.int p2), .val (.int p3), .val (.int p4), .val (.int (p1 &&& (7 : Int32))), .val (.ref sju), .val (.int flju), .val (.int (p2 &&& (15 : Int32))), .val (.ref b261), .val (.int (1 : Int32)), .val (.ref b192), .val (.int (own_k2 p2)), .val (.int (own_r2 p4))] [])) t → Steps p.tables e below (s₁.setTop (entryFrame m #[(.int p1), (.int p2), (.int p3), (.int p4)] maxLocals)) t := by
              intro t k
              refine k285 t ?_
              show Steps p.tables e below (T274.setTop (mkF m 472 #[.val (.int p1), .val (.int p2), .val (.int p3), .val (.int p4), .val (.int (p1 &&& (7 : Int32))), .val (.ref sju), .val (.int flju), .val (.int (p2 &&& (15 : Int32))), q8u, .val (.int (1 : Int32)), .val (.ref b192), .val (.int (own_k2 p2)), .val (.int (own_r2 p4))] [(.ref b261)])) _
              refine XS.astore X274.here hx rfl (hb hby at_472) rfl rfl (l' := #[.val (.int p1), .val (.int p2), .val (.int p3), .val (.int p4), .val (.int (p1 &&& (7 : Int32))), .val (.ref sju), .val (.int flju), .val (.int (p2 &&& (15 : Int32))), .val (.ref b261), .val (.int (1 : Int32)), .val (.ref b192), .val (.int (own_k2 p2)), .val (.int (own_r2 p4))]) (by rcases hqq8u with rfl | ⟨v_, rfl⟩ | ⟨v_, rfl⟩ <;> rfl) ?_
              show Steps p.tables e below (T274.setTop (mkF m 474 #[.val (.int p1), .val (.int p2), .val (.int p3), .val (.int p4), .val (.int (p1 &&& (7 : Int32))), .val (.ref sju), .val (.int flju), .val (.int (p2 &&& (15 : Int32))), .val (.ref b261), .val (.int (1 : Int32)), .val (.ref b192), .val (.int (own_k2 p2)), .val (.int (own_r2 p4))] [])) _
              refine XS.goto X274.here hx rfl (pc0 := 474) (pc' := 793) rfl (hb hby at_474) (by decide) (by decide) ?_
              exact k
            exact ⟨vmju, _, _, _, _, b261, rb_274, 7, (own_b8 (own_upd (own_of own_tx1) kn2 (nar .char (own_r2 p4))) 0), (1 : Int32), (.val (.ref b192)), (.val (.int (own_k2 p2))), (.val (.int (own_r2 p4))), (X274.more (by decide) (by decide)), rfl, N274, Z274, Xo274, Siju, (Nat.le_trans (Nat.le_trans (Nat.le_trans (Nat.le_trans (Nat.le_trans (Nat.le_trans (Nat.le_trans (Nat.le_trans (Nat.le_trans (Nat.le_trans (Nat.le_trans (Nat.le_trans (Nat.le_refl _) (hkju)) (E192.1)) ((Keep.of_wr W201).1)) ((Keep.of_wr W208).1)) ((Keep.of_wr W215).1)) ((Keep.of_wr W222).1)) ((Keep.of_wr W229).1)) ((Keep.of_wr W236).1)) ((Keep.of_wr W243).1)) ((Keep.of_wr W255).1)) (E261.1)) (Kq274.1)), hZ, hown, (Hcju.keep K274 (fun x hx => nomatch hx)), f279, f280, f281, f282, f284, fq274_0, fq274_1, fq274_2, (by omega), (Or.inl ⟨rfl, Or.inl ((own_chgR (L := own_tx1) (n := 7) (k := kn2) (own_rr2 _) rfl own_lowT2 hkl2).mpr hc446_253)⟩), (Or.inr (Or.inl ⟨_, rfl⟩)), (Or.inr (Or.inr ⟨_, rfl⟩)), (Or.inr (Or.inr ⟨_, rfl⟩)), k286⟩
          · have k287 : ∀ t, Steps p.tables e below (T243.setTop (mkF m 462 #[.val (.int p1), .val (.int p2), .val (.int p3), .val (.int p4), .val (.int (p1 &&& (7 : Int32))), .val (.ref sju), .val (.int flju), .val (.int (p2 &&& (15 : Int32))), q8u, .val (.int (0 : Int32)), .val (.ref b192), .val (.int (own_k2 p2)), .val (.int (own_r2 p4))] [(.int (own_r2 p4)), (.int (own_k2 p2)), (.ref b192)])) t → Steps p.tables e below (s₁.setTop (entryFrame m #[(.int p1), (.int p2), (.int p3), (.int p4)] maxLocals)) t := by
              intro t k
              refine k252 t ?_
              show Steps p.tables e below (T243.setTop (mkF m 446 #[.val (.int p1), .val (.int p2), .val (.int p3), .val (.int p4), .val (.int (p1 &&& (7 : Int32))), .val (.ref sju), .val (.int flju), .val (.int (p2 &&& (15 : Int32))), q8u, q9u, .val (.ref b192), .val (.int (own_k2 p2)), .val (.int (own_r2 p4))] [(.int (own_r2 p4)), (.int ((own_of own_tx1) kn2))])) _
              refine XS.icmpYes Xg251.here hx rfl (pc0 := 446) (pc' := 453) rfl (hb hby at_446) rfl (feq hc446_253).2 (by decide) (by decide) ?_
              show Steps p.tables e below (T243.setTop (mkF m 453 #[.val (.int p1), .val (.int p2), .val (.int p3), .val (.int p4), .val (.int (p1 &&& (7 : Int32))), .val (.ref sju), .val (.int flju), .val (.int (p2 &&& (15 : Int32))), q8u, q9u, .val (.ref b192), .val (.int (own_k2 p2)), .val (.int (own_r2 p4))] [])) _
              refine XS.iconst Xg251.here hx rfl (hb hby at_453) ?_
              show Steps p.tables e below (T243.setTop (mkF m 454 #[.val (.int p1), .val (.int p2), .val (.int p3), .val (.int p4), .val (.int (p1 &&& (7 : Int32))), .val (.ref sju), .val (.int flju), .val (.int (p2 &&& (15 : Int32))), q8u, q9u, .val (.ref b192), .val (.int (own_k2 p2)), .val (.int (own_r2 p4))] [(.int (0 : Int32))])) _
              refine XS.istore Xg251.here hx rfl (hb hby at_454) rfl (l' := #[.val (.int p1), .val (.int p2), .val (.int p3), .val (.int p4), .val (.int (p1 &&& (7 : Int32))), .val (.ref sju), .val (.int flju), .val (.int (p2 &&& (15 : Int32))), q8u, .val (.int (0 : Int32)), .val (.ref b192), .val (.int (own_k2 p2)), .val (.int (own_r2 p4))]) (by rcases hqq9u with rfl | ⟨v_, rfl⟩ | ⟨v_, rfl⟩ <;> rfl) ?_
              show Steps p.tables e below (T243.setTop (mkF m 456 #[.val (.int p1), .val (.int p2), .val (.int p3), .val (.int p4), .val (.int (p1 &&& (7 : Int32))), .val (.ref sju), .val (.int flju), .val (.int (p2 &&& (15 : Int32))), q8u, .val (.int (0 : Int32)), .val (.ref b192), .val (.int (own_k2 p2)), .val (.int (own_r2 p4))] [])) _
              refine XS.aload Xg251.here hx rfl (hb hby at_456) rfl rfl ?_
              show Steps p.tables e below (T243.setTop (mkF m 458 #[.val (.int p1), .val (.int p2), .val (.int p3), .val (.int p4), .val (.int (p1 &&& (7 : Int32))), .val (.ref sju), .val (.int flju), .val (.int (p2 &&& (15 : Int32))), q8u, .val (.int (0 : Int32)), .val (.ref b192), .val (.int (own_k2 p2)), .val (.int (own_r2 p4))] [(.ref b192)])) _
              refine XS.iload Xg251.here hx rfl (hb hby at_458) rfl ?_
              show Steps p.tables e below (T243.setTop (mkF m 460 #[.val (.int p1), .val (.int p2), .val (.int p3), .val (.int p4), .val (.int (p1 &&& (7 : Int32))), .val (.ref sju), .val (.int flju), .val (.int (p2 &&& (15 : Int32))), q8u, .val (.int (0 : Int32)), .val (.ref b192), .val (.int (own_k2 p2)), .val (.int (own_r2 p4))] [(.int (own_k2 p2)), (.ref b192)])) _
              refine XS.iload Xg251.here hx rfl (hb hby at_460) rfl ?_
              exact k
            obtain ⟨T288, h288, X288, e288, W288, G288, st288⟩ := own_stC Xg251 hx hZ e243 GA251 (j := (own_k2 p2)) hkn2 (by omega) (g := (mkF m 462 #[.val (.int p1), .val (.int p2), .val (.int p3), .val (.int p4), .val (.int (p1 &&& (7 : Int32))), .val (.ref sju), .val (.int flju), .val (.int (p2 &&& (15 : Int32))), q8u, .val (.int (0 : Int32)), .val (.ref b192), .val (.int (own_k2 p2)), .val (.int (own_r2 p4))] [(.int (own_r2 p4)), (.int (own_k2 p2)), (.ref b192)])) rfl rfl (hb hby at_462)
            have f289 := f244.wr W288
            have f290 := f245.other W288 (Or.inl ne193)
            have f291 := f246.other W288 (Or.inl ne193)
            have f292 := f247.other W288 ne194
            have N288 := Fr.snoc X288 Ng251 ge192
            have K288 : Keep hju h288 [] := K243.wr W288 (Or.inr bo192)
            have Z288 : n0 ≤ h288.size := Nat.le_trans Z243 (Keep.of_wr W288).1
            have Xo288 := Xo243.wr W288 ge192
            have k293 : ∀ t, Steps p.tables e below (T288.setTop (mkF m 463 #[.val (.int p1), .val (.int p2), .val (.int p3), .val (.int p4), .val (.int (p1 &&& (7 : Int32))), .val (.ref sju), .val (.int flju), .val (.int (p2 &&& (15 : Int32))), q8u, .val (.int (0 : Int32)), .val (.ref b192), .val (.int (own_k2 p2)), .val (.int (own_r2 p4))] [])) t → Steps p.tables e below (s₁.setTop (entryFrame m #[(.int p1), (.int p2), (.int p3), (.int p4)] maxLocals)) t := fun t k => k287 t (st288 t k)
            obtain ⟨T294, h294, X294, e294, E294, A294, D294, -, st294⟩ := newO X288 hx hZ hown (hw _ (List.mem_of_getElem? (i := 9) rfl)) (hw _ (List.mem_of_getElem? (i := 2) rfl)) (hw _ (List.mem_of_getElem? (i := 1) rfl)) e288 (g := (mkF m 463 #[.val (.int p1), .val (.int p2), .val (.int p3), .val (.int p4), .val (.int (p1 &&& (7 : Int32))), .val (.ref sju), .val (.int flju), .val (.int (p2 &&& (15 : Int32))), q8u, .val (.int (0 : Int32)), .val (.ref b192), .val (.int (own_k2 p2)), .val (.int (own_r2 p4))] [])) rfl (hb hby at_463) (by decide) (by decide)
            obtain ⟨b294, g294⟩ : ∃ z, z = h288.size := ⟨_, rfl⟩
            rw [← g294] at A294 D294 st294
            have ge294 : n0 ≤ b294 := Nat.le_trans Z288 (Nat.le_of_eq g294.symm)
            have bo294 : hju.size ≤ b294 := Nat.le_trans K288.1 (Nat.le_of_eq g294.symm)
            have ne295 : sju ≠ b294 := Nat.ne_of_lt (Nat.lt_of_lt_of_le f289.lt (Nat.le_of_eq g294.symm))
            have ne296 : bju ≠ b294 := Nat.ne_of_lt (Nat.lt_of_lt_of_le f292.lt (Nat.le_of_eq g294.symm))
            have ne297 : b192 ≠ b294 := Nat.ne_of_lt (Nat.lt_of_lt_of_le G288.lt (Nat.le_of_eq g294.symm))
            have Z294 : n0 ≤ h294.size := Nat.le_trans Z288 E294.1
            have K294 : Keep hju h294 [] := K288.ext E294
            have Xo294 := Xo288.ext E294
            have f298 := f289.ext E294
            have f299 := f290.ext E294
            have f300 := f291.ext E294
            have f301 := f292.ext E294
            have f302 := G288.ext E294
            have f303 : Fld Z h294 b294 "java/lang/String" "value" "[B" .null := D294 (Or.inr (hw _ (List.mem_of_getElem? (i := 4) rfl))) (ty := (.array .byte)) (by decide)
            have f304 : Fld Z h294 b294 "java/lang/String" "coder" "B" (.int (0 : Int32)) := D294 (Or.inr (hw _ (List.mem_of_getElem? (i := 5) rfl))) (ty := .byte) (by decide)
            have k305 : ∀ t, Steps p.tables e below (T294.setTop (mkF m 466 #[.val (.int p1), .val (.int p2), .val (.int p3), .val (.int p4), .val (.int (p1 &&& (7 : Int32))), .val (.ref sju), .val (.int flju), .val (.int (p2 &&& (15 : Int32))), q8u, .val (.int (0 : Int32)), .val (.ref b192), .val (.int (own_k2 p2)), .val (.int (own_r2 p4))] [(.ref b294)])) t → Steps p.tables e below (s₁.setTop (entryFrame m #[(.int p1), (.int p2), (.int p3), (.int p4)] maxLocals)) t := fun t k => k293 t (st294 t k)
            have k306 : ∀ t, Steps p.tables e below (T294.setTop (mkF m 469 #[.val (.int p1), .val (.int p2), .val (.int p3), .val (.int p4), .val (.int (p1 &&& (7 : Int32))), .val (.ref sju), .val (.int flju), .val (.int (p2 &&& (15 : Int32))), q8u, .val (.int (0 : Int32)), .val (.ref b192), .val (.int (own_k2 p2)), .val (.int (own_r2 p4))] [(.ref b192), (.ref b294), (.ref b294)])) t → Steps p.tables e below (s₁.setTop (entryFrame m #[(.int p1), (.int p2), (.int p3), (.int p4)] maxLocals)) t := by
              intro t k
              refine k305 t ?_
              show Steps p.tables e below (T294.setTop (mkF m 466 #[.val (.int p1), .val (.int p2), .val (.int p3), .val (.int p4), .val (.int (p1 &&& (7 : Int32))), .val (.ref sju), .val (.int flju), .val (.int (p2 &&& (15 : Int32))), q8u, .val (.int (0 : Int32)), .val (.ref b192), .val (.int (own_k2 p2)), .val (.int (own_r2 p4))] [(.ref b294)])) _
              refine XS.dup X294.here hx rfl (hb hby at_466) rfl rfl ?_
              show Steps p.tables e below (T294.setTop (mkF m 467 #[.val (.int p1), .val (.int p2), .val (.int p3), .val (.int p4), .val (.int (p1 &&& (7 : Int32))), .val (.ref sju), .val (.int flju), .val (.int (p2 &&& (15 : Int32))), q8u, .val (.int (0 : Int32)), .val (.ref b192), .val (.int (own_k2 p2)), .val (.int (own_r2 p4))] [(.ref b294), (.ref b294)])) _
              refine XS.aload X294.here hx rfl (hb hby at_467) rfl rfl ?_
              exact k
            have hal : ∀ i, i < 7 → ¬ ((255 : Int32) < (own_upd (own_of own_tx1) kn2 (nar .char (own_r2 p4))) (0 + i)) := own_halU (f := own_of own_tx1) own_halT2 (own_rr2 _).2.2
            obtain ⟨_, _, ⟨T307, L307, k307c, n307⟩, -, X307, ⟨Lc307, hQ307, l307, y307, z307⟩, st307⟩ := X294.specialBack hx (y := (⟨"java/lang/String", "<init>", "([C)V"⟩ : MethodName)) rfl hown (mvT hZ (hw _ (List.mem_of_getElem? (i := 10) rfl))) (mvT hZ (hw _ (List.mem_of_getElem? (i := 11) rfl))) (mvT hZ (hw _ (List.mem_of_getElem? (i := 12) rfl))) (by decide) (backOf (W := 1) (own_rms1 l Z a0 hw [] b294 b192 .null (.int (0 : Int32)) 7 (own_upd (own_of own_tx1) kn2 (nar .char (own_r2 p4))) cs h294 n0 Z294 A294 f303 f304 f302 ge294 ne297 Xo294 SC hcs (by omega) (by omega) hal) hZ (hw _ (List.mem_of_getElem? (i := 12) rfl)) (hw _ (List.mem_of_getElem? (i := 1) rfl)) (by decide) (by decide)) (g := (mkF m 469 #[.val (.int p1), .val (.int p2), .val (.int p3), .val (.int p4), .val (.int (p1 &&& (7 : Int32))), .val (.ref sju), .val (.int flju), .val (.int (p2 &&& (15 : Int32))), q8u, .val (.int (0 : Int32)), .val (.ref b192), .val (.int (own_k2 p2)), .val (.int (own_r2 p4))] [(.ref b192), (.ref b294), (.ref b294)])) rfl (by rw [hml]; rfl) (Steps.refl _) (a := b294) (argsL := [(.ref b192)]) (rest := [(.ref b294)]) (lenOf own_pd6 rfl) rfl (by show 2 * 0 + _ ≤ _; exact Nat.le_of_eq rfl) (hb hby at_469) (fun _ _ => ⟨rfl, e294, (by decide : 6 + 1 ≤ _), (by decide : 127 + 28 ≤ _)⟩)
            dsimp only [Pt.U, Pt.locs, Pt.cells, Pt.slots] at X307 l307 y307 z307 st307 hQ307
            subst l307 y307 z307
            obtain ⟨rb_307, rfl, N307q, Kq307, gz307_b, fq307_0, fq307_1, fq307_2⟩ := hQ307
            have N307 := Fr.app N288 N307q
            have ge307_b : n0 ≤ rb_307 := Nat.le_trans Z294 gz307_b
            have bo307_b : hju.size ≤ rb_307 := Nat.le_trans K294.1 gz307_b
            have ne308 : b192 ≠ rb_307 := Nat.ne_of_lt (Nat.lt_of_lt_of_le f302.lt gz307_b)
            have ne309 : b294 ≠ rb_307 := Nat.ne_of_lt (Nat.lt_of_lt_of_le A294.lt gz307_b)
            have ne310 : bju ≠ rb_307 := Nat.ne_of_lt (Nat.lt_of_lt_of_le f301.lt gz307_b)
            have ne311 : sju ≠ rb_307 := Nat.ne_of_lt (Nat.lt_of_lt_of_le f298.lt gz307_b)
            have f312 := f298.keep Kq307
            have f313 := f299.keep Kq307 (List.not_mem_cons_of_ne_of_not_mem ne295 List.not_mem_nil)
            have f314 := f300.keep Kq307 (List.not_mem_cons_of_ne_of_not_mem ne295 List.not_mem_nil)
            have f315 := f301.keep Kq307 (List.not_mem_cons_of_ne_of_not_mem ne296 List.not_mem_nil)
            have f316 := f302.keep Kq307 (List.not_mem_cons_of_ne_of_not_mem ne297 List.not_mem_nil)
            have f317 := A294.keep Kq307
            have Z307 : n0 ≤ T307.heap.size := Nat.le_trans Z294 Kq307.1
            have K307 : Keep hju T307.heap [] := K294.trans Kq307 (fun x hx => by rcases List.mem_cons.mp hx with rfl | hx; exact Or.inr bo294; exact nomatch hx)
            have Xo307 := Xo294.keep Kq307 (allS ge294 all0)
            have k318 : ∀ t, Steps p.tables e below (T307.setTop (mkF m 472 #[.val (.int p1), .val (.int p2), .val (.int p3), .val (.int p4), .val (.int (p1 &&& (7 : Int32))), .val (.ref sju), .val (.int flju), .val (.int (p2 &&& (15 : Int32))), q8u, .val (.int (0 : Int32)), .val (.ref b192), .val (.int (own_k2 p2)), .val (.int (own_r2 p4))] [(.ref b294)])) t → Steps p.tables e below (s₁.setTop (entryFrame m #[(.int p1), (.int p2), (.int p3), (.int p4)] maxLocals)) t := fun t k => k306 t (st307.trans k)
            have k319 : ∀ t, Steps p.tables e below (T307.setTop (mkF m 793 #[.val (.int p1), .val (.int p2), .val (.int p3), .val (.int p4), .val (.int (p1 &&& (7 : Int32))), .val (.ref sju), .val (.int flju), .val (.int (p2 &&& (15 : Int32))), .val (.ref b294), .val (.int (0 : Int32)), .val (.ref b192), .val (.int (own_k2 p2)), .val (.int (own_r2 p4))] [])) t → Steps p.tables e below (s₁.setTop (entryFrame m #[(.int p1), (.int p2), (.int p3), (.int p4)] maxLocals)) t := by
              intro t k
              refine k318 t ?_
              show Steps p.tables e below (T307.setTop (mkF m 472 #[.val (.int p1), .val (.int p2), .val (.int p3), .val (.int p4), .val (.int (p1 &&& (7 : Int32))), .val (.ref sju), .val (.int flju), .val (.int (p2 &&& (15 : Int32))), q8u, .val (.int (0 : Int32)), .val (.ref b192), .val (.int (own_k2 p2)), .val (.int (own_r2 p4))] [(.ref b294)])) _
              refine XS.astore X307.here hx rfl (hb hby at_472) rfl rfl (l' := #[.val (.int p1), .val (.int p2), .val (.int p3), .val (.int p4), .val (.int (p1 &&& (7 : Int32))), .val (.ref sju), .val (.int flju), .val (.int (p2 &&& (15 : Int32))), .val (.ref b294), .val (.int (0 : Int32)), .val (.ref b192), .val (.int (own_k2 p2)), .val (.int (own_r2 p4))]) (by rcases hqq8u with rfl | ⟨v_, rfl⟩ | ⟨v_, rfl⟩ <;> rfl) ?_
              show Steps p.tables e below (T307.setTop (mkF m 474 #[.val (.int p1), .val (.int p2), .val (.int p3), .val (.int p4), .val (.int (p1 &&& (7 : Int32))), .val (.ref sju), .val (.int flju), .val (.int (p2 &&& (15 : Int32))), .val (.ref b294), .val (.int (0 : Int32)), .val (.ref b192), .val (.int (own_k2 p2)), .val (.int (own_r2 p4))] [])) _
              refine XS.goto X307.here hx rfl (pc0 := 474) (pc' := 793) rfl (hb hby at_474) (by decide) (by decide) ?_
              exact k
            exact ⟨vmju, _, _, _, _, b294, rb_307, 7, (own_b8 (own_upd (own_of own_tx1) kn2 (nar .char (own_r2 p4))) 0), (0 : Int32), (.val (.ref b192)), (.val (.int (own_k2 p2))), (.val (.int (own_r2 p4))), (X307.more (by decide) (by decide)), rfl, N307, Z307, Xo307, Siju, (Nat.le_trans (Nat.le_trans (Nat.le_trans (Nat.le_trans (Nat.le_trans (Nat.le_trans (Nat.le_trans (Nat.le_trans (Nat.le_trans (Nat.le_trans (Nat.le_trans (Nat.le_trans (Nat.le_refl _) (hkju)) (E192.1)) ((Keep.of_wr W201).1)) ((Keep.of_wr W208).1)) ((Keep.of_wr W215).1)) ((Keep.of_wr W222).1)) ((Keep.of_wr W229).1)) ((Keep.of_wr W236).1)) ((Keep.of_wr W243).1)) ((Keep.of_wr W288).1)) (E294.1)) (Kq307.1)), hZ, hown, (Hcju.keep K307 (fun x hx => nomatch hx)), f312, f313, f314, f315, f317, fq307_0, fq307_1, fq307_2, (by omega), (Or.inr ⟨rfl, fun q => q.elim (fun q => hc446_253 ((own_chgR (L := own_tx1) (n := 7) (k := kn2) (own_rr2 _) rfl own_lowT2 hkl2).mp q)) (own_notL (by decide))⟩), (Or.inr (Or.inl ⟨_, rfl⟩)), (Or.inr (Or.inr ⟨_, rfl⟩)), (Or.inr (Or.inr ⟨_, rfl⟩)), k319⟩
        · have k320 : ∀ t, Steps p.tables e below (Tju.setTop (mkF m 480 #[.val (.int p1), .val (.int p2), .val (.int p3), .val (.int p4), .val (.int (p1 &&& (7 : Int32))), .val (.ref sju), .val (.int flju), .val (.int (p2 &&& (15 : Int32))), q8u, q9u, .unset, .unset, .unset] [(.int (3 : Int32)), (.int (p2 &&& (15 : Int32)))])) t → Steps p.tables e below (s₁.setTop (entryFrame m #[(.int p1), (.int p2), (.int p3), (.int p4)] maxLocals)) t := by
            intro t k
            refine k189 t ?_
            show Steps p.tables e below (Tju.setTop (mkF m 378 #[.val (.int p1), .val (.int p2), .val (.int p3), .val (.int p4), .val (.int (p1 &&& (7 : Int32))), .val (.ref sju), .val (.int flju), .val (.int (p2 &&& (15 : Int32))), q8u, q9u, .unset, .unset, .unset] [(.int (2 : Int32)), (.int (p2 &&& (15 : Int32)))])) _
            refine XS.icmpYes Xju.here hx rfl (pc0 := 378) (pc' := 477) rfl (hb hby at_378) rfl (feq hc378_190).2 (by decide) (by decide) ?_
            show Steps p.tables e below (Tju.setTop (mkF m 477 #[.val (.int p1), .val (.int p2), .val (.int p3), .val (.int p4), .val (.int (p1 &&& (7 : Int32))), .val (.ref sju), .val (.int flju), .val (.int (p2 &&& (15 : Int32))), q8u, q9u, .unset, .unset, .unset] [])) _
            refine XS.iload Xju.here hx rfl (hb hby at_477) rfl ?_
            show Steps p.tables e below (Tju.setTop (mkF m 479 #[.val (.int p1), .val (.int p2), .val (.int p3), .val (.int p4), .val (.int (p1 &&& (7 : Int32))), .val (.ref sju), .val (.int flju), .val (.int (p2 &&& (15 : Int32))), q8u, q9u, .unset, .unset, .unset] [(.int (p2 &&& (15 : Int32)))])) _
            refine XS.iconst Xju.here hx rfl (hb hby at_479) ?_
            exact k
          by_cases hc480_321 : (p2 &&& (15 : Int32)) = (3 : Int32)
          · have k322 : ∀ t, Steps p.tables e below (Tju.setTop (mkF m 485 #[.val (.int p1), .val (.int p2), .val (.int p3), .val (.int p4), .val (.int (p1 &&& (7 : Int32))), .val (.ref sju), .val (.int flju), .val (.int (p2 &&& (15 : Int32))), q8u, q9u, .unset, .unset, .unset] [(.int (9 : Int32))])) t → Steps p.tables e below (s₁.setTop (entryFrame m #[(.int p1), (.int p2), (.int p3), (.int p4)] maxLocals)) t := by
              intro t k
              refine k320 t ?_
              show Steps p.tables e below (Tju.setTop (mkF m 480 #[.val (.int p1), .val (.int p2), .val (.int p3), .val (.int p4), .val (.int (p1 &&& (7 : Int32))), .val (.ref sju), .val (.int flju), .val (.int (p2 &&& (15 : Int32))), q8u, q9u, .unset, .unset, .unset] [(.int (3 : Int32)), (.int (p2 &&& (15 : Int32)))])) _
              refine XS.icmpNo Xju.here hx rfl (hb hby at_480) rfl (teq hc480_321).2 ?_
              show Steps p.tables e below (Tju.setTop (mkF m 483 #[.val (.int p1), .val (.int p2), .val (.int p3), .val (.int p4), .val (.int (p1 &&& (7 : Int32))), .val (.ref sju), .val (.int flju), .val (.int (p2 &&& (15 : Int32))), q8u, q9u, .unset, .unset, .unset] [])) _
              refine XS.bipush Xju.here hx rfl (hb hby at_483) ?_
              exact k
            obtain ⟨T323, h323, X323, e323, E323, A323, st323⟩ := own_newC Xju hx hZ (hw _ (List.mem_of_getElem? (i := 8) rfl)) eju (g := (mkF m 485 #[.val (.int p1), .val (.int p2), .val (.int p3), .val (.int p4), .val (.int (p1 &&& (7 : Int32))), .val (.ref sju), .val (.int flju), .val (.int (p2 &&& (15 : Int32))), q8u, q9u, .unset, .unset, .unset] [(.int (9 : Int32))])) rfl (hb hby at_485) rfl (n := 9) own_i9 (cap := 9) (by omega) (by decide) (by decide) (by decide)
            obtain ⟨b323, g323⟩ : ∃ z, z = hju.size := ⟨_, rfl⟩
            rw [← g323] at A323 st323
            have ge323 : n0 ≤ b323 := Nat.le_trans Zju (Nat.le_of_eq g323.symm)
            have bo323 : hju.size ≤ b323 := Nat.le_trans (Keep.refl hju []).1 (Nat.le_of_eq g323.symm)
            have ne324 : sju ≠ b323 := Nat.ne_of_lt (Nat.lt_of_lt_of_le fm1u.lt (Nat.le_of_eq g323.symm))
            have ne325 : bju ≠ b323 := Nat.ne_of_lt (Nat.lt_of_lt_of_le fm4u.lt (Nat.le_of_eq g323.symm))
            have Z323 : n0 ≤ h323.size := Nat.le_trans Zju E323.1
            have K323 : Keep hju h323 [] := (Keep.refl hju []).ext E323
            have Xo323 := Oju.ext E323
            have f326 := fm1u.ext E323
            have f327 := fm2u.ext E323
            have f328 := fm3u.ext E323
            have f329 := fm4u.ext E323
            have k330 : ∀ t, Steps p.tables e below (T323.setTop (mkF m 487 #[.val (.int p1), .val (.int p2), .val (.int p3), .val (.int p4), .val (.int (p1 &&& (7 : Int32))), .val (.ref sju), .val (.int flju), .val (.int (p2 &&& (15 : Int32))), q8u, q9u, .unset, .unset, .unset] [(.ref b323)])) t → Steps p.tables e below (s₁.setTop (entryFrame m #[(.int p1), (.int p2), (.int p3), (.int p4)] maxLocals)) t := fun t k => k322 t (st323 t k)
            have k331 : ∀ t, Steps p.tables e below (T323.setTop (mkF m 491 #[.val (.int p1), .val (.int p2), .val (.int p3), .val (.int p4), .val (.int (p1 &&& (7 : Int32))), .val (.ref sju), .val (.int flju), .val (.int (p2 &&& (15 : Int32))), q8u, q9u, .unset, .unset, .unset] [(.int (114 : Int32)), (.int (0 : Int32)), (.ref b323), (.ref b323)])) t → Steps p.tables e below (s₁.setTop (entryFrame m #[(.int p1), (.int p2), (.int p3), (.int p4)] maxLocals)) t := by
              intro t k
              refine k330 t ?_
              show Steps p.tables e below (T323.setTop (mkF m 487 #[.val (.int p1), .val (.int p2), .val (.int p3), .val (.int p4), .val (.int (p1 &&& (7 : Int32))), .val (.ref sju), .val (.int flju), .val (.int (p2 &&& (15 : Int32))), q8u, q9u, .unset, .unset, .unset] [(.ref b323)])) _
              refine XS.dup X323.here hx rfl (hb hby at_487) rfl rfl ?_
              show Steps p.tables e below (T323.setTop (mkF m 488 #[.val (.int p1), .val (.int p2), .val (.int p3), .val (.int p4), .val (.int (p1 &&& (7 : Int32))), .val (.ref sju), .val (.int flju), .val (.int (p2 &&& (15 : Int32))), q8u, q9u, .unset, .unset, .unset] [(.ref b323), (.ref b323)])) _
              refine XS.iconst X323.here hx rfl (hb hby at_488) ?_
              show Steps p.tables e below (T323.setTop (mkF m 489 #[.val (.int p1), .val (.int p2), .val (.int p3), .val (.int p4), .val (.int (p1 &&& (7 : Int32))), .val (.ref sju), .val (.int flju), .val (.int (p2 &&& (15 : Int32))), q8u, q9u, .unset, .unset, .unset] [(.int (0 : Int32)), (.ref b323), (.ref b323)])) _
              refine XS.bipush X323.here hx rfl (hb hby at_489) ?_
              exact k
            obtain ⟨T332, h332, X332, e332, W332, G332, st332⟩ := own_stC X323 hx hZ e323 A323 (j := (0 : Int32)) own_i0 (by omega) (g := (mkF m 491 #[.val (.int p1), .val (.int p2), .val (.int p3), .val (.int p4), .val (.int (p1 &&& (7 : Int32))), .val (.ref sju), .val (.int flju), .val (.int (p2 &&& (15 : Int32))), q8u, q9u, .unset, .unset, .unset] [(.int (114 : Int32)), (.int (0 : Int32)), (.ref b323), (.ref b323)])) rfl rfl (hb hby at_491)
            have f333 := f326.wr W332
            have f334 := f327.other W332 (Or.inl ne324)
            have f335 := f328.other W332 (Or.inl ne324)
            have f336 := f329.other W332 ne325
            have N332 := Fr.snoc X332 Nju ge323
            have K332 : Keep hju h332 [] := K323.wr W332 (Or.inr bo323)
            have Z332 : n0 ≤ h332.size := Nat.le_trans Z323 (Keep.of_wr W332).1
            have Xo332 := Xo323.wr W332 ge323
            have k337 : ∀ t, Steps p.tables e below (T332.setTop (mkF m 492 #[.val (.int p1), .val (.int p2), .val (.int p3), .val (.int p4), .val (.int (p1 &&& (7 : Int32))), .val (.ref sju), .val (.int flju), .val (.int (p2 &&& (15 : Int32))), q8u, q9u, .unset, .unset, .unset] [(.ref b323)])) t → Steps p.tables e below (s₁.setTop (entryFrame m #[(.int p1), (.int p2), (.int p3), (.int p4)] maxLocals)) t := fun t k => k331 t (st332 t k)
            have k338 : ∀ t, Steps p.tables e below (T332.setTop (mkF m 496 #[.val (.int p1), .val (.int p2), .val (.int p3), .val (.int p4), .val (.int (p1 &&& (7 : Int32))), .val (.ref sju), .val (.int flju), .val (.int (p2 &&& (15 : Int32))), q8u, q9u, .unset, .unset, .unset] [(.int (101 : Int32)), (.int (1 : Int32)), (.ref b323), (.ref b323)])) t → Steps p.tables e below (s₁.setTop (entryFrame m #[(.int p1), (.int p2), (.int p3), (.int p4)] maxLocals)) t := by
              intro t k
              refine k337 t ?_
              show Steps p.tables e below (T332.setTop (mkF m 492 #[.val (.int p1), .val (.int p2), .val (.int p3), .val (.int p4), .val (.int (p1 &&& (7 : Int32))), .val (.ref sju), .val (.int flju), .val (.int (p2 &&& (15 : Int32))), q8u, q9u, .unset, .unset, .unset] [(.ref b323)])) _
              refine XS.dup X332.here hx rfl (hb hby at_492) rfl rfl ?_
              show Steps p.tables e below (T332.setTop (mkF m 493 #[.val (.int p1), .val (.int p2), .val (.int p3), .val (.int p4), .val (.int (p1 &&& (7 : Int32))), .val (.ref sju), .val (.int flju), .val (.int (p2 &&& (15 : Int32))), q8u, q9u, .unset, .unset, .unset] [(.ref b323), (.ref b323)])) _
              refine XS.iconst X332.here hx rfl (hb hby at_493) ?_
              show Steps p.tables e below (T332.setTop (mkF m 494 #[.val (.int p1), .val (.int p2), .val (.int p3), .val (.int p4), .val (.int (p1 &&& (7 : Int32))), .val (.ref sju), .val (.int flju), .val (.int (p2 &&& (15 : Int32))), q8u, q9u, .unset, .unset, .unset] [(.int (1 : Int32)), (.ref b323), (.ref b323)])) _
              refine XS.bipush X332.here hx rfl (hb hby at_494) ?_
              exact k
            obtain ⟨T339, h339, X339, e339, W339, G339, st339⟩ := own_stC X332 hx hZ e332 G332 (j := (1 : Int32)) own_i1 (by omega) (g := (mkF m 496 #[.val (.int p1), .val (.int p2), .val (.int p3), .val (.int p4), .val (.int (p1 &&& (7 : Int32))), .val (.ref sju), .val (.int flju), .val (.int (p2 &&& (15 : Int32))), q8u, q9u, .unset, .unset, .unset] [(.int (101 : Int32)), (.int (1 : Int32)), (.ref b323), (.ref b323)])) rfl rfl (hb hby at_496)
            have f340 := f333.wr W339
            have f341 := f334.other W339 (Or.inl ne324)
            have f342 := f335.other W339 (Or.inl ne324)
            have f343 := f336.other W339 ne325
            have N339 := Fr.snoc X339 N332 ge323
            have K339 : Keep hju h339 [] := K332.wr W339 (Or.inr bo323)
            have Z339 : n0 ≤ h339.size := Nat.le_trans Z332 (Keep.of_wr W339).1
            have Xo339 := Xo332.wr W339 ge323
            have k344 : ∀ t, Steps p.tables e below (T339.setTop (mkF m 497 #[.val (.int p1), .val (.int p2), .val (.int p3), .val (.int p4), .val (.int (p1 &&& (7 : Int32))), .val (.ref sju), .val (.int flju), .val (.int (p2 &&& (15 : Int32))), q8u, q9u, .unset, .unset, .unset] [(.ref b323)])) t → Steps p.tables e below (s₁.setTop (entryFrame m #[(.int p1), (.int p2), (.int p3), (.int p4)] maxLocals)) t := fun t k => k338 t (st339 t k)
            have k345 : ∀ t, Steps p.tables e below (T339.setTop (mkF m 501 #[.val (.int p1), .val (.int p2), .val (.int p3), .val (.int p4), .val (.int (p1 &&& (7 : Int32))), .val (.ref sju), .val (.int flju), .val (.int (p2 &&& (15 : Int32))), q8u, q9u, .unset, .unset, .unset] [(.int (115 : Int32)), (.int (2 : Int32)), (.ref b323), (.ref b323)])) t → Steps p.tables e below (s₁.setTop (entryFrame m #[(.int p1), (.int p2), (.int p3), (.int p4)] maxLocals)) t := by
              intro t k
              refine k344 t ?_
              show Steps p.tables e below (T339.setTop (mkF m 497 #[.val (.int p1), .val (.int p2), .val (.int p3), .val (.int p4), .val (.int (p1 &&& (7 : Int32))), .val (.ref sju), .val (.int flju), .val (.int (p2 &&& (15 : Int32))), q8u, q9u, .unset, .unset, .unset] [(.ref b323)])) _
              refine XS.dup X339.here hx rfl (hb hby at_497) rfl rfl ?_
              show Steps p.tables e below (T339.setTop (mkF m 498 #[.val (.int p1), .val (.int p2), .val (.int p3), .val (.int p4), .val (.int (p1 &&& (7 : Int32))), .val (.ref sju), .val (.int flju), .val (.int (p2 &&& (15 : Int32))), q8u, q9u, .unset, .unset, .unset] [(.ref b323), (.ref b323)])) _
              refine XS.iconst X339.here hx rfl (hb hby at_498) ?_
              show Steps p.tables e below (T339.setTop (mkF m 499 #[.val (.int p1), .val (.int p2), .val (.int p3), .val (.int p4), .val (.int (p1 &&& (7 : Int32))), .val (.ref sju), .val (.int flju), .val (.int (p2 &&& (15 : Int32))), q8u, q9u, .unset, .unset, .unset] [(.int (2 : Int32)), (.ref b323), (.ref b323)])) _
              refine XS.bipush X339.here hx rfl (hb hby at_499) ?_
              exact k
            obtain ⟨T346, h346, X346, e346, W346, G346, st346⟩ := own_stC X339 hx hZ e339 G339 (j := (2 : Int32)) own_i2 (by omega) (g := (mkF m 501 #[.val (.int p1), .val (.int p2), .val (.int p3), .val (.int p4), .val (.int (p1 &&& (7 : Int32))), .val (.ref sju), .val (.int flju), .val (.int (p2 &&& (15 : Int32))), q8u, q9u, .unset, .unset, .unset] [(.int (115 : Int32)), (.int (2 : Int32)), (.ref b323), (.ref b323)])) rfl rfl (hb hby at_501)
            have f347 := f340.wr W346
            have f348 := f341.other W346 (Or.inl ne324)
            have f349 := f342.other W346 (Or.inl ne324)
            have f350 := f343.other W346 ne325
            have N346 := Fr.snoc X346 N339 ge323
            have K346 : Keep hju h346 [] := K339.wr W346 (Or.inr bo323)
            have Z346 : n0 ≤ h346.size := Nat.le_trans Z339 (Keep.of_wr W346).1
            have Xo346 := Xo339.wr W346 ge323
            have k351 : ∀ t, Steps p.tables e below (T346.setTop (mkF m 502 #[.val (.int p1), .val (.int p2), .val (.int p3), .val (.int p4), .val (.int (p1 &&& (7 : Int32))), .val (.ref sju), .val (.int flju), .val (.int (p2 &&& (15 : Int32))), q8u, q9u, .unset, .unset, .unset] [(.ref b323)])) t → Steps p.tables e below (s₁.setTop (entryFrame m #[(.int p1), (.int p2), (.int p3), (.int p4)] maxLocals)) t := fun t k => k345 t (st346 t k)
            have k352 : ∀ t, Steps p.tables e below (T346.setTop (mkF m 506 #[.val (.int p1), .val (.int p2), .val (.int p3), .val (.int p4), .val (.int (p1 &&& (7 : Int32))), .val (.ref sju), .val (.int flju), .val (.int (p2 &&& (15 : Int32))), q8u, q9u, .unset, .unset, .unset] [(.int (105 : Int32)), (.int (3 : Int32)), (.ref b323), (.ref b323)])) t → Steps p.tables e below (s₁.setTop (entryFrame m #[(.int p1), (.int p2), (.int p3), (.int p4)] maxLocals)) t := by
              intro t k
              refine k351 t ?_
              show Steps p.tables e below (T346.setTop (mkF m 502 #[.val (.int p1), .val (.int p2), .val (.int p3), .val (.int p4), .val (.int (p1 &&& (7 : Int32))), .val (.ref sju), .val (.int flju), .val (.int (p2 &&& (15 : Int32))), q8u, q9u, .unset, .unset, .unset] [(.ref b323)])) _
              refine XS.dup X346.here hx rfl (hb hby at_502) rfl rfl ?_
              show Steps p.tables e below (T346.setTop (mkF m 503 #[.val (.int p1), .val (.int p2), .val (.int p3), .val (.int p4), .val (.int (p1 &&& (7 : Int32))), .val (.ref sju), .val (.int flju), .val (.int (p2 &&& (15 : Int32))), q8u, q9u, .unset, .unset, .unset] [(.ref b323), (.ref b323)])) _
              refine XS.iconst X346.here hx rfl (hb hby at_503) ?_
              show Steps p.tables e below (T346.setTop (mkF m 504 #[.val (.int p1), .val (.int p2), .val (.int p3), .val (.int p4), .val (.int (p1 &&& (7 : Int32))), .val (.ref sju), .val (.int flju), .val (.int (p2 &&& (15 : Int32))), q8u, q9u, .unset, .unset, .unset] [(.int (3 : Int32)), (.ref b323), (.ref b323)])) _
              refine XS.bipush X346.here hx rfl (hb hby at_504) ?_
              exact k
            obtain ⟨T353, h353, X353, e353, W353, G353, st353⟩ := own_stC X346 hx hZ e346 G346 (j := (3 : Int32)) own_i3 (by omega) (g := (mkF m 506 #[.val (.int p1), .val (.int p2), .val (.int p3), .val (.int p4), .val (.int (p1 &&& (7 : Int32))), .val (.ref sju), .val (.int flju), .val (.int (p2 &&& (15 : Int32))), q8u, q9u, .unset, .unset, .unset] [(.int (105 : Int32)), (.int (3 : Int32)), (.ref b323), (.ref b323)])) rfl rfl (hb hby at_506)
            have f354 := f347.wr W353
            have f355 := f348.other W353 (Or.inl ne324)
            have f356 := f349.other W353 (Or.inl ne324)
            have f357 := f350.other W353 ne325
            have N353 := Fr.snoc X353 N346 ge323
            have K353 : Keep hju h353 [] := K346.wr W353 (Or.inr bo323)
            have Z353 : n0 ≤ h353.size := Nat.le_trans Z346 (Keep.of_wr W353).1
            have Xo353 := Xo346.wr W353 ge323
            have k358 : ∀ t, Steps p.tables e below (T353.setTop (mkF m 507 #[.val (.int p1), .val (.int p2), .val (.int p3), .val (.int p4), .val (.int (p1 &&& (7 : Int32))), .val (.ref sju), .val (.int flju), .val (.int (p2 &&& (15 : Int32))), q8u, q9u, .unset, .unset, .unset] [(.ref b323)])) t → Steps p.tables e below (s₁.setTop (entryFrame m #[(.int p1), (.int p2), (.int p3), (.int p4)] maxLocals)) t := fun t k => k352 t (st353 t k)
            have k359 : ∀ t, Steps p.tables e below (T353.setTop (mkF m 511 #[.val (.int p1), .val (.int p2), .val (.int p3), .val (.int p4), .val (.int (p1 &&& (7 : Int32))), .val (.ref sju), .val (.int flju), .val (.int (p2 &&& (15 : Int32))), q8u, q9u, .unset, .unset, .unset] [(.int (100 : Int32)), (.int (4 : Int32)), (.ref b323), (.ref b323)])) t → Steps p.tables e below (s₁.setTop (entryFrame m #[(.int p1), (.int p2), (.int p3), (.int p4)] maxLocals)) t := by
              intro t k
              refine k358 t ?_
              show Steps p.tables e below (T353.setTop (mkF m 507 #[.val (.int p1), .val (.int p2), .val (.int p3), .val (.int p4), .val (.int (p1 &&& (7 : Int32))), .val (.ref sju), .val (.int flju), .val (.int (p2 &&& (15 : Int32))), q8u, q9u, .unset, .unset, .unset] [(.ref b323)])) _
              refine XS.dup X353.here hx rfl (hb hby at_507) rfl rfl ?_
              show Steps p.tables e below (T353.setTop (mkF m 508 #[.val (.int p1), .val (.int p2), .val (.int p3), .val (.int p4), .val (.int (p1 &&& (7 : Int32))), .val (.ref sju), .val (.int flju), .val (.int (p2 &&& (15 : Int32))), q8u, q9u, .unset, .unset, .unset] [(.ref b323), (.ref b323)])) _
              refine XS.iconst X353.here hx rfl (hb hby at_508) ?_
              show Steps p.tables e below (T353.setTop (mkF m 509 #[.val (.int p1), .val (.int p2), .val (.int p3), .val (.int p4), .val (.int (p1 &&& (7 : Int32))), .val (.ref sju), .val (.int flju), .val (.int (p2 &&& (15 : Int32))), q8u, q9u, .unset, .unset, .unset] [(.int (4 : Int32)), (.ref b323), (.ref b323)])) _
              refine XS.bipush X353.here hx rfl (hb hby at_509) ?_
              exact k
            obtain ⟨T360, h360, X360, e360, W360, G360, st360⟩ := own_stC X353 hx hZ e353 G353 (j := (4 : Int32)) own_i4 (by omega) (g := (mkF m 511 #[.val (.int p1), .val (.int p2), .val (.int p3), .val (.int p4), .val (.int (p1 &&& (7 : Int32))), .val (.ref sju), .val (.int flju), .val (.int (p2 &&& (15 : Int32))), q8u, q9u, .unset, .unset, .unset] [(.int (100 : Int32)), (.int (4 : Int32)), (.ref b323), (.ref b323)])) rfl rfl (hb hby at_511)
            have f361 := f354.wr W360
            have f362 := f355.other W360 (Or.inl ne324)
            have f363 := f356.other W360 (Or.inl ne324)
            have f364 := f357.other W360 ne325
            have N360 := Fr.snoc X360 N353 ge323
            have K360 : Keep hju h360 [] := K353.wr W360 (Or.inr bo323)
            have Z360 : n0 ≤ h360.size := Nat.le_trans Z353 (Keep.of_wr W360).1
            have Xo360 := Xo353.wr W360 ge323
            have k365 : ∀ t, Steps p.tables e below (T360.setTop (mkF m 512 #[.val (.int p1), .val (.int p2), .val (.int p3), .val (.int p4), .val (.int (p1 &&& (7 : Int32))), .val (.ref sju), .val (.int flju), .val (.int (p2 &&& (15 : Int32))), q8u, q9u, .unset, .unset, .unset] [(.ref b323)])) t → Steps p.tables e below (s₁.setTop (entryFrame m #[(.int p1), (.int p2), (.int p3), (.int p4)] maxLocals)) t := fun t k => k359 t (st360 t k)
            have k366 : ∀ t, Steps p.tables e below (T360.setTop (mkF m 516 #[.val (.int p1), .val (.int p2), .val (.int p3), .val (.int p4), .val (.int (p1 &&& (7 : Int32))), .val (.ref sju), .val (.int flju), .val (.int (p2 &&& (15 : Int32))), q8u, q9u, .unset, .unset, .unset] [(.int (101 : Int32)), (.int (5 : Int32)), (.ref b323), (.ref b323)])) t → Steps p.tables e below (s₁.setTop (entryFrame m #[(.int p1), (.int p2), (.int p3), (.int p4)] maxLocals)) t := by
              intro t k
              refine k365 t ?_
              show Steps p.tables e below (T360.setTop (mkF m 512 #[.val (.int p1), .val (.int p2), .val (.int p3), .val (.int p4), .val (.int (p1 &&& (7 : Int32))), .val (.ref sju), .val (.int flju), .val (.int (p2 &&& (15 : Int32))), q8u, q9u, .unset, .unset, .unset] [(.ref b323)])) _
              refine XS.dup X360.here hx rfl (hb hby at_512) rfl rfl ?_
              show Steps p.tables e below (T360.setTop (mkF m 513 #[.val (.int p1), .val (.int p2), .val (.int p3), .val (.int p4), .val (.int (p1 &&& (7 : Int32))), .val (.ref sju), .val (.int flju), .val (.int (p2 &&& (15 : Int32))), q8u, q9u, .unset, .unset, .unset] [(.ref b323), (.ref b323)])) _
              refine XS.iconst X360.here hx rfl (hb hby at_513) ?_
              show Steps p.tables e below (T360.setTop (mkF m 514 #[.val (.int p1), .val (.int p2), .val (.int p3), .val (.int p4), .val (.int (p1 &&& (7 : Int32))), .val (.ref sju), .val (.int flju), .val (.int (p2 &&& (15 : Int32))), q8u, q9u, .unset, .unset, .unset] [(.int (5 : Int32)), (.ref b323), (.ref b323)])) _
              refine XS.bipush X360.here hx rfl (hb hby at_514) ?_
              exact k
            obtain ⟨T367, h367, X367, e367, W367, G367, st367⟩ := own_stC X360 hx hZ e360 G360 (j := (5 : Int32)) own_i5 (by omega) (g := (mkF m 516 #[.val (.int p1), .val (.int p2), .val (.int p3), .val (.int p4), .val (.int (p1 &&& (7 : Int32))), .val (.ref sju), .val (.int flju), .val (.int (p2 &&& (15 : Int32))), q8u, q9u, .unset, .unset, .unset] [(.int (101 : Int32)), (.int (5 : Int32)), (.ref b323), (.ref b323)])) rfl rfl (hb hby at_516)
            have f368 := f361.wr W367
            have f369 := f362.other W367 (Or.inl ne324)
            have f370 := f363.other W367 (Or.inl ne324)
            have f371 := f364.other W367 ne325
            have N367 := Fr.snoc X367 N360 ge323
            have K367 : Keep hju h367 [] := K360.wr W367 (Or.inr bo323)
            have Z367 : n0 ≤ h367.size := Nat.le_trans Z360 (Keep.of_wr W367).1
            have Xo367 := Xo360.wr W367 ge323
            have k372 : ∀ t, Steps p.tables e below (T367.setTop (mkF m 517 #[.val (.int p1), .val (.int p2), .val (.int p3), .val (.int p4), .val (.int (p1 &&& (7 : Int32))), .val (.ref sju), .val (.int flju), .val (.int (p2 &&& (15 : Int32))), q8u, q9u, .unset, .unset, .unset] [(.ref b323)])) t → Steps p.tables e below (s₁.setTop (entryFrame m #[(.int p1), (.int p2), (.int p3), (.int p4)] maxLocals)) t := fun t k => k366 t (st367 t k)
            have k373 : ∀ t, Steps p.tables e below (T367.setTop (mkF m 522 #[.val (.int p1), .val (.int p2), .val (.int p3), .val (.int p4), .val (.int (p1 &&& (7 : Int32))), .val (.ref sju), .val (.int flju), .val (.int (p2 &&& (15 : Int32))), q8u, q9u, .unset, .unset, .unset] [(.int (110 : Int32)), (.int (6 : Int32)), (.ref b323), (.ref b323)])) t → Steps p.tables e below (s₁.setTop (entryFrame m #[(.int p1), (.int p2), (.int p3), (.int p4)] maxLocals)) t := by
              intro t k
              refine k372 t ?_
              show Steps p.tables e below (T367.setTop (mkF m 517 #[.val (.int p1), .val (.int p2), .val (.int p3), .val (.int p4), .val (.int (p1 &&& (7 : Int32))), .val (.ref sju), .val (.int flju), .val (.int (p2 &&& (15 : Int32))), q8u, q9u, .unset, .unset, .unset] [(.ref b323)])) _
              refine XS.dup X367.here hx rfl (hb hby at_517) rfl rfl ?_
              show Steps p.tables e below (T367.setTop (mkF m 518 #[.val (.int p1), .val (.int p2), .val (.int p3), .val (.int p4), .val (.int (p1 &&& (7 : Int32))), .val (.ref sju), .val (.int flju), .val (.int (p2 &&& (15 : Int32))), q8u, q9u, .unset, .unset, .unset] [(.ref b323), (.ref b323)])) _
              refine XS.bipush X367.here hx rfl (hb hby at_518) ?_
              show Steps p.tables e below (T367.setTop (mkF m 520 #[.val (.int p1), .val (.int p2), .val (.int p3), .val (.int p4), .val (.int (p1 &&& (7 : Int32))), .val (.ref sju), .val (.int flju), .val (.int (p2 &&& (15 : Int32))), q8u, q9u, .unset, .unset, .unset] [(.int (6 : Int32)), (.ref b323), (.ref b323)])) _
              refine XS.bipush X367.here hx rfl (hb hby at_520) ?_
              exact k
            obtain ⟨T374, h374, X374, e374, W374, G374, st374⟩ := own_stC X367 hx hZ e367 G367 (j := (6 : Int32)) own_i6 (by omega) (g := (mkF m 522 #[.val (.int p1), .val (.int p2), .val (.int p3), .val (.int p4), .val (.int (p1 &&& (7 : Int32))), .val (.ref sju), .val (.int flju), .val (.int (p2 &&& (15 : Int32))), q8u, q9u, .unset, .unset, .unset] [(.int (110 : Int32)), (.int (6 : Int32)), (.ref b323), (.ref b323)])) rfl rfl (hb hby at_522)
            have f375 := f368.wr W374
            have f376 := f369.other W374 (Or.inl ne324)
            have f377 := f370.other W374 (Or.inl ne324)
            have f378 := f371.other W374 ne325
            have N374 := Fr.snoc X374 N367 ge323
            have K374 : Keep hju h374 [] := K367.wr W374 (Or.inr bo323)
            have Z374 : n0 ≤ h374.size := Nat.le_trans Z367 (Keep.of_wr W374).1
            have Xo374 := Xo367.wr W374 ge323
            have k379 : ∀ t, Steps p.tables e below (T374.setTop (mkF m 523 #[.val (.int p1), .val (.int p2), .val (.int p3), .val (.int p4), .val (.int (p1 &&& (7 : Int32))), .val (.ref sju), .val (.int flju), .val (.int (p2 &&& (15 : Int32))), q8u, q9u, .unset, .unset, .unset] [(.ref b323)])) t → Steps p.tables e below (s₁.setTop (entryFrame m #[(.int p1), (.int p2), (.int p3), (.int p4)] maxLocals)) t := fun t k => k373 t (st374 t k)
            have k380 : ∀ t, Steps p.tables e below (T374.setTop (mkF m 528 #[.val (.int p1), .val (.int p2), .val (.int p3), .val (.int p4), .val (.int (p1 &&& (7 : Int32))), .val (.ref sju), .val (.int flju), .val (.int (p2 &&& (15 : Int32))), q8u, q9u, .unset, .unset, .unset] [(.int (99 : Int32)), (.int (7 : Int32)), (.ref b323), (.ref b323)])) t → Steps p.tables e below (s₁.setTop (entryFrame m #[(.int p1), (.int p2), (.int p3), (.int p4)] maxLocals)) t := by
              intro t k
              refine k379 t ?_
              show Steps p.tables e below (T374.setTop (mkF m 523 #[.val (.int p1), .val (.int p2), .val (.int p3), .val (.int p4), .val (.int (p1 &&& (7 : Int32))), .val (.ref sju), .val (.int flju), .val (.int (p2 &&& (15 : Int32))), q8u, q9u, .unset, .unset, .unset] [(.ref b323)])) _
              refine XS.dup X374.here hx rfl (hb hby at_523) rfl rfl ?_
              show Steps p.tables e below (T374.setTop (mkF m 524 #[.val (.int p1), .val (.int p2), .val (.int p3), .val (.int p4), .val (.int (p1 &&& (7 : Int32))), .val (.ref sju), .val (.int flju), .val (.int (p2 &&& (15 : Int32))), q8u, q9u, .unset, .unset, .unset] [(.ref b323), (.ref b323)])) _
              refine XS.bipush X374.here hx rfl (hb hby at_524) ?_
              show Steps p.tables e below (T374.setTop (mkF m 526 #[.val (.int p1), .val (.int p2), .val (.int p3), .val (.int p4), .val (.int (p1 &&& (7 : Int32))), .val (.ref sju), .val (.int flju), .val (.int (p2 &&& (15 : Int32))), q8u, q9u, .unset, .unset, .unset] [(.int (7 : Int32)), (.ref b323), (.ref b323)])) _
              refine XS.bipush X374.here hx rfl (hb hby at_526) ?_
              exact k
            obtain ⟨T381, h381, X381, e381, W381, G381, st381⟩ := own_stC X374 hx hZ e374 G374 (j := (7 : Int32)) own_i7 (by omega) (g := (mkF m 528 #[.val (.int p1), .val (.int p2), .val (.int p3), .val (.int p4), .val (.int (p1 &&& (7 : Int32))), .val (.ref sju), .val (.int flju), .val (.int (p2 &&& (15 : Int32))), q8u, q9u, .unset, .unset, .unset] [(.int (99 : Int32)), (.int (7 : Int32)), (.ref b323), (.ref b323)])) rfl rfl (hb hby at_528)
            have f382 := f375.wr W381
            have f383 := f376.other W381 (Or.inl ne324)
            have f384 := f377.other W381 (Or.inl ne324)
            have f385 := f378.other W381 ne325
            have N381 := Fr.snoc X381 N374 ge323
            have K381 : Keep hju h381 [] := K374.wr W381 (Or.inr bo323)
            have Z381 : n0 ≤ h381.size := Nat.le_trans Z374 (Keep.of_wr W381).1
            have Xo381 := Xo374.wr W381 ge323
            have k386 : ∀ t, Steps p.tables e below (T381.setTop (mkF m 529 #[.val (.int p1), .val (.int p2), .val (.int p3), .val (.int p4), .val (.int (p1 &&& (7 : Int32))), .val (.ref sju), .val (.int flju), .val (.int (p2 &&& (15 : Int32))), q8u, q9u, .unset, .unset, .unset] [(.ref b323)])) t → Steps p.tables e below (s₁.setTop (entryFrame m #[(.int p1), (.int p2), (.int p3), (.int p4)] maxLocals)) t := fun t k => k380 t (st381 t k)
            have k387 : ∀ t, Steps p.tables e below (T381.setTop (mkF m 534 #[.val (.int p1), .val (.int p2), .val (.int p3), .val (.int p4), .val (.int (p1 &&& (7 : Int32))), .val (.ref sju), .val (.int flju), .val (.int (p2 &&& (15 : Int32))), q8u, q9u, .unset, .unset, .unset] [(.int (101 : Int32)), (.int (8 : Int32)), (.ref b323), (.ref b323)])) t → Steps p.tables e below (s₁.setTop (entryFrame m #[(.int p1), (.int p2), (.int p3), (.int p4)] maxLocals)) t := by
              intro t k
              refine k386 t ?_
              show Steps p.tables e below (T381.setTop (mkF m 529 #[.val (.int p1), .val (.int p2), .val (.int p3), .val (.int p4), .val (.int (p1 &&& (7 : Int32))), .val (.ref sju), .val (.int flju), .val (.int (p2 &&& (15 : Int32))), q8u, q9u, .unset, .unset, .unset] [(.ref b323)])) _
              refine XS.dup X381.here hx rfl (hb hby at_529) rfl rfl ?_
              show Steps p.tables e below (T381.setTop (mkF m 530 #[.val (.int p1), .val (.int p2), .val (.int p3), .val (.int p4), .val (.int (p1 &&& (7 : Int32))), .val (.ref sju), .val (.int flju), .val (.int (p2 &&& (15 : Int32))), q8u, q9u, .unset, .unset, .unset] [(.ref b323), (.ref b323)])) _
              refine XS.bipush X381.here hx rfl (hb hby at_530) ?_
              show Steps p.tables e below (T381.setTop (mkF m 532 #[.val (.int p1), .val (.int p2), .val (.int p3), .val (.int p4), .val (.int (p1 &&& (7 : Int32))), .val (.ref sju), .val (.int flju), .val (.int (p2 &&& (15 : Int32))), q8u, q9u, .unset, .unset, .unset] [(.int (8 : Int32)), (.ref b323), (.ref b323)])) _
              refine XS.bipush X381.here hx rfl (hb hby at_532) ?_
              exact k
            obtain ⟨T388, h388, X388, e388, W388, G388, st388⟩ := own_stC X381 hx hZ e381 G381 (j := (8 : Int32)) own_i8 (by omega) (g := (mkF m 534 #[.val (.int p1), .val (.int p2), .val (.int p3), .val (.int p4), .val (.int (p1 &&& (7 : Int32))), .val (.ref sju), .val (.int flju), .val (.int (p2 &&& (15 : Int32))), q8u, q9u, .unset, .unset, .unset] [(.int (101 : Int32)), (.int (8 : Int32)), (.ref b323), (.ref b323)])) rfl rfl (hb hby at_534)
            have f389 := f382.wr W388
            have f390 := f383.other W388 (Or.inl ne324)
            have f391 := f384.other W388 (Or.inl ne324)
            have f392 := f385.other W388 ne325
            have N388 := Fr.snoc X388 N381 ge323
            have K388 : Keep hju h388 [] := K381.wr W388 (Or.inr bo323)
            have Z388 : n0 ≤ h388.size := Nat.le_trans Z381 (Keep.of_wr W388).1
            have Xo388 := Xo381.wr W388 ge323
            have k393 : ∀ t, Steps p.tables e below (T388.setTop (mkF m 535 #[.val (.int p1), .val (.int p2), .val (.int p3), .val (.int p4), .val (.int (p1 &&& (7 : Int32))), .val (.ref sju), .val (.int flju), .val (.int (p2 &&& (15 : Int32))), q8u, q9u, .unset, .unset, .unset] [(.ref b323)])) t → Steps p.tables e below (s₁.setTop (entryFrame m #[(.int p1), (.int p2), (.int p3), (.int p4)] maxLocals)) t := fun t k => k387 t (st388 t k)
            have k394 : ∀ t, Steps p.tables e below (T388.setTop (mkF m 545 #[.val (.int p1), .val (.int p2), .val (.int p3), .val (.int p4), .val (.int (p1 &&& (7 : Int32))), .val (.ref sju), .val (.int flju), .val (.int (p2 &&& (15 : Int32))), q8u, q9u, .val (.ref b323), .val (.int (own_k3 p2)), .unset] [])) t → Steps p.tables e below (s₁.setTop (entryFrame m #[(.int p1), (.int p2), (.int p3), (.int p4)] maxLocals)) t := by
              intro t k
              refine k393 t ?_
              show Steps p.tables e below (T388.setTop (mkF m 535 #[.val (.int p1), .val (.int p2), .val (.int p3), .val (.int p4), .val (.int (p1 &&& (7 : Int32))), .val (.ref sju), .val (.int flju), .val (.int (p2 &&& (15 : Int32))), q8u, q9u, .unset, .unset, .unset] [(.ref b323)])) _
              refine XS.astore X388.here hx rfl (hb hby at_535) rfl rfl (l' := #[.val (.int p1), .val (.int p2), .val (.int p3), .val (.int p4), .val (.int (p1 &&& (7 : Int32))), .val (.ref sju), .val (.int flju), .val (.int (p2 &&& (15 : Int32))), q8u, q9u, .val (.ref b323), .unset, .unset]) rfl ?_
              show Steps p.tables e below (T388.setTop (mkF m 537 #[.val (.int p1), .val (.int p2), .val (.int p3), .val (.int p4), .val (.int (p1 &&& (7 : Int32))), .val (.ref sju), .val (.int flju), .val (.int (p2 &&& (15 : Int32))), q8u, q9u, .val (.ref b323), .unset, .unset] [])) _
              refine XS.iloadN X388.here hx rfl (hb hby at_537) rfl ?_
              show Steps p.tables e below (T388.setTop (mkF m 538 #[.val (.int p1), .val (.int p2), .val (.int p3), .val (.int p4), .val (.int (p1 &&& (7 : Int32))), .val (.ref sju), .val (.int flju), .val (.int (p2 &&& (15 : Int32))), q8u, q9u, .val (.ref b323), .unset, .unset] [(.int p2)])) _
              refine XS.iconst X388.here hx rfl (hb hby at_538) ?_
              show Steps p.tables e below (T388.setTop (mkF m 539 #[.val (.int p1), .val (.int p2), .val (.int p3), .val (.int p4), .val (.int (p1 &&& (7 : Int32))), .val (.ref sju), .val (.int flju), .val (.int (p2 &&& (15 : Int32))), q8u, q9u, .val (.ref b323), .unset, .unset] [(.int (4 : Int32)), (.int p2)])) _
              refine XS.iushr X388.here hx rfl (hb hby at_539) rfl ?_
              show Steps p.tables e below (T388.setTop (mkF m 540 #[.val (.int p1), .val (.int p2), .val (.int p3), .val (.int p4), .val (.int (p1 &&& (7 : Int32))), .val (.ref sju), .val (.int flju), .val (.int (p2 &&& (15 : Int32))), q8u, q9u, .val (.ref b323), .unset, .unset] [(.int ((p2.toUInt32 >>> ((4 : Int32) &&& 31).toUInt32).toInt32))])) _
              refine XS.bipush X388.here hx rfl (hb hby at_540) ?_
              show Steps p.tables e below (T388.setTop (mkF m 542 #[.val (.int p1), .val (.int p2), .val (.int p3), .val (.int p4), .val (.int (p1 &&& (7 : Int32))), .val (.ref sju), .val (.int flju), .val (.int (p2 &&& (15 : Int32))), q8u, q9u, .val (.ref b323), .unset, .unset] [(.int (9 : Int32)), (.int ((p2.toUInt32 >>> ((4 : Int32) &&& 31).toUInt32).toInt32))])) _
              refine iremM X388 hx rfl (hb hby at_542) rfl (by decide) ?_
              show Steps p.tables e below (T388.setTop (mkF m 543 #[.val (.int p1), .val (.int p2), .val (.int p3), .val (.int p4), .val (.int (p1 &&& (7 : Int32))), .val (.ref sju), .val (.int flju), .val (.int (p2 &&& (15 : Int32))), q8u, q9u, .val (.ref b323), .unset, .unset] [(.int (((p2.toUInt32 >>> ((4 : Int32) &&& 31).toUInt32).toInt32) % (9 : Int32)))])) _
              refine XS.istore X388.here hx rfl (hb hby at_543) rfl (l' := #[.val (.int p1), .val (.int p2), .val (.int p3), .val (.int p4), .val (.int (p1 &&& (7 : Int32))), .val (.ref sju), .val (.int flju), .val (.int (p2 &&& (15 : Int32))), q8u, q9u, .val (.ref b323), .val (.int (((p2.toUInt32 >>> ((4 : Int32) &&& 31).toUInt32).toInt32) % (9 : Int32))), .unset]) rfl ?_
              exact k
            obtain ⟨kn3, hkn3, hkl3⟩ := own_kN3 p2
            have k395 : ∀ t, Steps p.tables e below (T388.setTop (mkF m 556 #[.val (.int p1), .val (.int p2), .val (.int p3), .val (.int p4), .val (.int (p1 &&& (7 : Int32))), .val (.ref sju), .val (.int flju), .val (.int (p2 &&& (15 : Int32))), q8u, q9u, .val (.ref b323), .val (.int (own_k3 p2)), .val (.int (own_r3 p4))] [])) t → Steps p.tables e below (s₁.setTop (entryFrame m #[(.int p1), (.int p2), (.int p3), (.int p4)] maxLocals)) t := by
              intro t k
              refine k394 t ?_
              show Steps p.tables e below (T388.setTop (mkF m 545 #[.val (.int p1), .val (.int p2), .val (.int p3), .val (.int p4), .val (.int (p1 &&& (7 : Int32))), .val (.ref sju), .val (.int flju), .val (.int (p2 &&& (15 : Int32))), q8u, q9u, .val (.ref b323), .val (.int (own_k3 p2)), .unset] [])) _
              refine XS.iloadN X388.here hx rfl (hb hby at_545) rfl ?_
              show Steps p.tables e below (T388.setTop (mkF m 546 #[.val (.int p1), .val (.int p2), .val (.int p3), .val (.int p4), .val (.int (p1 &&& (7 : Int32))), .val (.ref sju), .val (.int flju), .val (.int (p2 &&& (15 : Int32))), q8u, q9u, .val (.ref b323), .val (.int (own_k3 p2)), .unset] [(.int p4)])) _
              refine XS.bipush X388.here hx rfl (hb hby at_546) ?_
              show Steps p.tables e below (T388.setTop (mkF m 548 #[.val (.int p1), .val (.int p2), .val (.int p3), .val (.int p4), .val (.int (p1 &&& (7 : Int32))), .val (.ref sju), .val (.int flju), .val (.int (p2 &&& (15 : Int32))), q8u, q9u, .val (.ref b323), .val (.int (own_k3 p2)), .unset] [(.int (8 : Int32)), (.int p4)])) _
              refine XS.iushr X388.here hx rfl (hb hby at_548) rfl ?_
              show Steps p.tables e below (T388.setTop (mkF m 549 #[.val (.int p1), .val (.int p2), .val (.int p3), .val (.int p4), .val (.int (p1 &&& (7 : Int32))), .val (.ref sju), .val (.int flju), .val (.int (p2 &&& (15 : Int32))), q8u, q9u, .val (.ref b323), .val (.int (own_k3 p2)), .unset] [(.int ((p4.toUInt32 >>> ((8 : Int32) &&& 31).toUInt32).toInt32))])) _
              refine XS.sipush X388.here hx rfl (hb hby at_549) ?_
              show Steps p.tables e below (T388.setTop (mkF m 552 #[.val (.int p1), .val (.int p2), .val (.int p3), .val (.int p4), .val (.int (p1 &&& (7 : Int32))), .val (.ref sju), .val (.int flju), .val (.int (p2 &&& (15 : Int32))), q8u, q9u, .val (.ref b323), .val (.int (own_k3 p2)), .unset] [(.int (255 : Int32)), (.int ((p4.toUInt32 >>> ((8 : Int32) &&& 31).toUInt32).toInt32))])) _
              refine XS.iand X388.here hx rfl (hb hby at_552) rfl ?_
              show Steps p.tables e below (T388.setTop (mkF m 553 #[.val (.int p1), .val (.int p2), .val (.int p3), .val (.int p4), .val (.int (p1 &&& (7 : Int32))), .val (.ref sju), .val (.int flju), .val (.int (p2 &&& (15 : Int32))), q8u, q9u, .val (.ref b323), .val (.int (own_k3 p2)), .unset] [(.int (((p4.toUInt32 >>> ((8 : Int32) &&& 31).toUInt32).toInt32) &&& (255 : Int32)))])) _
              refine XS.i2c X388.here hx rfl (hb hby at_553) rfl ?_
              show Steps p.tables e below (T388.setTop (mkF m 554 #[.val (.int p1), .val (.int p2), .val (.int p3), .val (.int p4), .val (.int (p1 &&& (7 : Int32))), .val (.ref sju), .val (.int flju), .val (.int (p2 &&& (15 : Int32))), q8u, q9u, .val (.ref b323), .val (.int (own_k3 p2)), .unset] [(.int ((((p4.toUInt32 >>> ((8 : Int32) &&& 31).toUInt32).toInt32) &&& (255 : Int32)).toUInt32.toUInt16.toUInt32.toInt32))])) _
              refine XS.istore X388.here hx rfl (hb hby at_554) rfl (l' := #[.val (.int p1), .val (.int p2), .val (.int p3), .val (.int p4), .val (.int (p1 &&& (7 : Int32))), .val (.ref sju), .val (.int flju), .val (.int (p2 &&& (15 : Int32))), q8u, q9u, .val (.ref b323), .val (.int (own_k3 p2)), .val (.int ((((p4.toUInt32 >>> ((8 : Int32) &&& 31).toUInt32).toInt32) &&& (255 : Int32)).toUInt32.toUInt16.toUInt32.toInt32))]) rfl ?_
              exact k
            have GA396 : own_G Z h388 b323 .char 9 (own_of own_tx2) := G388.congr own_fill3
            obtain ⟨Lg396, Xg396, Ng396⟩ : ∃ L', Stand p l e room_1 (s.setVm vmju) m #[(.int p1), (.int p2), (.int p3), (.int p4)] below meth c T388 L' 5 125 ∧ Fr n0 L' := ⟨_, X388, N388⟩
            have k397 : ∀ t, Steps p.tables e below (T388.setTop (mkF m 563 #[.val (.int p1), .val (.int p2), .val (.int p3), .val (.int p4), .val (.int (p1 &&& (7 : Int32))), .val (.ref sju), .val (.int flju), .val (.int (p2 &&& (15 : Int32))), q8u, q9u, .val (.ref b323), .val (.int (own_k3 p2)), .val (.int (own_r3 p4))] [(.int (own_r3 p4)), (.int ((own_of own_tx2) kn3))])) t → Steps p.tables e below (s₁.setTop (entryFrame m #[(.int p1), (.int p2), (.int p3), (.int p4)] maxLocals)) t := by
              intro t k
              refine k395 t ?_
              show Steps p.tables e below (T388.setTop (mkF m 556 #[.val (.int p1), .val (.int p2), .val (.int p3), .val (.int p4), .val (.int (p1 &&& (7 : Int32))), .val (.ref sju), .val (.int flju), .val (.int (p2 &&& (15 : Int32))), q8u, q9u, .val (.ref b323), .val (.int (own_k3 p2)), .val (.int (own_r3 p4))] [])) _
              refine XS.aload Xg396.here hx rfl (hb hby at_556) rfl rfl ?_
              show Steps p.tables e below (T388.setTop (mkF m 558 #[.val (.int p1), .val (.int p2), .val (.int p3), .val (.int p4), .val (.int (p1 &&& (7 : Int32))), .val (.ref sju), .val (.int flju), .val (.int (p2 &&& (15 : Int32))), q8u, q9u, .val (.ref b323), .val (.int (own_k3 p2)), .val (.int (own_r3 p4))] [(.ref b323)])) _
              refine XS.iload Xg396.here hx rfl (hb hby at_558) rfl ?_
              show Steps p.tables e below (T388.setTop (mkF m 560 #[.val (.int p1), .val (.int p2), .val (.int p3), .val (.int p4), .val (.int (p1 &&& (7 : Int32))), .val (.ref sju), .val (.int flju), .val (.int (p2 &&& (15 : Int32))), q8u, q9u, .val (.ref b323), .val (.int (own_k3 p2)), .val (.int (own_r3 p4))] [(.int (own_k3 p2)), (.ref b323)])) _
              refine own_ldC Xg396 hx hZ e388 GA396 (j := (own_k3 p2)) hkn3 (by omega) (g := (mkF m 560 #[.val (.int p1), .val (.int p2), .val (.int p3), .val (.int p4), .val (.int (p1 &&& (7 : Int32))), .val (.ref sju), .val (.int flju), .val (.int (p2 &&& (15 : Int32))), q8u, q9u, .val (.ref b323), .val (.int (own_k3 p2)), .val (.int (own_r3 p4))] [(.int (own_k3 p2)), (.ref b323)])) rfl rfl (hb hby at_560) ?_
              show Steps p.tables e below (T388.setTop (mkF m 561 #[.val (.int p1), .val (.int p2), .val (.int p3), .val (.int p4), .val (.int (p1 &&& (7 : Int32))), .val (.ref sju), .val (.int flju), .val (.int (p2 &&& (15 : Int32))), q8u, q9u, .val (.ref b323), .val (.int (own_k3 p2)), .val (.int (own_r3 p4))] [(.int ((own_of own_tx2) kn3))])) _
              refine XS.iload Xg396.here hx rfl (hb hby at_561) rfl ?_
              exact k
            by_cases hc563_398 : ((own_of own_tx2) kn3) = (own_r3 p4)
            · have k399 : ∀ t, Steps p.tables e below (T388.setTop (mkF m 579 #[.val (.int p1), .val (.int p2), .val (.int p3), .val (.int p4), .val (.int (p1 &&& (7 : Int32))), .val (.ref sju), .val (.int flju), .val (.int (p2 &&& (15 : Int32))), q8u, .val (.int (1 : Int32)), .val (.ref b323), .val (.int (own_k3 p2)), .val (.int (own_r3 p4))] [(.int (own_r3 p4)), (.int (own_k3 p2)), (.ref b323)])) t → Steps p.tables e below (s₁.setTop (entryFrame m #[(.int p1), (.int p2), (.int p3), (.int p4)] maxLocals)) t := by
                intro t k
                refine k397 t ?_
                show Steps p.tables e below (T388.setTop (mkF m 563 #[.val (.int p1), .val (.int p2), .val (.int p3), .val (.int p4), .val (.int (p1 &&& (7 : Int32))), .val (.ref sju), .val (.int flju), .val (.int (p2 &&& (15 : Int32))), q8u, q9u, .val (.ref b323), .val (.int (own_k3 p2)), .val (.int (own_r3 p4))] [(.int (own_r3 p4)), (.int ((own_of own_tx2) kn3))])) _
                refine XS.icmpNo Xg396.here hx rfl (hb hby at_563) rfl (teq hc563_398).2 ?_
                show Steps p.tables e below (T388.setTop (mkF m 566 #[.val (.int p1), .val (.int p2), .val (.int p3), .val (.int p4), .val (.int (p1 &&& (7 : Int32))), .val (.ref sju), .val (.int flju), .val (.int (p2 &&& (15 : Int32))), q8u, q9u, .val (.ref b323), .val (.int (own_k3 p2)), .val (.int (own_r3 p4))] [])) _
                refine XS.iconst Xg396.here hx rfl (hb hby at_566) ?_
                show Steps p.tables e below (T388.setTop (mkF m 567 #[.val (.int p1), .val (.int p2), .val (.int p3), .val (.int p4), .val (.int (p1 &&& (7 : Int32))), .val (.ref sju), .val (.int flju), .val (.int (p2 &&& (15 : Int32))), q8u, q9u, .val (.ref b323), .val (.int (own_k3 p2)), .val (.int (own_r3 p4))] [(.int (1 : Int32))])) _
                refine XS.goto Xg396.here hx rfl (pc0 := 567) (pc' := 571) rfl (hb hby at_567) (by decide) (by decide) ?_
                show Steps p.tables e below (T388.setTop (mkF m 571 #[.val (.int p1), .val (.int p2), .val (.int p3), .val (.int p4), .val (.int (p1 &&& (7 : Int32))), .val (.ref sju), .val (.int flju), .val (.int (p2 &&& (15 : Int32))), q8u, q9u, .val (.ref b323), .val (.int (own_k3 p2)), .val (.int (own_r3 p4))] [(.int (1 : Int32))])) _
                refine XS.istore Xg396.here hx rfl (hb hby at_571) rfl (l' := #[.val (.int p1), .val (.int p2), .val (.int p3), .val (.int p4), .val (.int (p1 &&& (7 : Int32))), .val (.ref sju), .val (.int flju), .val (.int (p2 &&& (15 : Int32))), q8u, .val (.int (1 : Int32)), .val (.ref b323), .val (.int (own_k3 p2)), .val (.int (own_r3 p4))]) (by rcases hqq9u with rfl | ⟨v_, rfl⟩ | ⟨v_, rfl⟩ <;> rfl) ?_
                show Steps p.tables e below (T388.setTop (mkF m 573 #[.val (.int p1), .val (.int p2), .val (.int p3), .val (.int p4), .val (.int (p1 &&& (7 : Int32))), .val (.ref sju), .val (.int flju), .val (.int (p2 &&& (15 : Int32))), q8u, .val (.int (1 : Int32)), .val (.ref b323), .val (.int (own_k3 p2)), .val (.int (own_r3 p4))] [])) _
                refine XS.aload Xg396.here hx rfl (hb hby at_573) rfl rfl ?_
                show Steps p.tables e below (T388.setTop (mkF m 575 #[.val (.int p1), .val (.int p2), .val (.int p3), .val (.int p4), .val (.int (p1 &&& (7 : Int32))), .val (.ref sju), .val (.int flju), .val (.int (p2 &&& (15 : Int32))), q8u, .val (.int (1 : Int32)), .val (.ref b323), .val (.int (own_k3 p2)), .val (.int (own_r3 p4))] [(.ref b323)])) _
                refine XS.iload Xg396.here hx rfl (hb hby at_575) rfl ?_
                show Steps p.tables e below (T388.setTop (mkF m 577 #[.val (.int p1), .val (.int p2), .val (.int p3), .val (.int p4), .val (.int (p1 &&& (7 : Int32))), .val (.ref sju), .val (.int flju), .val (.int (p2 &&& (15 : Int32))), q8u, .val (.int (1 : Int32)), .val (.ref b323), .val (.int (own_k3 p2)), .val (.int (own_r3 p4))] [(.int (own_k3 p2)), (.ref b323)])) _
                refine XS.iload Xg396.here hx rfl (hb hby at_577) rfl ?_
                exact k
              obtain ⟨T400, h400, X400, e400, W400, G400, st400⟩ := own_stC Xg396 hx hZ e388 GA396 (j := (own_k3 p2)) hkn3 (by omega) (g := (mkF m 579 #[.val (.int p1), .val (.int p2), .val (.int p3), .val (.int p4), .val (.int (p1 &&& (7 : Int32))), .val (.ref sju), .val (.int flju), .val (.int (p2 &&& (15 : Int32))), q8u, .val (.int (1 : Int32)), .val (.ref b323), .val (.int (own_k3 p2)), .val (.int (own_r3 p4))] [(.int (own_r3 p4)), (.int (own_k3 p2)), (.ref b323)])) rfl rfl (hb hby at_579)
              have f401 := f389.wr W400
              have f402 := f390.other W400 (Or.inl ne324)
              have f403 := f391.other W400 (Or.inl ne324)
              have f404 := f392.other W400 ne325
              have N400 := Fr.snoc X400 Ng396 ge323
              have K400 : Keep hju h400 [] := K388.wr W400 (Or.inr bo323)
              have Z400 : n0 ≤ h400.size := Nat.le_trans Z388 (Keep.of_wr W400).1
              have Xo400 := Xo388.wr W400 ge323
              have k405 : ∀ t, Steps p.tables e below (T400.setTop (mkF m 580 #[.val (.int p1), .val (.int p2), .val (.int p3), .val (.int p4), .val (.int (p1 &&& (7 : Int32))), .val (.ref sju), .val (.int flju), .val (.int (p2 &&& (15 : Int32))), q8u, .val (.int (1 : Int32)), .val (.ref b323), .val (.int (own_k3 p2)), .val (.int (own_r3 p4))] [])) t → Steps p.tables e below (s₁.setTop (entryFrame m #[(.int p1), (.int p2), (.int p3), (.int p4)] maxLocals)) t := fun t k => k399 t (st400 t k)
              obtain ⟨T406, h406, X406, e406, E406, A406, D406, -, st406⟩ := newO X400 hx hZ hown (hw _ (List.mem_of_getElem? (i := 9) rfl)) (hw _ (List.mem_of_getElem? (i := 2) rfl)) (hw _ (List.mem_of_getElem? (i := 1) rfl)) e400 (g := (mkF m 580 #[.val (.int p1), .val (.int p2), .val (.int p3), .val (.int p4), .val (.int (p1 &&& (7 : Int32))), .val (.ref sju), .val (.int flju), .val (.int (p2 &&& (15 : Int32))), q8u, .val (.int (1 : Int32)), .val (.ref b323), .val (.int (own_k3 p2)), .val (.int (own_r3 p4))] [])) rfl (hb hby at_580) (by decide) (by decide)
              obtain ⟨b406, g406⟩ : ∃ z, z = h400.size := ⟨_, rfl⟩
              rw [← g406] at A406 D406 st406
              have ge406 : n0 ≤ b406 := Nat.le_trans Z400 (Nat.le_of_eq g406.symm)
              have bo406 : hju.size ≤ b406 := Nat.le_trans K400.1 (Nat.le_of_eq g406.symm)
              have ne407 : sju ≠ b406 := Nat.ne_of_lt (Nat.lt_of_lt_of_le f401.lt (Nat.le_of_eq g406.symm))
              have ne408 : bju ≠ b406 := Nat.ne_of_lt (Nat.lt_of_lt_of_le f404.lt (Nat.le_of_eq g406.symm))
              have ne409 : b323 ≠ b406 := Nat.ne_of_lt (Nat.lt_of_lt_of_le G400.lt (Nat.le_of_eq g406.symm))
              have Z406 : n0 ≤ h406.size := Nat.le_trans Z400 E406.1
              have K406 : Keep hju h406 [] := K400.ext E406
              have Xo406 := Xo400.ext E406
              have f410 := f401.ext E406
              have f411 := f402.ext E406
              have f412 := f403.ext E406
              have f413 := f404.ext E406
              have f414 := G400.ext E406
              have f415 : Fld Z h406 b406 "java/lang/String" "value" "[B" .null := D406 (Or.inr (hw _ (List.mem_of_getElem? (i := 4) rfl))) (ty := (.array .byte)) (by decide)
              have f416 : Fld Z h406 b406 "java/lang/String" "coder" "B" (.int (0 : Int32)) := D406 (Or.inr (hw _ (List.mem_of_getElem? (i := 5) rfl))) (ty := .byte) (by decide)
              have k417 : ∀ t, Steps p.tables e below (T406.setTop (mkF m 583 #[.val (.int p1), .val (.int p2), .val (.int p3), .val (.int p4), .val (.int (p1 &&& (7 : Int32))), .val (.ref sju), .val (.int flju), .val (.int (p2 &&& (15 : Int32))), q8u, .val (.int (1 : Int32)), .val (.ref b323), .val (.int (own_k3 p2)), .val (.int (own_r3 p4))] [(.ref b406)])) t → Steps p.tables e below (s₁.setTop (entryFrame m #[(.int p1), (.int p2), (.int p3), (.int p4)] maxLocals)) t := fun t k => k405 t (st406 t k)
              have k418 : ∀ t, Steps p.tables e below (T406.setTop (mkF m 586 #[.val (.int p1), .val (.int p2), .val (.int p3), .val (.int p4), .val (.int (p1 &&& (7 : Int32))), .val (.ref sju), .val (.int flju), .val (.int (p2 &&& (15 : Int32))), q8u, .val (.int (1 : Int32)), .val (.ref b323), .val (.int (own_k3 p2)), .val (.int (own_r3 p4))] [(.ref b323), (.ref b406), (.ref b406)])) t → Steps p.tables e below (s₁.setTop (entryFrame m #[(.int p1), (.int p2), (.int p3), (.int p4)] maxLocals)) t := by
                intro t k
                refine k417 t ?_
                show Steps p.tables e below (T406.setTop (mkF m 583 #[.val (.int p1), .val (.int p2), .val (.int p3), .val (.int p4), .val (.int (p1 &&& (7 : Int32))), .val (.ref sju), .val (.int flju), .val (.int (p2 &&& (15 : Int32))), q8u, .val (.int (1 : Int32)), .val (.ref b323), .val (.int (own_k3 p2)), .val (.int (own_r3 p4))] [(.ref b406)])) _
                refine XS.dup X406.here hx rfl (hb hby at_583) rfl rfl ?_
                show Steps p.tables e below (T406.setTop (mkF m 584 #[.val (.int p1), .val (.int p2), .val (.int p3), .val (.int p4), .val (.int (p1 &&& (7 : Int32))), .val (.ref sju), .val (.int flju), .val (.int (p2 &&& (15 : Int32))), q8u, .val (.int (1 : Int32)), .val (.ref b323), .val (.int (own_k3 p2)), .val (.int (own_r3 p4))] [(.ref b406), (.ref b406)])) _
                refine XS.aload X406.here hx rfl (hb hby at_584) rfl rfl ?_
                exact k
              have hal : ∀ i, i < 9 → ¬ ((255 : Int32) < (own_upd (own_of own_tx2) kn3 (nar .char (own_r3 p4))) (0 + i)) := own_halU (f := own_of own_tx2) own_halT3 (own_rr3 _).2.2
              obtain ⟨_, _, ⟨T419, L419, k419c, n419⟩, -, X419, ⟨Lc419, hQ419, l419, y419, z419⟩, st419⟩ := X406.specialBack hx (y := (⟨"java/lang/String", "<init>", "([C)V"⟩ : MethodName)) rfl hown (mvT hZ (hw _ (List.mem_of_getElem? (i := 10) rfl))) (mvT hZ (hw _ (List.mem_of_getElem? (i := 11) rfl))) (mvT hZ (hw _ (List.mem_of_getElem? (i := 12) rfl))) (by decide) (backOf (W := 1) (own_rms1 l Z a0 hw [] b406 b323 .null (.int (0 : Int32)) 9 (own_upd (own_of own_tx2) kn3 (nar .char (own_r3 p4))) cs h406 n0 Z406 A406 f415 f416 f414 ge406 ne409 Xo406 SC hcs (by omega) (by omega) hal) hZ (hw _ (List.mem_of_getElem? (i := 12) rfl)) (hw _ (List.mem_of_getElem? (i := 1) rfl)) (by decide) (by decide)) (g := (mkF m 586 #[.val (.int p1), .val (.int p2), .val (.int p3), .val (.int p4), .val (.int (p1 &&& (7 : Int32))), .val (.ref sju), .val (.int flju), .val (.int (p2 &&& (15 : Int32))), q8u, .val (.int (1 : Int32)), .val (.ref b323), .val (.int (own_k3 p2)), .val (.int (own_r3 p4))] [(.ref b323), (.ref b406), (.ref b406)])) rfl (by rw [hml]; rfl) (Steps.refl _) (a := b406) (argsL := [(.ref b323)]) (rest := [(.ref b406)]) (lenOf own_pd6 rfl) rfl (by show 2 * 0 + _ ≤ _; exact Nat.le_of_eq rfl) (hb hby at_586) (fun _ _ => ⟨rfl, e406, (by decide : 6 + 1 ≤ _), (by decide : 129 + 28 ≤ _)⟩)
              dsimp only [Pt.U, Pt.locs, Pt.cells, Pt.slots] at X419 l419 y419 z419 st419 hQ419
              subst l419 y419 z419
              obtain ⟨rb_419, rfl, N419q, Kq419, gz419_b, fq419_0, fq419_1, fq419_2⟩ := hQ419
              have N419 := Fr.app N400 N419q
              have ge419_b : n0 ≤ rb_419 := Nat.le_trans Z406 gz419_b
              have bo419_b : hju.size ≤ rb_419 := Nat.le_trans K406.1 gz419_b
              have ne420 : b323 ≠ rb_419 := Nat.ne_of_lt (Nat.lt_of_lt_of_le f414.lt gz419_b)
              have ne421 : b406 ≠ rb_419 := Nat.ne_of_lt (Nat.lt_of_lt_of_le A406.lt gz419_b)
              have ne422 : bju ≠ rb_419 := Nat.ne_of_lt (Nat.lt_of_lt_of_le f413.lt gz419_b)
              have ne423 : sju ≠ rb_419 := Nat.ne_of_lt (Nat.lt_of_lt_of_le f410.lt gz419_b)
              have f424 := f410.keep Kq419
              have f425 := f411.keep Kq419 (List.not_mem_cons_of_ne_of_not_mem ne407 List.not_mem_nil)
              have f426 := f412.keep Kq419 (List.not_mem_cons_of_ne_of_not_mem ne407 List.not_mem_nil)
              have f427 := f413.keep Kq419 (List.not_mem_cons_of_ne_of_not_mem ne408 List.not_mem_nil)
              have f428 := f414.keep Kq419 (List.not_mem_cons_of_ne_of_not_mem ne409 List.not_mem_nil)
              have f429 := A406.keep Kq419
              have Z419 : n0 ≤ T419.heap.size := Nat.le_trans Z406 Kq419.1
              have K419 : Keep hju T419.heap [] := K406.trans Kq419 (fun x hx => by rcases List.mem_cons.mp hx with rfl | hx; exact Or.inr bo406; exact nomatch hx)
              have Xo419 := Xo406.keep Kq419 (allS ge406 all0)
              have k430 : ∀ t, Steps p.tables e below (T419.setTop (mkF m 589 #[.val (.int p1), .val (.int p2), .val (.int p3), .val (.int p4), .val (.int (p1 &&& (7 : Int32))), .val (.ref sju), .val (.int flju), .val (.int (p2 &&& (15 : Int32))), q8u, .val (.int (1 : Int32)), .val (.ref b323), .val (.int (own_k3 p2)), .val (.int (own_r3 p4))] [(.ref b406)])) t → Steps p.tables e below (s₁.setTop (entryFrame m #[(.int p1), (.int p2), (.int p3), (.int p4)] maxLocals)) t := fun t k => k418 t (st419.trans k)
              have k431 : ∀ t, Steps p.tables e below (T419.setTop (mkF m 793 #[.val (.int p1), .val (.int p2), .val (.int p3), .val (.int p4), .val (.int (p1 &&& (7 : Int32))), .val (.ref sju), .val (.int flju), .val (.int (p2 &&& (15 : Int32))), .val (.ref b406), .val (.int (1 : Int32)), .val (.ref b323), .val (.int (own_k3 p2)), .val (.int (own_r3 p4))] [])) t → Steps p.tables e below (s₁.setTop (entryFrame m #[(.int p1), (.int p2), (.int p3), (.int p4)] maxLocals)) t := by
                intro t k
                refine k430 t ?_
                show Steps p.tables e below (T419.setTop (mkF m 589 #[.val (.int p1), .val (.int p2), .val (.int p3), .val (.int p4), .val (.int (p1 &&& (7 : Int32))), .val (.ref sju), .val (.int flju), .val (.int (p2 &&& (15 : Int32))), q8u, .val (.int (1 : Int32)), .val (.ref b323), .val (.int (own_k3 p2)), .val (.int (own_r3 p4))] [(.ref b406)])) _
                refine XS.astore X419.here hx rfl (hb hby at_589) rfl rfl (l' := #[.val (.int p1), .val (.int p2), .val (.int p3), .val (.int p4), .val (.int (p1 &&& (7 : Int32))), .val (.ref sju), .val (.int flju), .val (.int (p2 &&& (15 : Int32))), .val (.ref b406), .val (.int (1 : Int32)), .val (.ref b323), .val (.int (own_k3 p2)), .val (.int (own_r3 p4))]) (by rcases hqq8u with rfl | ⟨v_, rfl⟩ | ⟨v_, rfl⟩ <;> rfl) ?_
                show Steps p.tables e below (T419.setTop (mkF m 591 #[.val (.int p1), .val (.int p2), .val (.int p3), .val (.int p4), .val (.int (p1 &&& (7 : Int32))), .val (.ref sju), .val (.int flju), .val (.int (p2 &&& (15 : Int32))), .val (.ref b406), .val (.int (1 : Int32)), .val (.ref b323), .val (.int (own_k3 p2)), .val (.int (own_r3 p4))] [])) _
                refine XS.goto X419.here hx rfl (pc0 := 591) (pc' := 793) rfl (hb hby at_591) (by decide) (by decide) ?_
                exact k
              exact ⟨vmju, _, _, _, _, b406, rb_419, 9, (own_b8 (own_upd (own_of own_tx2) kn3 (nar .char (own_r3 p4))) 0), (1 : Int32), (.val (.ref b323)), (.val (.int (own_k3 p2))), (.val (.int (own_r3 p4))), (X419.more (by decide) (by decide)), rfl, N419, Z419, Xo419, Siju, (Nat.le_trans (Nat.le_trans (Nat.le_trans (Nat.le_trans (Nat.le_trans (Nat.le_trans (Nat.le_trans (Nat.le_trans (Nat.le_trans (Nat.le_trans (Nat.le_trans (Nat.le_trans (Nat.le_trans (Nat.le_trans (Nat.le_refl _) (hkju)) (E323.1)) ((Keep.of_wr W332).1)) ((Keep.of_wr W339).1)) ((Keep.of_wr W346).1)) ((Keep.of_wr W353).1)) ((Keep.of_wr W360).1)) ((Keep.of_wr W367).1)) ((Keep.of_wr W374).1)) ((Keep.of_wr W381).1)) ((Keep.of_wr W388).1)) ((Keep.of_wr W400).1)) (E406.1)) (Kq419.1)), hZ, hown, (Hcju.keep K419 (fun x hx => nomatch hx)), f424, f425, f426, f427, f429, fq419_0, fq419_1, fq419_2, (by omega), (Or.inl ⟨rfl, Or.inr ((own_chgR (L := own_tx2) (n := 9) (k := kn3) (own_rr3 _) rfl own_lowT3 hkl3).mpr hc563_398)⟩), (Or.inr (Or.inl ⟨_, rfl⟩)), (Or.inr (Or.inr ⟨_, rfl⟩)), (Or.inr (Or.inr ⟨_, rfl⟩)), k431⟩
            · have k432 : ∀ t, Steps p.tables e below (T388.setTop (mkF m 579 #[.val (.int p1), .val (.int p2), .val (.int p3), .val (.int p4), .val (.int (p1 &&& (7 : Int32))), .val (.ref sju), .val (.int flju), .val (.int (p2 &&& (15 : Int32))), q8u, .val (.int (0 : Int32)), .val (.ref b323), .val (.int (own_k3 p2)), .val (.int (own_r3 p4))] [(.int (own_r3 p4)), (.int (own_k3 p2)), (.ref b323)])) t → Steps p.tables e below (s₁.setTop (entryFrame m #[(.int p1), (.int p2), (.int p3), (.int p4)] maxLocals)) t := by
                intro t k
                refine k397 t ?_
                show Steps p.tables e below (T388.setTop (mkF m 563 #[.val (.int p1), .val (.int p2), .val (.int p3), .val (.int p4), .val (.int (p1 &&& (7 : Int32))), .val (.ref sju), .val (.int flju), .val (.int (p2 &&& (15 : Int32))), q8u, q9u, .val (.ref b323), .val (.int (own_k3 p2)), .val (.int (own_r3 p4))] [(.int (own_r3 p4)), (.int ((own_of own_tx2) kn3))])) _
                refine XS.icmpYes Xg396.here hx rfl (pc0 := 563) (pc' := 570) rfl (hb hby at_563) rfl (feq hc563_398).2 (by decide) (by decide) ?_
                show Steps p.tables e below (T388.setTop (mkF m 570 #[.val (.int p1), .val (.int p2), .val (.int p3), .val (.int p4), .val (.int (p1 &&& (7 : Int32))), .val (.ref sju), .val (.int flju), .val (.int (p2 &&& (15 : Int32))), q8u, q9u, .val (.ref b323), .val (.int (own_k3 p2)), .val (.int (own_r3 p4))] [])) _
                refine XS.iconst Xg396.here hx rfl (hb hby at_570) ?_
                show Steps p.tables e below (T388.setTop (mkF m 571 #[.val (.int p1), .val (.int p2), .val (.int p3), .val (.int p4), .val (.int (p1 &&& (7 : Int32))), .val (.ref sju), .val (.int flju), .val (.int (p2 &&& (15 : Int32))), q8u, q9u, .val (.ref b323), .val (.int (own_k3 p2)), .val (.int (own_r3 p4))] [(.int (0 : Int32))])) _
                refine XS.istore Xg396.here hx rfl (hb hby at_571) rfl (l' := #[.val (.int p1), .val (.int p2), .val (.int p3), .val (.int p4), .val (.int (p1 &&& (7 : Int32))), .val (.ref sju), .val (.int flju), .val (.int (p2 &&& (15 : Int32))), q8u, .val (.int (0 : Int32)), .val (.ref b323), .val (.int (own_k3 p2)), .val (.int (own_r3 p4))]) (by rcases hqq9u with rfl | ⟨v_, rfl⟩ | ⟨v_, rfl⟩ <;> rfl) ?_
                show Steps p.tables e below (T388.setTop (mkF m 573 #[.val (.int p1), .val (.int p2), .val (.int p3), .val (.int p4), .val (.int (p1 &&& (7 : Int32))), .val (.ref sju), .val (.int flju), .val (.int (p2 &&& (15 : Int32))), q8u, .val (.int (0 : Int32)), .val (.ref b323), .val (.int (own_k3 p2)), .val (.int (own_r3 p4))] [])) _
                refine XS.aload Xg396.here hx rfl (hb hby at_573) rfl rfl ?_
                show Steps p.tables e below (T388.setTop (mkF m 575 #[.val (.int p1), .val (.int p2), .val (.int p3), .val (.int p4), .val (.int (p1 &&& (7 : Int32))), .val (.ref sju), .val (.int flju), .val (.int (p2 &&& (15 : Int32))), q8u, .val (.int (0 : Int32)), .val (.ref b323), .val (.int (own_k3 p2)), .val (.int (own_r3 p4))] [(.ref b323)])) _
                refine XS.iload Xg396.here hx rfl (hb hby at_575) rfl ?_
                show Steps p.tables e below (T388.setTop (mkF m 577 #[.val (.int p1), .val (.int p2), .val (.int p3), .val (.int p4), .val (.int (p1 &&& (7 : Int32))), .val (.ref sju), .val (.int flju), .val (.int (p2 &&& (15 : Int32))), q8u, .val (.int (0 : Int32)), .val (.ref b323), .val (.int (own_k3 p2)), .val (.int (own_r3 p4))] [(.int (own_k3 p2)), (.ref b323)])) _
                refine XS.iload Xg396.here hx rfl (hb hby at_577) rfl ?_
                exact k
              obtain ⟨T433, h433, X433, e433, W433, G433, st433⟩ := own_stC Xg396 hx hZ e388 GA396 (j := (own_k3 p2)) hkn3 (by omega) (g := (mkF m 579 #[.val (.int p1), .val (.int p2), .val (.int p3), .val (.int p4), .val (.int (p1 &&& (7 : Int32))), .val (.ref sju), .val (.int flju), .val (.int (p2 &&& (15 : Int32))), q8u, .val (.int (0 : Int32)), .val (.ref b323), .val (.int (own_k3 p2)), .val (.int (own_r3 p4))] [(.int (own_r3 p4)), (.int (own_k3 p2)), (.ref b323)])) rfl rfl (hb hby at_579)
              have f434 := f389.wr W433
              have f435 := f390.other W433 (Or.inl ne324)
              have f436 := f391.other W433 (Or.inl ne324)
              have f437 := f392.other W433 ne325
              have N433 := Fr.snoc X433 Ng396 ge323
              have K433 : Keep hju h433 [] := K388.wr W433 (Or.inr bo323)
              have Z433 : n0 ≤ h433.size := Nat.le_trans Z388 (Keep.of_wr W433).1
              have Xo433 := Xo388.wr W433 ge323
              have k438 : ∀ t, Steps p.tables e below (T433.setTop (mkF m 580 #[.val (.int p1), .val (.int p2), .val (.int p3), .val (.int p4), .val (.int (p1 &&& (7 : Int32))), .val (.ref sju), .val (.int flju), .val (.int (p2 &&& (15 : Int32))), q8u, .val (.int (0 : Int32)), .val (.ref b323), .val (.int (own_k3 p2)), .val (.int (own_r3 p4))] [])) t → Steps p.tables e below (s₁.setTop (entryFrame m #[(.int p1), (.int p2), (.int p3), (.int p4)] maxLocals)) t := fun t k => k432 t (st433 t k)
              obtain ⟨T439, h439, X439, e439, E439, A439, D439, -, st439⟩ := newO X433 hx hZ hown (hw _ (List.mem_of_getElem? (i := 9) rfl)) (hw _ (List.mem_of_getElem? (i := 2) rfl)) (hw _ (List.mem_of_getElem? (i := 1) rfl)) e433 (g := (mkF m 580 #[.val (.int p1), .val (.int p2), .val (.int p3), .val (.int p4), .val (.int (p1 &&& (7 : Int32))), .val (.ref sju), .val (.int flju), .val (.int (p2 &&& (15 : Int32))), q8u, .val (.int (0 : Int32)), .val (.ref b323), .val (.int (own_k3 p2)), .val (.int (own_r3 p4))] [])) rfl (hb hby at_580) (by decide) (by decide)
              obtain ⟨b439, g439⟩ : ∃ z, z = h433.size := ⟨_, rfl⟩
              rw [← g439] at A439 D439 st439
              have ge439 : n0 ≤ b439 := Nat.le_trans Z433 (Nat.le_of_eq g439.symm)
              have bo439 : hju.size ≤ b439 := Nat.le_trans K433.1 (Nat.le_of_eq g439.symm)
              have ne440 : sju ≠ b439 := Nat.ne_of_lt (Nat.lt_of_lt_of_le f434.lt (Nat.le_of_eq g439.symm))
              have ne441 : bju ≠ b439 := Nat.ne_of_lt (Nat.lt_of_lt_of_le f437.lt (Nat.le_of_eq g439.symm))
              have ne442 : b323 ≠ b439 := Nat.ne_of_lt (Nat.lt_of_lt_of_le G433.lt (Nat.le_of_eq g439.symm))
              have Z439 : n0 ≤ h439.size := Nat.le_trans Z433 E439.1
              have K439 : Keep hju h439 [] := K433.ext E439
              have Xo439 := Xo433.ext E439
              have f443 := f434.ext E439
              have f444 := f435.ext E439
              have f445 := f436.ext E439
              have f446 := f437.ext E439
              have f447 := G433.ext E439
              have f448 : Fld Z h439 b439 "java/lang/String" "value" "[B" .null := D439 (Or.inr (hw _ (List.mem_of_getElem? (i := 4) rfl))) (ty := (.array .byte)) (by decide)
              have f449 : Fld Z h439 b439 "java/lang/String" "coder" "B" (.int (0 : Int32)) := D439 (Or.inr (hw _ (List.mem_of_getElem? (i := 5) rfl))) (ty := .byte) (by decide)
              have k450 : ∀ t, Steps p.tables e below (T439.setTop (mkF m 583 #[.val (.int p1), .val (.int p2), .val (.int p3), .val (.int p4), .val (.int (p1 &&& (7 : Int32))), .val (.ref sju), .val (.int flju), .val (.int (p2 &&& (15 : Int32))), q8u, .val (.int (0 : Int32)), .val (.ref b323), .val (.int (own_k3 p2)), .val (.int (own_r3 p4))] [(.ref b439)])) t → Steps p.tables e below (s₁.setTop (entryFrame m #[(.int p1), (.int p2), (.int p3), (.int p4)] maxLocals)) t := fun t k => k438 t (st439 t k)
              have k451 : ∀ t, Steps p.tables e below (T439.setTop (mkF m 586 #[.val (.int p1), .val (.int p2), .val (.int p3), .val (.int p4), .val (.int (p1 &&& (7 : Int32))), .val (.ref sju), .val (.int flju), .val (.int (p2 &&& (15 : Int32))), q8u, .val (.int (0 : Int32)), .val (.ref b323), .val (.int (own_k3 p2)), .val (.int (own_r3 p4))] [(.ref b323), (.ref b439), (.ref b439)])) t → Steps p.tables e below (s₁.setTop (entryFrame m #[(.int p1), (.int p2), (.int p3), (.int p4)] maxLocals)) t := by
                intro t k
                refine k450 t ?_
                show Steps p.tables e below (T439.setTop (mkF m 583 #[.val (.int p1), .val (.int p2), .val (.int p3), .val (.int p4), .val (.int (p1 &&& (7 : Int32))), .val (.ref sju), .val (.int flju), .val (.int (p2 &&& (15 : Int32))), q8u, .val (.int (0 : Int32)), .val (.ref b323), .val (.int (own_k3 p2)), .val (.int (own_r3 p4))] [(.ref b439)])) _
                refine XS.dup X439.here hx rfl (hb hby at_583) rfl rfl ?_
                show Steps p.tables e below (T439.setTop (mkF m 584 #[.val (.int p1), .val (.int p2), .val (.int p3), .val (.int p4), .val (.int (p1 &&& (7 : Int32))), .val (.ref sju), .val (.int flju), .val (.int (p2 &&& (15 : Int32))), q8u, .val (.int (0 : Int32)), .val (.ref b323), .val (.int (own_k3 p2)), .val (.int (own_r3 p4))] [(.ref b439), (.ref b439)])) _
                refine XS.aload X439.here hx rfl (hb hby at_584) rfl rfl ?_
                exact k
              have hal : ∀ i, i < 9 → ¬ ((255 : Int32) < (own_upd (own_of own_tx2) kn3 (nar .char (own_r3 p4))) (0 + i)) := own_halU (f := own_of own_tx2) own_halT3 (own_rr3 _).2.2
              obtain ⟨_, _, ⟨T452, L452, k452c, n452⟩, -, X452, ⟨Lc452, hQ452, l452, y452, z452⟩, st452⟩ := X439.specialBack hx (y := (⟨"java/lang/String", "<init>", "([C)V"⟩ : MethodName)) rfl hown (mvT hZ (hw _ (List.mem_of_getElem? (i := 10) rfl))) (mvT hZ (hw _ (List.mem_of_getElem? (i := 11) rfl))) (mvT hZ (hw _ (List.mem_of_getElem? (i := 12) rfl))) (by decide) (backOf (W := 1) (own_rms1 l Z a0 hw [] b439 b323 .null (.int (0 : Int32)) 9 (own_upd (own_of own_tx2) kn3 (nar .char (own_r3 p4))) cs h439 n0 Z439 A439 f448 f449 f447 ge439 ne442 Xo439 SC hcs (by omega) (by omega) hal) hZ (hw _ (List.mem_of_getElem? (i := 12) rfl)) (hw _ (List.mem_of_getElem? (i := 1) rfl)) (by decide) (by decide)) (g := (mkF m 586 #[.val (.int p1), .val (.int p2), .val (.int p3), .val (.int p4), .val (.int (p1 &&& (7 : Int32))), .val (.ref sju), .val (.int flju), .val (.int (p2 &&& (15 : Int32))), q8u, .val (.int (0 : Int32)), .val (.ref b323), .val (.int (own_k3 p2)), .val (.int (own_r3 p4))] [(.ref b323), (.ref b439), (.ref b439)])) rfl (by rw [hml]; rfl) (Steps.refl _) (a := b439) (argsL := [(.ref b323)]) (rest := [(.ref b439)]) (lenOf own_pd6 rfl) rfl (by show 2 * 0 + _ ≤ _; exact Nat.le_of_eq rfl) (hb hby at_586) (fun _ _ => ⟨rfl, e439, (by decide : 6 + 1 ≤ _), (by decide : 129 + 28 ≤ _)⟩)
              dsimp only [Pt.U, Pt.locs, Pt.cells, Pt.slots] at X452 l452 y452 z452 st452 hQ452
              subst l452 y452 z452
              obtain ⟨rb_452, rfl, N452q, Kq452, gz452_b, fq452_0, fq452_1, fq452_2⟩ := hQ452
              have N452 := Fr.app N433 N452q
              have ge452_b : n0 ≤ rb_452 := Nat.le_trans Z439 gz452_b
              have bo452_b : hju.size ≤ rb_452 := Nat.le_trans K439.1 gz452_b
              have ne453 : b323 ≠ rb_452 := Nat.ne_of_lt (Nat.lt_of_lt_of_le f447.lt gz452_b)
              have ne454 : b439 ≠ rb_452 := Nat.ne_of_lt (Nat.lt_of_lt_of_le A439.lt gz452_b)
              have ne455 : bju ≠ rb_452 := Nat.ne_of_lt (Nat.lt_of_lt_of_le f446.lt gz452_b)
              have ne456 : sju ≠ rb_452 := Nat.ne_of_lt (Nat.lt_of_lt_of_le f443.lt gz452_b)
              have f457 := f443.keep Kq452
              have f458 := f444.keep Kq452 (List.not_mem_cons_of_ne_of_not_mem ne440 List.not_mem_nil)
              have f459 := f445.keep Kq452 (List.not_mem_cons_of_ne_of_not_mem ne440 List.not_mem_nil)
              have f460 := f446.keep Kq452 (List.not_mem_cons_of_ne_of_not_mem ne441 List.not_mem_nil)
              have f461 := f447.keep Kq452 (List.not_mem_cons_of_ne_of_not_mem ne442 List.not_mem_nil)
              have f462 := A439.keep Kq452
              have Z452 : n0 ≤ T452.heap.size := Nat.le_trans Z439 Kq452.1
              have K452 : Keep hju T452.heap [] := K439.trans Kq452 (fun x hx => by rcases List.mem_cons.mp hx with rfl | hx; exact Or.inr bo439; exact nomatch hx)
              have Xo452 := Xo439.keep Kq452 (allS ge439 all0)
              have k463 : ∀ t, Steps p.tables e below (T452.setTop (mkF m 589 #[.val (.int p1), .val (.int p2), .val (.int p3), .val (.int p4), .val (.int (p1 &&& (7 : Int32))), .val (.ref sju), .val (.int flju), .val (.int (p2 &&& (15 : Int32))), q8u, .val (.int (0 : Int32)), .val (.ref b323), .val (.int (own_k3 p2)), .val (.int (own_r3 p4))] [(.ref b439)])) t → Steps p.tables e below (s₁.setTop (entryFrame m #[(.int p1), (.int p2), (.int p3), (.int p4)] maxLocals)) t := fun t k => k451 t (st452.trans k)
              have k464 : ∀ t, Steps p.tables e below (T452.setTop (mkF m 793 #[.val (.int p1), .val (.int p2), .val (.int p3), .val (.int p4), .val (.int (p1 &&& (7 : Int32))), .val (.ref sju), .val (.int flju), .val (.int (p2 &&& (15 : Int32))), .val (.ref b439), .val (.int (0 : Int32)), .val (.ref b323), .val (.int (own_k3 p2)), .val (.int (own_r3 p4))] [])) t → Steps p.tables e below (s₁.setTop (entryFrame m #[(.int p1), (.int p2), (.int p3), (.int p4)] maxLocals)) t := by
                intro t k
                refine k463 t ?_
                show Steps p.tables e below (T452.setTop (mkF m 589 #[.val (.int p1), .val (.int p2), .val (.int p3), .val (.int p4), .val (.int (p1 &&& (7 : Int32))), .val (.ref sju), .val (.int flju), .val (.int (p2 &&& (15 : Int32))), q8u, .val (.int (0 : Int32)), .val (.ref b323), .val (.int (own_k3 p2)), .val (.int (own_r3 p4))] [(.ref b439)])) _
                refine XS.astore X452.here hx rfl (hb hby at_589) rfl rfl (l' := #[.val (.int p1), .val (.int p2), .val (.int p3), .val (.int p4), .val (.int (p1 &&& (7 : Int32))), .val (.ref sju), .val (.int flju), .val (.int (p2 &&& (15 : Int32))), .val (.ref b439), .val (.int (0 : Int32)), .val (.ref b323), .val (.int (own_k3 p2)), .val (.int (own_r3 p4))]) (by rcases hqq8u with rfl | ⟨v_, rfl⟩ | ⟨v_, rfl⟩ <;> rfl) ?_
                show Steps p.tables e below (T452.setTop (mkF m 591 #[.val (.int p1), .val (.int p2), .val (.int p3), .val (.int p4), .val (.int (p1 &&& (7 : Int32))), .val (.ref sju), .val (.int flju), .val (.int (p2 &&& (15 : Int32))), .val (.ref b439), .val (.int (0 : Int32)), .val (.ref b323), .val (.int (own_k3 p2)), .val (.int (own_r3 p4))] [])) _
                refine XS.goto X452.here hx rfl (pc0 := 591) (pc' := 793) rfl (hb hby at_591) (by decide) (by decide) ?_
                exact k
              exact ⟨vmju, _, _, _, _, b439, rb_452, 9, (own_b8 (own_upd (own_of own_tx2) kn3 (nar .char (own_r3 p4))) 0), (0 : Int32), (.val (.ref b323)), (.val (.int (own_k3 p2))), (.val (.int (own_r3 p4))), (X452.more (by decide) (by decide)), rfl, N452, Z452, Xo452, Siju, (Nat.le_trans (Nat.le_trans (Nat.le_trans (Nat.le_trans (Nat.le_trans (Nat.le_trans (Nat.le_trans (Nat.le_trans (Nat.le_trans (Nat.le_trans (Nat.le_trans (Nat.le_trans (Nat.le_trans (Nat.le_trans (Nat.le_refl _) (hkju)) (E323.1)) ((Keep.of_wr W332).1)) ((Keep.of_wr W339).1)) ((Keep.of_wr W346).1)) ((Keep.of_wr W353).1)) ((Keep.of_wr W360).1)) ((Keep.of_wr W367).1)) ((Keep.of_wr W374).1)) ((Keep.of_wr W381).1)) ((Keep.of_wr W388).1)) ((Keep.of_wr W433).1)) (E439.1)) (Kq452.1)), hZ, hown, (Hcju.keep K452 (fun x hx => nomatch hx)), f457, f458, f459, f460, f462, fq452_0, fq452_1, fq452_2, (by omega), (Or.inr ⟨rfl, fun q => q.elim (own_notL (by decide)) (fun q => hc563_398 ((own_chgR (L := own_tx2) (n := 9) (k := kn3) (own_rr3 _) rfl own_lowT3 hkl3).mp q))⟩), (Or.inr (Or.inl ⟨_, rfl⟩)), (Or.inr (Or.inr ⟨_, rfl⟩)), (Or.inr (Or.inr ⟨_, rfl⟩)), k464⟩
          · have k465 : ∀ t, Steps p.tables e below (Tju.setTop (mkF m 597 #[.val (.int p1), .val (.int p2), .val (.int p3), .val (.int p4), .val (.int (p1 &&& (7 : Int32))), .val (.ref sju), .val (.int flju), .val (.int (p2 &&& (15 : Int32))), q8u, q9u, .unset, .unset, .unset] [(.int (4 : Int32)), (.int (p2 &&& (15 : Int32)))])) t → Steps p.tables e below (s₁.setTop (entryFrame m #[(.int p1), (.int p2), (.int p3), (.int p4)] maxLocals)) t := by
              intro t k
              refine k320 t ?_
              show Steps p.tables e below (Tju.setTop (mkF m 480 #[.val (.int p1), .val (.int p2), .val (.int p3), .val (.int p4), .val (.int (p1 &&& (7 : Int32))), .val (.ref sju), .val (.int flju), .val (.int (p2 &&& (15 : Int32))), q8u, q9u, .unset, .unset, .unset] [(.int (3 : Int32)), (.int (p2 &&& (15 : Int32)))])) _
              refine XS.icmpYes Xju.here hx rfl (pc0 := 480) (pc' := 594) rfl (hb hby at_480) rfl (feq hc480_321).2 (by decide) (by decide) ?_
              show Steps p.tables e below (Tju.setTop (mkF m 594 #[.val (.int p1), .val (.int p2), .val (.int p3), .val (.int p4), .val (.int (p1 &&& (7 : Int32))), .val (.ref sju), .val (.int flju), .val (.int (p2 &&& (15 : Int32))), q8u, q9u, .unset, .unset, .unset] [])) _
              refine XS.iload Xju.here hx rfl (hb hby at_594) rfl ?_
              show Steps p.tables e below (Tju.setTop (mkF m 596 #[.val (.int p1), .val (.int p2), .val (.int p3), .val (.int p4), .val (.int (p1 &&& (7 : Int32))), .val (.ref sju), .val (.int flju), .val (.int (p2 &&& (15 : Int32))), q8u, q9u, .unset, .unset, .unset] [(.int (p2 &&& (15 : Int32)))])) _
              refine XS.iconst Xju.here hx rfl (hb hby at_596) ?_
              exact k
            by_cases hc597_466 : (p2 &&& (15 : Int32)) = (4 : Int32)
            · have k467 : ∀ t, Steps p.tables e below (Tju.setTop (mkF m 600 #[.val (.int p1), .val (.int p2), .val (.int p3), .val (.int p4), .val (.int (p1 &&& (7 : Int32))), .val (.ref sju), .val (.int flju), .val (.int (p2 &&& (15 : Int32))), q8u, q9u, .unset, .unset, .unset] [])) t → Steps p.tables e below (s₁.setTop (entryFrame m #[(.int p1), (.int p2), (.int p3), (.int p4)] maxLocals)) t := by
                intro t k
                refine k465 t ?_
                show Steps p.tables e below (Tju.setTop (mkF m 597 #[.val (.int p1), .val (.int p2), .val (.int p3), .val (.int p4), .val (.int (p1 &&& (7 : Int32))), .val (.ref sju), .val (.int flju), .val (.int (p2 &&& (15 : Int32))), q8u, q9u, .unset, .unset, .unset] [(.int (4 : Int32)), (.int (p2 &&& (15 : Int32)))])) _
                refine XS.icmpNo Xju.here hx rfl (hb hby at_597) rfl (teq hc597_466).2 ?_
                exact k
              obtain ⟨lt468, T468, h468, lb468, k1468, X468, e468, E468, Si468, hk468, Zw468, Ow468, Ea468, Fc468, Fv468, Gb468, Cl468, Li468, st468⟩ := own_ldcL (s := s) (vm0 := vmju) (text := "") (vs := own_tx3) (n := 0) (z := 0) Xju hx hZ hown hw (hw _ (List.mem_of_getElem? (i := 61) rfl)) (List.mem_of_getElem? (i := 4) rfl) eju Siju (Nat.le_trans (Nat.le_refl _) (hkju)) Hcju (by decide +kernel) (by first | rfl | decide +kernel) rfl rfl (g := (mkF m 600 #[.val (.int p1), .val (.int p2), .val (.int p3), .val (.int p4), .val (.int (p1 &&& (7 : Int32))), .val (.ref sju), .val (.int flju), .val (.int (p2 &&& (15 : Int32))), q8u, q9u, .unset, .unset, .unset] [])) rfl (hb hby at_600) (cap := 0) (by decide +kernel) (by decide) (by decide) (by decide)
              have hZ : Z.Warmed39 (s.setVm T468.vm).vm := Zw468
              have hown : (s.setVm T468.vm).vm.findClass "com/example/domicile/domicile/tei/TeiVocabularyMayBeRecordPinLaw" = some m.cls := Ow468
              have f469 := fm1u.ext E468
              have f470 := fm2u.ext E468
              have f471 := fm3u.ext E468
              have f472 := fm4u.ext E468
              have Z468 : n0 ≤ h468.size := Nat.le_trans Zju E468.1
              have K468 : Keep hju h468 [] := (Keep.refl hju []).ext E468
              have Xo468 := Oju.ext E468
              have k473 : ∀ t, Steps p.tables e below (T468.setTop (mkF m 602 #[.val (.int p1), .val (.int p2), .val (.int p3), .val (.int p4), .val (.int (p1 &&& (7 : Int32))), .val (.ref sju), .val (.int flju), .val (.int (p2 &&& (15 : Int32))), q8u, q9u, .unset, .unset, .unset] [(.ref lt468)])) t → Steps p.tables e below (s₁.setTop (entryFrame m #[(.int p1), (.int p2), (.int p3), (.int p4)] maxLocals)) t := fun t k => k467 t (st468 t k)
              have k474 : ∀ t, Steps p.tables e below (T468.setTop (mkF m 793 #[.val (.int p1), .val (.int p2), .val (.int p3), .val (.int p4), .val (.int (p1 &&& (7 : Int32))), .val (.ref sju), .val (.int flju), .val (.int (p2 &&& (15 : Int32))), .val (.ref lt468), .val (.int (0 : Int32)), .unset, .unset, .unset] [])) t → Steps p.tables e below (s₁.setTop (entryFrame m #[(.int p1), (.int p2), (.int p3), (.int p4)] maxLocals)) t := by
                intro t k
                refine k473 t ?_
                show Steps p.tables e below (T468.setTop (mkF m 602 #[.val (.int p1), .val (.int p2), .val (.int p3), .val (.int p4), .val (.int (p1 &&& (7 : Int32))), .val (.ref sju), .val (.int flju), .val (.int (p2 &&& (15 : Int32))), q8u, q9u, .unset, .unset, .unset] [(.ref lt468)])) _
                refine XS.astore X468.here hx rfl (hb hby at_602) rfl rfl (l' := #[.val (.int p1), .val (.int p2), .val (.int p3), .val (.int p4), .val (.int (p1 &&& (7 : Int32))), .val (.ref sju), .val (.int flju), .val (.int (p2 &&& (15 : Int32))), .val (.ref lt468), q9u, .unset, .unset, .unset]) (by rcases hqq8u with rfl | ⟨v_, rfl⟩ | ⟨v_, rfl⟩ <;> rfl) ?_
                show Steps p.tables e below (T468.setTop (mkF m 604 #[.val (.int p1), .val (.int p2), .val (.int p3), .val (.int p4), .val (.int (p1 &&& (7 : Int32))), .val (.ref sju), .val (.int flju), .val (.int (p2 &&& (15 : Int32))), .val (.ref lt468), q9u, .unset, .unset, .unset] [])) _
                refine XS.iconst X468.here hx rfl (hb hby at_604) ?_
                show Steps p.tables e below (T468.setTop (mkF m 605 #[.val (.int p1), .val (.int p2), .val (.int p3), .val (.int p4), .val (.int (p1 &&& (7 : Int32))), .val (.ref sju), .val (.int flju), .val (.int (p2 &&& (15 : Int32))), .val (.ref lt468), q9u, .unset, .unset, .unset] [(.int (0 : Int32))])) _
                refine XS.istore X468.here hx rfl (hb hby at_605) rfl (l' := #[.val (.int p1), .val (.int p2), .val (.int p3), .val (.int p4), .val (.int (p1 &&& (7 : Int32))), .val (.ref sju), .val (.int flju), .val (.int (p2 &&& (15 : Int32))), .val (.ref lt468), .val (.int (0 : Int32)), .unset, .unset, .unset]) (by rcases hqq9u with rfl | ⟨v_, rfl⟩ | ⟨v_, rfl⟩ <;> rfl) ?_
                show Steps p.tables e below (T468.setTop (mkF m 607 #[.val (.int p1), .val (.int p2), .val (.int p3), .val (.int p4), .val (.int (p1 &&& (7 : Int32))), .val (.ref sju), .val (.int flju), .val (.int (p2 &&& (15 : Int32))), .val (.ref lt468), .val (.int (0 : Int32)), .unset, .unset, .unset] [])) _
                refine XS.goto X468.here hx rfl (pc0 := 607) (pc' := 793) rfl (hb hby at_607) (by decide) (by decide) ?_
                exact k
              exact ⟨T468.vm, _, _, _, _, lt468, lb468, 0, (own_of own_tx3), (0 : Int32), (.unset), (.unset), (.unset), (X468.more (by decide) (by decide)), e468, Nju, Z468, Xo468, Si468, (Nat.le_trans (Nat.le_refl _) (hk468)), hZ, hown, Cl468.1, f469, f470, f471, f472, Ea468, Fv468, Fc468, Gb468, (by omega), (Or.inr ⟨rfl, fun q => q.elim (own_notL (by decide)) (own_notL (by decide))⟩), (Or.inl rfl), (Or.inl rfl), (Or.inl rfl), k474⟩
            · have k475 : ∀ t, Steps p.tables e below (Tju.setTop (mkF m 613 #[.val (.int p1), .val (.int p2), .val (.int p3), .val (.int p4), .val (.int (p1 &&& (7 : Int32))), .val (.ref sju), .val (.int flju), .val (.int (p2 &&& (15 : Int32))), q8u, q9u, .unset, .unset, .unset] [(.int (5 : Int32)), (.int (p2 &&& (15 : Int32)))])) t → Steps p.tables e below (s₁.setTop (entryFrame m #[(.int p1), (.int p2), (.int p3), (.int p4)] maxLocals)) t := by
                intro t k
                refine k465 t ?_
                show Steps p.tables e below (Tju.setTop (mkF m 597 #[.val (.int p1), .val (.int p2), .val (.int p3), .val (.int p4), .val (.int (p1 &&& (7 : Int32))), .val (.ref sju), .val (.int flju), .val (.int (p2 &&& (15 : Int32))), q8u, q9u, .unset, .unset, .unset] [(.int (4 : Int32)), (.int (p2 &&& (15 : Int32)))])) _
                refine XS.icmpYes Xju.here hx rfl (pc0 := 597) (pc' := 610) rfl (hb hby at_597) rfl (feq hc597_466).2 (by decide) (by decide) ?_
                show Steps p.tables e below (Tju.setTop (mkF m 610 #[.val (.int p1), .val (.int p2), .val (.int p3), .val (.int p4), .val (.int (p1 &&& (7 : Int32))), .val (.ref sju), .val (.int flju), .val (.int (p2 &&& (15 : Int32))), q8u, q9u, .unset, .unset, .unset] [])) _
                refine XS.iload Xju.here hx rfl (hb hby at_610) rfl ?_
                show Steps p.tables e below (Tju.setTop (mkF m 612 #[.val (.int p1), .val (.int p2), .val (.int p3), .val (.int p4), .val (.int (p1 &&& (7 : Int32))), .val (.ref sju), .val (.int flju), .val (.int (p2 &&& (15 : Int32))), q8u, q9u, .unset, .unset, .unset] [(.int (p2 &&& (15 : Int32)))])) _
                refine XS.iconst Xju.here hx rfl (hb hby at_612) ?_
                exact k
              by_cases hc613_476 : (p2 &&& (15 : Int32)) = (5 : Int32)
              · have k477 : ∀ t, Steps p.tables e below (Tju.setTop (mkF m 622 #[.val (.int p1), .val (.int p2), .val (.int p3), .val (.int p4), .val (.int (p1 &&& (7 : Int32))), .val (.ref sju), .val (.int flju), .val (.int (p2 &&& (15 : Int32))), q8u, q9u, .unset, .unset, .unset] [(.int p4), (.int (((p2.toUInt32 >>> ((4 : Int32) &&& 31).toUInt32).toInt32) &&& (3 : Int32)))])) t → Steps p.tables e below (s₁.setTop (entryFrame m #[(.int p1), (.int p2), (.int p3), (.int p4)] maxLocals)) t := by
                  intro t k
                  refine k475 t ?_
                  show Steps p.tables e below (Tju.setTop (mkF m 613 #[.val (.int p1), .val (.int p2), .val (.int p3), .val (.int p4), .val (.int (p1 &&& (7 : Int32))), .val (.ref sju), .val (.int flju), .val (.int (p2 &&& (15 : Int32))), q8u, q9u, .unset, .unset, .unset] [(.int (5 : Int32)), (.int (p2 &&& (15 : Int32)))])) _
                  refine XS.icmpNo Xju.here hx rfl (hb hby at_613) rfl (teq hc613_476).2 ?_
                  show Steps p.tables e below (Tju.setTop (mkF m 616 #[.val (.int p1), .val (.int p2), .val (.int p3), .val (.int p4), .val (.int (p1 &&& (7 : Int32))), .val (.ref sju), .val (.int flju), .val (.int (p2 &&& (15 : Int32))), q8u, q9u, .unset, .unset, .unset] [])) _
                  refine XS.iloadN Xju.here hx rfl (hb hby at_616) rfl ?_
                  show Steps p.tables e below (Tju.setTop (mkF m 617 #[.val (.int p1), .val (.int p2), .val (.int p3), .val (.int p4), .val (.int (p1 &&& (7 : Int32))), .val (.ref sju), .val (.int flju), .val (.int (p2 &&& (15 : Int32))), q8u, q9u, .unset, .unset, .unset] [(.int p2)])) _
                  refine XS.iconst Xju.here hx rfl (hb hby at_617) ?_
                  show Steps p.tables e below (Tju.setTop (mkF m 618 #[.val (.int p1), .val (.int p2), .val (.int p3), .val (.int p4), .val (.int (p1 &&& (7 : Int32))), .val (.ref sju), .val (.int flju), .val (.int (p2 &&& (15 : Int32))), q8u, q9u, .unset, .unset, .unset] [(.int (4 : Int32)), (.int p2)])) _
                  refine XS.iushr Xju.here hx rfl (hb hby at_618) rfl ?_
                  show Steps p.tables e below (Tju.setTop (mkF m 619 #[.val (.int p1), .val (.int p2), .val (.int p3), .val (.int p4), .val (.int (p1 &&& (7 : Int32))), .val (.ref sju), .val (.int flju), .val (.int (p2 &&& (15 : Int32))), q8u, q9u, .unset, .unset, .unset] [(.int ((p2.toUInt32 >>> ((4 : Int32) &&& 31).toUInt32).toInt32))])) _
                  refine XS.iconst Xju.here hx rfl (hb hby at_619) ?_
                  show Steps p.tables e below (Tju.setTop (mkF m 620 #[.val (.int p1), .val (.int p2), .val (.int p3), .val (.int p4), .val (.int (p1 &&& (7 : Int32))), .val (.ref sju), .val (.int flju), .val (.int (p2 &&& (15 : Int32))), q8u, q9u, .unset, .unset, .unset] [(.int (3 : Int32)), (.int ((p2.toUInt32 >>> ((4 : Int32) &&& 31).toUInt32).toInt32))])) _
                  refine XS.iand Xju.here hx rfl (hb hby at_620) rfl ?_
                  show Steps p.tables e below (Tju.setTop (mkF m 621 #[.val (.int p1), .val (.int p2), .val (.int p3), .val (.int p4), .val (.int (p1 &&& (7 : Int32))), .val (.ref sju), .val (.int flju), .val (.int (p2 &&& (15 : Int32))), q8u, q9u, .unset, .unset, .unset] [(.int (((p2.toUInt32 >>> ((4 : Int32) &&& 31).toUInt32).toInt32) &&& (3 : Int32)))])) _
                  refine XS.iloadN Xju.here hx rfl (hb hby at_621) rfl ?_
                  exact k
                obtain ⟨_, T478, L478, X478, Si478, Zw478, Ow478, Cl478, hQ478, st478⟩ := own_callSH (s := s) (vm0 := vmju) (W := 0) Xju hx hw hZ hown Siju (Nat.le_trans (Nat.le_refl _) (hkju)) Hcju (hw _ (List.mem_of_getElem? (i := 64) rfl)) (hw _ (List.mem_of_getElem? (i := 65) rfl)) (hw _ (List.mem_of_getElem? (i := 66) rfl)) (hw _ (List.mem_of_getElem? (i := 67) rfl)) (by decide) (own_rmdr l Z a0 hw [] (((p2.toUInt32 >>> ((4 : Int32) &&& 31).toUInt32).toInt32) &&& (3 : Int32)) p4 cs hju n0 Zju Oju SC hcs) (by decide) (by decide) eju (g := (mkF m 622 #[.val (.int p1), .val (.int p2), .val (.int p3), .val (.int p4), .val (.int (p1 &&& (7 : Int32))), .val (.ref sju), .val (.int flju), .val (.int (p2 &&& (15 : Int32))), q8u, q9u, .unset, .unset, .unset] [(.int p4), (.int (((p2.toUInt32 >>> ((4 : Int32) &&& 31).toUInt32).toInt32) &&& (3 : Int32)))])) rfl (by rw [hml]; rfl) own_pd7 (argsL := [(.int (((p2.toUInt32 >>> ((4 : Int32) &&& 31).toUInt32).toInt32) &&& (3 : Int32))), (.int p4)]) (rest := []) rfl rfl rfl (by show 2 * 0 + _ ≤ _; exact Nat.le_of_eq rfl) (hb hby at_622) (by decide) (by decide)
                have hZ : Z.Warmed39 (s.setVm T478.vm).vm := Zw478
                have hown : (s.setVm T478.vm).vm.findClass "com/example/domicile/domicile/tei/TeiVocabularyMayBeRecordPinLaw" = some m.cls := Ow478
                obtain ⟨rs__478, b_478, n__478, f__478, rfl, N478q, Kq478, gz478_s_, fq478_0, fq478_1, fq478_2, fq478_3, hq478_hn⟩ := hQ478
                have N478 := Fr.app Nju N478q
                have ge478_s_ : n0 ≤ rs__478 := Nat.le_trans Zju gz478_s_
                have bo478_s_ : hju.size ≤ rs__478 := Nat.le_trans (Keep.refl hju []).1 gz478_s_
                have ne479 : bju ≠ rs__478 := Nat.ne_of_lt (Nat.lt_of_lt_of_le fm4u.lt gz478_s_)
                have ne480 : sju ≠ rs__478 := Nat.ne_of_lt (Nat.lt_of_lt_of_le fm1u.lt gz478_s_)
                have f481 := fm1u.keep Kq478
                have f482 := fm2u.keep Kq478 List.not_mem_nil
                have f483 := fm3u.keep Kq478 List.not_mem_nil
                have f484 := fm4u.keep Kq478 List.not_mem_nil
                have Z478 : n0 ≤ T478.heap.size := Nat.le_trans Zju Kq478.1
                have K478 : Keep hju T478.heap [] := (Keep.refl hju []).trans Kq478 (fun x hx => nomatch hx)
                have Xo478 := Oju.keep Kq478 all0
                have k485 : ∀ t, Steps p.tables e below (T478.setTop (mkF m 625 #[.val (.int p1), .val (.int p2), .val (.int p3), .val (.int p4), .val (.int (p1 &&& (7 : Int32))), .val (.ref sju), .val (.int flju), .val (.int (p2 &&& (15 : Int32))), q8u, q9u, .unset, .unset, .unset] [(.ref rs__478)])) t → Steps p.tables e below (s₁.setTop (entryFrame m #[(.int p1), (.int p2), (.int p3), (.int p4)] maxLocals)) t := fun t k => k477 t (st478 t k)
                have k486 : ∀ t, Steps p.tables e below (T478.setTop (mkF m 793 #[.val (.int p1), .val (.int p2), .val (.int p3), .val (.int p4), .val (.int (p1 &&& (7 : Int32))), .val (.ref sju), .val (.int flju), .val (.int (p2 &&& (15 : Int32))), .val (.ref rs__478), .val (.int (0 : Int32)), .unset, .unset, .unset] [])) t → Steps p.tables e below (s₁.setTop (entryFrame m #[(.int p1), (.int p2), (.int p3), (.int p4)] maxLocals)) t := by
                  intro t k
                  refine k485 t ?_
                  show Steps p.tables e below (T478.setTop (mkF m 625 #[.val (.int p1), .val (.int p2), .val (.int p3), .val (.int p4), .val (.int (p1 &&& (7 : Int32))), .val (.ref sju), .val (.int flju), .val (.int (p2 &&& (15 : Int32))), q8u, q9u, .unset, .unset, .unset] [(.ref rs__478)])) _
                  refine XS.astore X478.here hx rfl (hb hby at_625) rfl rfl (l' := #[.val (.int p1), .val (.int p2), .val (.int p3), .val (.int p4), .val (.int (p1 &&& (7 : Int32))), .val (.ref sju), .val (.int flju), .val (.int (p2 &&& (15 : Int32))), .val (.ref rs__478), q9u, .unset, .unset, .unset]) (by rcases hqq8u with rfl | ⟨v_, rfl⟩ | ⟨v_, rfl⟩ <;> rfl) ?_
                  show Steps p.tables e below (T478.setTop (mkF m 627 #[.val (.int p1), .val (.int p2), .val (.int p3), .val (.int p4), .val (.int (p1 &&& (7 : Int32))), .val (.ref sju), .val (.int flju), .val (.int (p2 &&& (15 : Int32))), .val (.ref rs__478), q9u, .unset, .unset, .unset] [])) _
                  refine XS.iconst X478.here hx rfl (hb hby at_627) ?_
                  show Steps p.tables e below (T478.setTop (mkF m 628 #[.val (.int p1), .val (.int p2), .val (.int p3), .val (.int p4), .val (.int (p1 &&& (7 : Int32))), .val (.ref sju), .val (.int flju), .val (.int (p2 &&& (15 : Int32))), .val (.ref rs__478), q9u, .unset, .unset, .unset] [(.int (0 : Int32))])) _
                  refine XS.istore X478.here hx rfl (hb hby at_628) rfl (l' := #[.val (.int p1), .val (.int p2), .val (.int p3), .val (.int p4), .val (.int (p1 &&& (7 : Int32))), .val (.ref sju), .val (.int flju), .val (.int (p2 &&& (15 : Int32))), .val (.ref rs__478), .val (.int (0 : Int32)), .unset, .unset, .unset]) (by rcases hqq9u with rfl | ⟨v_, rfl⟩ | ⟨v_, rfl⟩ <;> rfl) ?_
                  show Steps p.tables e below (T478.setTop (mkF m 630 #[.val (.int p1), .val (.int p2), .val (.int p3), .val (.int p4), .val (.int (p1 &&& (7 : Int32))), .val (.ref sju), .val (.int flju), .val (.int (p2 &&& (15 : Int32))), .val (.ref rs__478), .val (.int (0 : Int32)), .unset, .unset, .unset] [])) _
                  refine XS.goto X478.here hx rfl (pc0 := 630) (pc' := 793) rfl (hb hby at_630) (by decide) (by decide) ?_
                  exact k
                exact ⟨T478.vm, _, _, _, _, rs__478, b_478, n__478, f__478, (0 : Int32), (.unset), (.unset), (.unset), (X478.more (by decide) (by decide)), rfl, N478, Z478, Xo478, Si478, (Nat.le_refl _), hZ, hown, Cl478.1, f481, f482, f483, f484, fq478_0, fq478_1, fq478_2, fq478_3, (by omega), (Or.inr ⟨rfl, fun q => q.elim (own_not3 hq478_hn (by decide)) (own_not3 hq478_hn (by decide))⟩), (Or.inl rfl), (Or.inl rfl), (Or.inl rfl), k486⟩
              · have k487 : ∀ t, Steps p.tables e below (Tju.setTop (mkF m 637 #[.val (.int p1), .val (.int p2), .val (.int p3), .val (.int p4), .val (.int (p1 &&& (7 : Int32))), .val (.ref sju), .val (.int flju), .val (.int (p2 &&& (15 : Int32))), q8u, q9u, .unset, .unset, .unset] [(.int (6 : Int32)), (.int (p2 &&& (15 : Int32)))])) t → Steps p.tables e below (s₁.setTop (entryFrame m #[(.int p1), (.int p2), (.int p3), (.int p4)] maxLocals)) t := by
                  intro t k
                  refine k475 t ?_
                  show Steps p.tables e below (Tju.setTop (mkF m 613 #[.val (.int p1), .val (.int p2), .val (.int p3), .val (.int p4), .val (.int (p1 &&& (7 : Int32))), .val (.ref sju), .val (.int flju), .val (.int (p2 &&& (15 : Int32))), q8u, q9u, .unset, .unset, .unset] [(.int (5 : Int32)), (.int (p2 &&& (15 : Int32)))])) _
                  refine XS.icmpYes Xju.here hx rfl (pc0 := 613) (pc' := 633) rfl (hb hby at_613) rfl (feq hc613_476).2 (by decide) (by decide) ?_
                  show Steps p.tables e below (Tju.setTop (mkF m 633 #[.val (.int p1), .val (.int p2), .val (.int p3), .val (.int p4), .val (.int (p1 &&& (7 : Int32))), .val (.ref sju), .val (.int flju), .val (.int (p2 &&& (15 : Int32))), q8u, q9u, .unset, .unset, .unset] [])) _
                  refine XS.iload Xju.here hx rfl (hb hby at_633) rfl ?_
                  show Steps p.tables e below (Tju.setTop (mkF m 635 #[.val (.int p1), .val (.int p2), .val (.int p3), .val (.int p4), .val (.int (p1 &&& (7 : Int32))), .val (.ref sju), .val (.int flju), .val (.int (p2 &&& (15 : Int32))), q8u, q9u, .unset, .unset, .unset] [(.int (p2 &&& (15 : Int32)))])) _
                  refine XS.bipush Xju.here hx rfl (hb hby at_635) ?_
                  exact k
                by_cases hc637_488 : (p2 &&& (15 : Int32)) = (6 : Int32)
                · have k489 : ∀ t, Steps p.tables e below (Tju.setTop (mkF m 640 #[.val (.int p1), .val (.int p2), .val (.int p3), .val (.int p4), .val (.int (p1 &&& (7 : Int32))), .val (.ref sju), .val (.int flju), .val (.int (p2 &&& (15 : Int32))), q8u, q9u, .unset, .unset, .unset] [])) t → Steps p.tables e below (s₁.setTop (entryFrame m #[(.int p1), (.int p2), (.int p3), (.int p4)] maxLocals)) t := by
                    intro t k
                    refine k487 t ?_
                    show Steps p.tables e below (Tju.setTop (mkF m 637 #[.val (.int p1), .val (.int p2), .val (.int p3), .val (.int p4), .val (.int (p1 &&& (7 : Int32))), .val (.ref sju), .val (.int flju), .val (.int (p2 &&& (15 : Int32))), q8u, q9u, .unset, .unset, .unset] [(.int (6 : Int32)), (.int (p2 &&& (15 : Int32)))])) _
                    refine XS.icmpNo Xju.here hx rfl (hb hby at_637) rfl (teq hc637_488).2 ?_
                    exact k
                  obtain ⟨lt490, T490, h490, lb490, k1490, X490, e490, E490, Si490, hk490, Zw490, Ow490, Ea490, Fc490, Fv490, Gb490, Cl490, Li490, st490⟩ := own_ldcL (s := s) (vm0 := vmju) (text := "Address") (vs := own_tx7) (n := 7) (z := 7) Xju hx hZ hown hw (hw _ (List.mem_of_getElem? (i := 62) rfl)) (List.mem_of_getElem? (i := 10) rfl) eju Siju (Nat.le_trans (Nat.le_refl _) (hkju)) Hcju (by decide +kernel) (by first | rfl | decide +kernel) rfl rfl (g := (mkF m 640 #[.val (.int p1), .val (.int p2), .val (.int p3), .val (.int p4), .val (.int (p1 &&& (7 : Int32))), .val (.ref sju), .val (.int flju), .val (.int (p2 &&& (15 : Int32))), q8u, q9u, .unset, .unset, .unset] [])) rfl (hb hby at_640) (cap := 28) (by decide +kernel) (by decide) (by decide) (by decide)
                  have hZ : Z.Warmed39 (s.setVm T490.vm).vm := Zw490
                  have hown : (s.setVm T490.vm).vm.findClass "com/example/domicile/domicile/tei/TeiVocabularyMayBeRecordPinLaw" = some m.cls := Ow490
                  have f491 := fm1u.ext E490
                  have f492 := fm2u.ext E490
                  have f493 := fm3u.ext E490
                  have f494 := fm4u.ext E490
                  have Z490 : n0 ≤ h490.size := Nat.le_trans Zju E490.1
                  have K490 : Keep hju h490 [] := (Keep.refl hju []).ext E490
                  have Xo490 := Oju.ext E490
                  have k495 : ∀ t, Steps p.tables e below (T490.setTop (mkF m 642 #[.val (.int p1), .val (.int p2), .val (.int p3), .val (.int p4), .val (.int (p1 &&& (7 : Int32))), .val (.ref sju), .val (.int flju), .val (.int (p2 &&& (15 : Int32))), q8u, q9u, .unset, .unset, .unset] [(.ref lt490)])) t → Steps p.tables e below (s₁.setTop (entryFrame m #[(.int p1), (.int p2), (.int p3), (.int p4)] maxLocals)) t := fun t k => k489 t (st490 t k)
                  have k496 : ∀ t, Steps p.tables e below (T490.setTop (mkF m 793 #[.val (.int p1), .val (.int p2), .val (.int p3), .val (.int p4), .val (.int (p1 &&& (7 : Int32))), .val (.ref sju), .val (.int flju), .val (.int (p2 &&& (15 : Int32))), .val (.ref lt490), .val (.int (0 : Int32)), .unset, .unset, .unset] [])) t → Steps p.tables e below (s₁.setTop (entryFrame m #[(.int p1), (.int p2), (.int p3), (.int p4)] maxLocals)) t := by
                    intro t k
                    refine k495 t ?_
                    show Steps p.tables e below (T490.setTop (mkF m 642 #[.val (.int p1), .val (.int p2), .val (.int p3), .val (.int p4), .val (.int (p1 &&& (7 : Int32))), .val (.ref sju), .val (.int flju), .val (.int (p2 &&& (15 : Int32))), q8u, q9u, .unset, .unset, .unset] [(.ref lt490)])) _
                    refine XS.astore X490.here hx rfl (hb hby at_642) rfl rfl (l' := #[.val (.int p1), .val (.int p2), .val (.int p3), .val (.int p4), .val (.int (p1 &&& (7 : Int32))), .val (.ref sju), .val (.int flju), .val (.int (p2 &&& (15 : Int32))), .val (.ref lt490), q9u, .unset, .unset, .unset]) (by rcases hqq8u with rfl | ⟨v_, rfl⟩ | ⟨v_, rfl⟩ <;> rfl) ?_
                    show Steps p.tables e below (T490.setTop (mkF m 644 #[.val (.int p1), .val (.int p2), .val (.int p3), .val (.int p4), .val (.int (p1 &&& (7 : Int32))), .val (.ref sju), .val (.int flju), .val (.int (p2 &&& (15 : Int32))), .val (.ref lt490), q9u, .unset, .unset, .unset] [])) _
                    refine XS.iconst X490.here hx rfl (hb hby at_644) ?_
                    show Steps p.tables e below (T490.setTop (mkF m 645 #[.val (.int p1), .val (.int p2), .val (.int p3), .val (.int p4), .val (.int (p1 &&& (7 : Int32))), .val (.ref sju), .val (.int flju), .val (.int (p2 &&& (15 : Int32))), .val (.ref lt490), q9u, .unset, .unset, .unset] [(.int (0 : Int32))])) _
                    refine XS.istore X490.here hx rfl (hb hby at_645) rfl (l' := #[.val (.int p1), .val (.int p2), .val (.int p3), .val (.int p4), .val (.int (p1 &&& (7 : Int32))), .val (.ref sju), .val (.int flju), .val (.int (p2 &&& (15 : Int32))), .val (.ref lt490), .val (.int (0 : Int32)), .unset, .unset, .unset]) (by rcases hqq9u with rfl | ⟨v_, rfl⟩ | ⟨v_, rfl⟩ <;> rfl) ?_
                    show Steps p.tables e below (T490.setTop (mkF m 647 #[.val (.int p1), .val (.int p2), .val (.int p3), .val (.int p4), .val (.int (p1 &&& (7 : Int32))), .val (.ref sju), .val (.int flju), .val (.int (p2 &&& (15 : Int32))), .val (.ref lt490), .val (.int (0 : Int32)), .unset, .unset, .unset] [])) _
                    refine XS.goto X490.here hx rfl (pc0 := 647) (pc' := 793) rfl (hb hby at_647) (by decide) (by decide) ?_
                    exact k
                  exact ⟨T490.vm, _, _, _, _, lt490, lb490, 7, (own_of own_tx7), (0 : Int32), (.unset), (.unset), (.unset), (X490.more (by decide) (by decide)), e490, Nju, Z490, Xo490, Si490, (Nat.le_trans (Nat.le_refl _) (hk490)), hZ, hown, Cl490.1, f491, f492, f493, f494, Ea490, Fv490, Fc490, Gb490, (by omega), (Or.inr ⟨rfl, fun q => q.elim (fun q => absurd (q.2 0 (by decide)) (by decide)) (own_notL (by decide))⟩), (Or.inl rfl), (Or.inl rfl), (Or.inl rfl), k496⟩
                · have k497 : ∀ t, Steps p.tables e below (Tju.setTop (mkF m 654 #[.val (.int p1), .val (.int p2), .val (.int p3), .val (.int p4), .val (.int (p1 &&& (7 : Int32))), .val (.ref sju), .val (.int flju), .val (.int (p2 &&& (15 : Int32))), q8u, q9u, .unset, .unset, .unset] [(.int (7 : Int32)), (.int (p2 &&& (15 : Int32)))])) t → Steps p.tables e below (s₁.setTop (entryFrame m #[(.int p1), (.int p2), (.int p3), (.int p4)] maxLocals)) t := by
                    intro t k
                    refine k487 t ?_
                    show Steps p.tables e below (Tju.setTop (mkF m 637 #[.val (.int p1), .val (.int p2), .val (.int p3), .val (.int p4), .val (.int (p1 &&& (7 : Int32))), .val (.ref sju), .val (.int flju), .val (.int (p2 &&& (15 : Int32))), q8u, q9u, .unset, .unset, .unset] [(.int (6 : Int32)), (.int (p2 &&& (15 : Int32)))])) _
                    refine XS.icmpYes Xju.here hx rfl (pc0 := 637) (pc' := 650) rfl (hb hby at_637) rfl (feq hc637_488).2 (by decide) (by decide) ?_
                    show Steps p.tables e below (Tju.setTop (mkF m 650 #[.val (.int p1), .val (.int p2), .val (.int p3), .val (.int p4), .val (.int (p1 &&& (7 : Int32))), .val (.ref sju), .val (.int flju), .val (.int (p2 &&& (15 : Int32))), q8u, q9u, .unset, .unset, .unset] [])) _
                    refine XS.iload Xju.here hx rfl (hb hby at_650) rfl ?_
                    show Steps p.tables e below (Tju.setTop (mkF m 652 #[.val (.int p1), .val (.int p2), .val (.int p3), .val (.int p4), .val (.int (p1 &&& (7 : Int32))), .val (.ref sju), .val (.int flju), .val (.int (p2 &&& (15 : Int32))), q8u, q9u, .unset, .unset, .unset] [(.int (p2 &&& (15 : Int32)))])) _
                    refine XS.bipush Xju.here hx rfl (hb hby at_652) ?_
                    exact k
                  by_cases hc654_498 : (p2 &&& (15 : Int32)) = (7 : Int32)
                  · have k499 : ∀ t, Steps p.tables e below (Tju.setTop (mkF m 657 #[.val (.int p1), .val (.int p2), .val (.int p3), .val (.int p4), .val (.int (p1 &&& (7 : Int32))), .val (.ref sju), .val (.int flju), .val (.int (p2 &&& (15 : Int32))), q8u, q9u, .unset, .unset, .unset] [])) t → Steps p.tables e below (s₁.setTop (entryFrame m #[(.int p1), (.int p2), (.int p3), (.int p4)] maxLocals)) t := by
                      intro t k
                      refine k497 t ?_
                      show Steps p.tables e below (Tju.setTop (mkF m 654 #[.val (.int p1), .val (.int p2), .val (.int p3), .val (.int p4), .val (.int (p1 &&& (7 : Int32))), .val (.ref sju), .val (.int flju), .val (.int (p2 &&& (15 : Int32))), q8u, q9u, .unset, .unset, .unset] [(.int (7 : Int32)), (.int (p2 &&& (15 : Int32)))])) _
                      refine XS.icmpNo Xju.here hx rfl (hb hby at_654) rfl (teq hc654_498).2 ?_
                      exact k
                    obtain ⟨lt500, T500, h500, lb500, k1500, X500, e500, E500, Si500, hk500, Zw500, Ow500, Ea500, Fc500, Fv500, Gb500, Cl500, Li500, st500⟩ := own_ldcL (s := s) (vm0 := vmju) (text := "ADDRESS") (vs := own_tx8) (n := 7) (z := 7) Xju hx hZ hown hw (hw _ (List.mem_of_getElem? (i := 60) rfl)) (List.mem_of_getElem? (i := 11) rfl) eju Siju (Nat.le_trans (Nat.le_refl _) (hkju)) Hcju (by decide +kernel) (by first | rfl | decide +kernel) rfl rfl (g := (mkF m 657 #[.val (.int p1), .val (.int p2), .val (.int p3), .val (.int p4), .val (.int (p1 &&& (7 : Int32))), .val (.ref sju), .val (.int flju), .val (.int (p2 &&& (15 : Int32))), q8u, q9u, .unset, .unset, .unset] [])) rfl (hb hby at_657) (cap := 28) (by decide +kernel) (by decide) (by decide) (by decide)
                    have hZ : Z.Warmed39 (s.setVm T500.vm).vm := Zw500
                    have hown : (s.setVm T500.vm).vm.findClass "com/example/domicile/domicile/tei/TeiVocabularyMayBeRecordPinLaw" = some m.cls := Ow500
                    have f501 := fm1u.ext E500
                    have f502 := fm2u.ext E500
                    have f503 := fm3u.ext E500
                    have f504 := fm4u.ext E500
                    have Z500 : n0 ≤ h500.size := Nat.le_trans Zju E500.1
                    have K500 : Keep hju h500 [] := (Keep.refl hju []).ext E500
                    have Xo500 := Oju.ext E500
                    have k505 : ∀ t, Steps p.tables e below (T500.setTop (mkF m 659 #[.val (.int p1), .val (.int p2), .val (.int p3), .val (.int p4), .val (.int (p1 &&& (7 : Int32))), .val (.ref sju), .val (.int flju), .val (.int (p2 &&& (15 : Int32))), q8u, q9u, .unset, .unset, .unset] [(.ref lt500)])) t → Steps p.tables e below (s₁.setTop (entryFrame m #[(.int p1), (.int p2), (.int p3), (.int p4)] maxLocals)) t := fun t k => k499 t (st500 t k)
                    have k506 : ∀ t, Steps p.tables e below (T500.setTop (mkF m 793 #[.val (.int p1), .val (.int p2), .val (.int p3), .val (.int p4), .val (.int (p1 &&& (7 : Int32))), .val (.ref sju), .val (.int flju), .val (.int (p2 &&& (15 : Int32))), .val (.ref lt500), .val (.int (0 : Int32)), .unset, .unset, .unset] [])) t → Steps p.tables e below (s₁.setTop (entryFrame m #[(.int p1), (.int p2), (.int p3), (.int p4)] maxLocals)) t := by
                      intro t k
                      refine k505 t ?_
                      show Steps p.tables e below (T500.setTop (mkF m 659 #[.val (.int p1), .val (.int p2), .val (.int p3), .val (.int p4), .val (.int (p1 &&& (7 : Int32))), .val (.ref sju), .val (.int flju), .val (.int (p2 &&& (15 : Int32))), q8u, q9u, .unset, .unset, .unset] [(.ref lt500)])) _
                      refine XS.astore X500.here hx rfl (hb hby at_659) rfl rfl (l' := #[.val (.int p1), .val (.int p2), .val (.int p3), .val (.int p4), .val (.int (p1 &&& (7 : Int32))), .val (.ref sju), .val (.int flju), .val (.int (p2 &&& (15 : Int32))), .val (.ref lt500), q9u, .unset, .unset, .unset]) (by rcases hqq8u with rfl | ⟨v_, rfl⟩ | ⟨v_, rfl⟩ <;> rfl) ?_
                      show Steps p.tables e below (T500.setTop (mkF m 661 #[.val (.int p1), .val (.int p2), .val (.int p3), .val (.int p4), .val (.int (p1 &&& (7 : Int32))), .val (.ref sju), .val (.int flju), .val (.int (p2 &&& (15 : Int32))), .val (.ref lt500), q9u, .unset, .unset, .unset] [])) _
                      refine XS.iconst X500.here hx rfl (hb hby at_661) ?_
                      show Steps p.tables e below (T500.setTop (mkF m 662 #[.val (.int p1), .val (.int p2), .val (.int p3), .val (.int p4), .val (.int (p1 &&& (7 : Int32))), .val (.ref sju), .val (.int flju), .val (.int (p2 &&& (15 : Int32))), .val (.ref lt500), q9u, .unset, .unset, .unset] [(.int (0 : Int32))])) _
                      refine XS.istore X500.here hx rfl (hb hby at_662) rfl (l' := #[.val (.int p1), .val (.int p2), .val (.int p3), .val (.int p4), .val (.int (p1 &&& (7 : Int32))), .val (.ref sju), .val (.int flju), .val (.int (p2 &&& (15 : Int32))), .val (.ref lt500), .val (.int (0 : Int32)), .unset, .unset, .unset]) (by rcases hqq9u with rfl | ⟨v_, rfl⟩ | ⟨v_, rfl⟩ <;> rfl) ?_
                      show Steps p.tables e below (T500.setTop (mkF m 664 #[.val (.int p1), .val (.int p2), .val (.int p3), .val (.int p4), .val (.int (p1 &&& (7 : Int32))), .val (.ref sju), .val (.int flju), .val (.int (p2 &&& (15 : Int32))), .val (.ref lt500), .val (.int (0 : Int32)), .unset, .unset, .unset] [])) _
                      refine XS.goto X500.here hx rfl (pc0 := 664) (pc' := 793) rfl (hb hby at_664) (by decide) (by decide) ?_
                      exact k
                    exact ⟨T500.vm, _, _, _, _, lt500, lb500, 7, (own_of own_tx8), (0 : Int32), (.unset), (.unset), (.unset), (X500.more (by decide) (by decide)), e500, Nju, Z500, Xo500, Si500, (Nat.le_trans (Nat.le_refl _) (hk500)), hZ, hown, Cl500.1, f501, f502, f503, f504, Ea500, Fv500, Fc500, Gb500, (by omega), (Or.inr ⟨rfl, fun q => q.elim (fun q => absurd (q.2 0 (by decide)) (by decide)) (own_notL (by decide))⟩), (Or.inl rfl), (Or.inl rfl), (Or.inl rfl), k506⟩
                  · have k507 : ∀ t, Steps p.tables e below (Tju.setTop (mkF m 671 #[.val (.int p1), .val (.int p2), .val (.int p3), .val (.int p4), .val (.int (p1 &&& (7 : Int32))), .val (.ref sju), .val (.int flju), .val (.int (p2 &&& (15 : Int32))), q8u, q9u, .unset, .unset, .unset] [(.int (8 : Int32)), (.int (p2 &&& (15 : Int32)))])) t → Steps p.tables e below (s₁.setTop (entryFrame m #[(.int p1), (.int p2), (.int p3), (.int p4)] maxLocals)) t := by
                      intro t k
                      refine k497 t ?_
                      show Steps p.tables e below (Tju.setTop (mkF m 654 #[.val (.int p1), .val (.int p2), .val (.int p3), .val (.int p4), .val (.int (p1 &&& (7 : Int32))), .val (.ref sju), .val (.int flju), .val (.int (p2 &&& (15 : Int32))), q8u, q9u, .unset, .unset, .unset] [(.int (7 : Int32)), (.int (p2 &&& (15 : Int32)))])) _
                      refine XS.icmpYes Xju.here hx rfl (pc0 := 654) (pc' := 667) rfl (hb hby at_654) rfl (feq hc654_498).2 (by decide) (by decide) ?_
                      show Steps p.tables e below (Tju.setTop (mkF m 667 #[.val (.int p1), .val (.int p2), .val (.int p3), .val (.int p4), .val (.int (p1 &&& (7 : Int32))), .val (.ref sju), .val (.int flju), .val (.int (p2 &&& (15 : Int32))), q8u, q9u, .unset, .unset, .unset] [])) _
                      refine XS.iload Xju.here hx rfl (hb hby at_667) rfl ?_
                      show Steps p.tables e below (Tju.setTop (mkF m 669 #[.val (.int p1), .val (.int p2), .val (.int p3), .val (.int p4), .val (.int (p1 &&& (7 : Int32))), .val (.ref sju), .val (.int flju), .val (.int (p2 &&& (15 : Int32))), q8u, q9u, .unset, .unset, .unset] [(.int (p2 &&& (15 : Int32)))])) _
                      refine XS.bipush Xju.here hx rfl (hb hby at_669) ?_
                      exact k
                    by_cases hc671_508 : (p2 &&& (15 : Int32)) = (8 : Int32)
                    · have k509 : ∀ t, Steps p.tables e below (Tju.setTop (mkF m 674 #[.val (.int p1), .val (.int p2), .val (.int p3), .val (.int p4), .val (.int (p1 &&& (7 : Int32))), .val (.ref sju), .val (.int flju), .val (.int (p2 &&& (15 : Int32))), q8u, q9u, .unset, .unset, .unset] [])) t → Steps p.tables e below (s₁.setTop (entryFrame m #[(.int p1), (.int p2), (.int p3), (.int p4)] maxLocals)) t := by
                        intro t k
                        refine k507 t ?_
                        show Steps p.tables e below (Tju.setTop (mkF m 671 #[.val (.int p1), .val (.int p2), .val (.int p3), .val (.int p4), .val (.int (p1 &&& (7 : Int32))), .val (.ref sju), .val (.int flju), .val (.int (p2 &&& (15 : Int32))), q8u, q9u, .unset, .unset, .unset] [(.int (8 : Int32)), (.int (p2 &&& (15 : Int32)))])) _
                        refine XS.icmpNo Xju.here hx rfl (hb hby at_671) rfl (teq hc671_508).2 ?_
                        exact k
                      obtain ⟨lt510, T510, h510, lb510, k1510, X510, e510, E510, Si510, hk510, Zw510, Ow510, Ea510, Fc510, Fv510, Gb510, Cl510, Li510, st510⟩ := own_ldcL (s := s) (vm0 := vmju) (text := "addres") (vs := own_tx9) (n := 6) (z := 6) Xju hx hZ hown hw (hw _ (List.mem_of_getElem? (i := 63) rfl)) (List.mem_of_getElem? (i := 12) rfl) eju Siju (Nat.le_trans (Nat.le_refl _) (hkju)) Hcju (by decide +kernel) (by first | rfl | decide +kernel) rfl rfl (g := (mkF m 674 #[.val (.int p1), .val (.int p2), .val (.int p3), .val (.int p4), .val (.int (p1 &&& (7 : Int32))), .val (.ref sju), .val (.int flju), .val (.int (p2 &&& (15 : Int32))), q8u, q9u, .unset, .unset, .unset] [])) rfl (hb hby at_674) (cap := 24) (by decide +kernel) (by decide) (by decide) (by decide)
                      have hZ : Z.Warmed39 (s.setVm T510.vm).vm := Zw510
                      have hown : (s.setVm T510.vm).vm.findClass "com/example/domicile/domicile/tei/TeiVocabularyMayBeRecordPinLaw" = some m.cls := Ow510
                      have f511 := fm1u.ext E510
                      have f512 := fm2u.ext E510
                      have f513 := fm3u.ext E510
                      have f514 := fm4u.ext E510
                      have Z510 : n0 ≤ h510.size := Nat.le_trans Zju E510.1
                      have K510 : Keep hju h510 [] := (Keep.refl hju []).ext E510
                      have Xo510 := Oju.ext E510
                      have k515 : ∀ t, Steps p.tables e below (T510.setTop (mkF m 676 #[.val (.int p1), .val (.int p2), .val (.int p3), .val (.int p4), .val (.int (p1 &&& (7 : Int32))), .val (.ref sju), .val (.int flju), .val (.int (p2 &&& (15 : Int32))), q8u, q9u, .unset, .unset, .unset] [(.ref lt510)])) t → Steps p.tables e below (s₁.setTop (entryFrame m #[(.int p1), (.int p2), (.int p3), (.int p4)] maxLocals)) t := fun t k => k509 t (st510 t k)
                      have k516 : ∀ t, Steps p.tables e below (T510.setTop (mkF m 793 #[.val (.int p1), .val (.int p2), .val (.int p3), .val (.int p4), .val (.int (p1 &&& (7 : Int32))), .val (.ref sju), .val (.int flju), .val (.int (p2 &&& (15 : Int32))), .val (.ref lt510), .val (.int (0 : Int32)), .unset, .unset, .unset] [])) t → Steps p.tables e below (s₁.setTop (entryFrame m #[(.int p1), (.int p2), (.int p3), (.int p4)] maxLocals)) t := by
                        intro t k
                        refine k515 t ?_
                        show Steps p.tables e below (T510.setTop (mkF m 676 #[.val (.int p1), .val (.int p2), .val (.int p3), .val (.int p4), .val (.int (p1 &&& (7 : Int32))), .val (.ref sju), .val (.int flju), .val (.int (p2 &&& (15 : Int32))), q8u, q9u, .unset, .unset, .unset] [(.ref lt510)])) _
                        refine XS.astore X510.here hx rfl (hb hby at_676) rfl rfl (l' := #[.val (.int p1), .val (.int p2), .val (.int p3), .val (.int p4), .val (.int (p1 &&& (7 : Int32))), .val (.ref sju), .val (.int flju), .val (.int (p2 &&& (15 : Int32))), .val (.ref lt510), q9u, .unset, .unset, .unset]) (by rcases hqq8u with rfl | ⟨v_, rfl⟩ | ⟨v_, rfl⟩ <;> rfl) ?_
                        show Steps p.tables e below (T510.setTop (mkF m 678 #[.val (.int p1), .val (.int p2), .val (.int p3), .val (.int p4), .val (.int (p1 &&& (7 : Int32))), .val (.ref sju), .val (.int flju), .val (.int (p2 &&& (15 : Int32))), .val (.ref lt510), q9u, .unset, .unset, .unset] [])) _
                        refine XS.iconst X510.here hx rfl (hb hby at_678) ?_
                        show Steps p.tables e below (T510.setTop (mkF m 679 #[.val (.int p1), .val (.int p2), .val (.int p3), .val (.int p4), .val (.int (p1 &&& (7 : Int32))), .val (.ref sju), .val (.int flju), .val (.int (p2 &&& (15 : Int32))), .val (.ref lt510), q9u, .unset, .unset, .unset] [(.int (0 : Int32))])) _
                        refine XS.istore X510.here hx rfl (hb hby at_679) rfl (l' := #[.val (.int p1), .val (.int p2), .val (.int p3), .val (.int p4), .val (.int (p1 &&& (7 : Int32))), .val (.ref sju), .val (.int flju), .val (.int (p2 &&& (15 : Int32))), .val (.ref lt510), .val (.int (0 : Int32)), .unset, .unset, .unset]) (by rcases hqq9u with rfl | ⟨v_, rfl⟩ | ⟨v_, rfl⟩ <;> rfl) ?_
                        show Steps p.tables e below (T510.setTop (mkF m 681 #[.val (.int p1), .val (.int p2), .val (.int p3), .val (.int p4), .val (.int (p1 &&& (7 : Int32))), .val (.ref sju), .val (.int flju), .val (.int (p2 &&& (15 : Int32))), .val (.ref lt510), .val (.int (0 : Int32)), .unset, .unset, .unset] [])) _
                        refine XS.goto X510.here hx rfl (pc0 := 681) (pc' := 793) rfl (hb hby at_681) (by decide) (by decide) ?_
                        exact k
                      exact ⟨T510.vm, _, _, _, _, lt510, lb510, 6, (own_of own_tx9), (0 : Int32), (.unset), (.unset), (.unset), (X510.more (by decide) (by decide)), e510, Nju, Z510, Xo510, Si510, (Nat.le_trans (Nat.le_refl _) (hk510)), hZ, hown, Cl510.1, f511, f512, f513, f514, Ea510, Fv510, Fc510, Gb510, (by omega), (Or.inr ⟨rfl, fun q => q.elim (own_notL (by decide)) (own_notL (by decide))⟩), (Or.inl rfl), (Or.inl rfl), (Or.inl rfl), k516⟩
                    · have k517 : ∀ t, Steps p.tables e below (Tju.setTop (mkF m 688 #[.val (.int p1), .val (.int p2), .val (.int p3), .val (.int p4), .val (.int (p1 &&& (7 : Int32))), .val (.ref sju), .val (.int flju), .val (.int (p2 &&& (15 : Int32))), q8u, q9u, .unset, .unset, .unset] [(.int (9 : Int32)), (.int (p2 &&& (15 : Int32)))])) t → Steps p.tables e below (s₁.setTop (entryFrame m #[(.int p1), (.int p2), (.int p3), (.int p4)] maxLocals)) t := by
                        intro t k
                        refine k507 t ?_
                        show Steps p.tables e below (Tju.setTop (mkF m 671 #[.val (.int p1), .val (.int p2), .val (.int p3), .val (.int p4), .val (.int (p1 &&& (7 : Int32))), .val (.ref sju), .val (.int flju), .val (.int (p2 &&& (15 : Int32))), q8u, q9u, .unset, .unset, .unset] [(.int (8 : Int32)), (.int (p2 &&& (15 : Int32)))])) _
                        refine XS.icmpYes Xju.here hx rfl (pc0 := 671) (pc' := 684) rfl (hb hby at_671) rfl (feq hc671_508).2 (by decide) (by decide) ?_
                        show Steps p.tables e below (Tju.setTop (mkF m 684 #[.val (.int p1), .val (.int p2), .val (.int p3), .val (.int p4), .val (.int (p1 &&& (7 : Int32))), .val (.ref sju), .val (.int flju), .val (.int (p2 &&& (15 : Int32))), q8u, q9u, .unset, .unset, .unset] [])) _
                        refine XS.iload Xju.here hx rfl (hb hby at_684) rfl ?_
                        show Steps p.tables e below (Tju.setTop (mkF m 686 #[.val (.int p1), .val (.int p2), .val (.int p3), .val (.int p4), .val (.int (p1 &&& (7 : Int32))), .val (.ref sju), .val (.int flju), .val (.int (p2 &&& (15 : Int32))), q8u, q9u, .unset, .unset, .unset] [(.int (p2 &&& (15 : Int32)))])) _
                        refine XS.bipush Xju.here hx rfl (hb hby at_686) ?_
                        exact k
                      by_cases hc688_518 : (p2 &&& (15 : Int32)) = (9 : Int32)
                      · have k519 : ∀ t, Steps p.tables e below (Tju.setTop (mkF m 691 #[.val (.int p1), .val (.int p2), .val (.int p3), .val (.int p4), .val (.int (p1 &&& (7 : Int32))), .val (.ref sju), .val (.int flju), .val (.int (p2 &&& (15 : Int32))), q8u, q9u, .unset, .unset, .unset] [])) t → Steps p.tables e below (s₁.setTop (entryFrame m #[(.int p1), (.int p2), (.int p3), (.int p4)] maxLocals)) t := by
                          intro t k
                          refine k517 t ?_
                          show Steps p.tables e below (Tju.setTop (mkF m 688 #[.val (.int p1), .val (.int p2), .val (.int p3), .val (.int p4), .val (.int (p1 &&& (7 : Int32))), .val (.ref sju), .val (.int flju), .val (.int (p2 &&& (15 : Int32))), q8u, q9u, .unset, .unset, .unset] [(.int (9 : Int32)), (.int (p2 &&& (15 : Int32)))])) _
                          refine XS.icmpNo Xju.here hx rfl (hb hby at_688) rfl (teq hc688_518).2 ?_
                          exact k
                        obtain ⟨lt520, T520, h520, lb520, k1520, X520, e520, E520, Si520, hk520, Zw520, Ow520, Ea520, Fc520, Fv520, Gb520, Cl520, Li520, st520⟩ := own_ldcL (s := s) (vm0 := vmju) (text := "addresss") (vs := own_tx10) (n := 8) (z := 8) Xju hx hZ hown hw (hw _ (List.mem_of_getElem? (i := 73) rfl)) (List.mem_of_getElem? (i := 13) rfl) eju Siju (Nat.le_trans (Nat.le_refl _) (hkju)) Hcju (by decide +kernel) (by first | rfl | decide +kernel) rfl rfl (g := (mkF m 691 #[.val (.int p1), .val (.int p2), .val (.int p3), .val (.int p4), .val (.int (p1 &&& (7 : Int32))), .val (.ref sju), .val (.int flju), .val (.int (p2 &&& (15 : Int32))), q8u, q9u, .unset, .unset, .unset] [])) rfl (hb hby at_691) (cap := 32) (by decide +kernel) (by decide) (by decide) (by decide)
                        have hZ : Z.Warmed39 (s.setVm T520.vm).vm := Zw520
                        have hown : (s.setVm T520.vm).vm.findClass "com/example/domicile/domicile/tei/TeiVocabularyMayBeRecordPinLaw" = some m.cls := Ow520
                        have f521 := fm1u.ext E520
                        have f522 := fm2u.ext E520
                        have f523 := fm3u.ext E520
                        have f524 := fm4u.ext E520
                        have Z520 : n0 ≤ h520.size := Nat.le_trans Zju E520.1
                        have K520 : Keep hju h520 [] := (Keep.refl hju []).ext E520
                        have Xo520 := Oju.ext E520
                        have k525 : ∀ t, Steps p.tables e below (T520.setTop (mkF m 693 #[.val (.int p1), .val (.int p2), .val (.int p3), .val (.int p4), .val (.int (p1 &&& (7 : Int32))), .val (.ref sju), .val (.int flju), .val (.int (p2 &&& (15 : Int32))), q8u, q9u, .unset, .unset, .unset] [(.ref lt520)])) t → Steps p.tables e below (s₁.setTop (entryFrame m #[(.int p1), (.int p2), (.int p3), (.int p4)] maxLocals)) t := fun t k => k519 t (st520 t k)
                        have k526 : ∀ t, Steps p.tables e below (T520.setTop (mkF m 793 #[.val (.int p1), .val (.int p2), .val (.int p3), .val (.int p4), .val (.int (p1 &&& (7 : Int32))), .val (.ref sju), .val (.int flju), .val (.int (p2 &&& (15 : Int32))), .val (.ref lt520), .val (.int (0 : Int32)), .unset, .unset, .unset] [])) t → Steps p.tables e below (s₁.setTop (entryFrame m #[(.int p1), (.int p2), (.int p3), (.int p4)] maxLocals)) t := by
                          intro t k
                          refine k525 t ?_
                          show Steps p.tables e below (T520.setTop (mkF m 693 #[.val (.int p1), .val (.int p2), .val (.int p3), .val (.int p4), .val (.int (p1 &&& (7 : Int32))), .val (.ref sju), .val (.int flju), .val (.int (p2 &&& (15 : Int32))), q8u, q9u, .unset, .unset, .unset] [(.ref lt520)])) _
                          refine XS.astore X520.here hx rfl (hb hby at_693) rfl rfl (l' := #[.val (.int p1), .val (.int p2), .val (.int p3), .val (.int p4), .val (.int (p1 &&& (7 : Int32))), .val (.ref sju), .val (.int flju), .val (.int (p2 &&& (15 : Int32))), .val (.ref lt520), q9u, .unset, .unset, .unset]) (by rcases hqq8u with rfl | ⟨v_, rfl⟩ | ⟨v_, rfl⟩ <;> rfl) ?_
                          show Steps p.tables e below (T520.setTop (mkF m 695 #[.val (.int p1), .val (.int p2), .val (.int p3), .val (.int p4), .val (.int (p1 &&& (7 : Int32))), .val (.ref sju), .val (.int flju), .val (.int (p2 &&& (15 : Int32))), .val (.ref lt520), q9u, .unset, .unset, .unset] [])) _
                          refine XS.iconst X520.here hx rfl (hb hby at_695) ?_
                          show Steps p.tables e below (T520.setTop (mkF m 696 #[.val (.int p1), .val (.int p2), .val (.int p3), .val (.int p4), .val (.int (p1 &&& (7 : Int32))), .val (.ref sju), .val (.int flju), .val (.int (p2 &&& (15 : Int32))), .val (.ref lt520), q9u, .unset, .unset, .unset] [(.int (0 : Int32))])) _
                          refine XS.istore X520.here hx rfl (hb hby at_696) rfl (l' := #[.val (.int p1), .val (.int p2), .val (.int p3), .val (.int p4), .val (.int (p1 &&& (7 : Int32))), .val (.ref sju), .val (.int flju), .val (.int (p2 &&& (15 : Int32))), .val (.ref lt520), .val (.int (0 : Int32)), .unset, .unset, .unset]) (by rcases hqq9u with rfl | ⟨v_, rfl⟩ | ⟨v_, rfl⟩ <;> rfl) ?_
                          show Steps p.tables e below (T520.setTop (mkF m 698 #[.val (.int p1), .val (.int p2), .val (.int p3), .val (.int p4), .val (.int (p1 &&& (7 : Int32))), .val (.ref sju), .val (.int flju), .val (.int (p2 &&& (15 : Int32))), .val (.ref lt520), .val (.int (0 : Int32)), .unset, .unset, .unset] [])) _
                          refine XS.goto X520.here hx rfl (pc0 := 698) (pc' := 793) rfl (hb hby at_698) (by decide) (by decide) ?_
                          exact k
                        exact ⟨T520.vm, _, _, _, _, lt520, lb520, 8, (own_of own_tx10), (0 : Int32), (.unset), (.unset), (.unset), (X520.more (by decide) (by decide)), e520, Nju, Z520, Xo520, Si520, (Nat.le_trans (Nat.le_refl _) (hk520)), hZ, hown, Cl520.1, f521, f522, f523, f524, Ea520, Fv520, Fc520, Gb520, (by omega), (Or.inr ⟨rfl, fun q => q.elim (own_notL (by decide)) (own_notL (by decide))⟩), (Or.inl rfl), (Or.inl rfl), (Or.inl rfl), k526⟩
                      · have k527 : ∀ t, Steps p.tables e below (Tju.setTop (mkF m 705 #[.val (.int p1), .val (.int p2), .val (.int p3), .val (.int p4), .val (.int (p1 &&& (7 : Int32))), .val (.ref sju), .val (.int flju), .val (.int (p2 &&& (15 : Int32))), q8u, q9u, .unset, .unset, .unset] [(.int (10 : Int32)), (.int (p2 &&& (15 : Int32)))])) t → Steps p.tables e below (s₁.setTop (entryFrame m #[(.int p1), (.int p2), (.int p3), (.int p4)] maxLocals)) t := by
                          intro t k
                          refine k517 t ?_
                          show Steps p.tables e below (Tju.setTop (mkF m 688 #[.val (.int p1), .val (.int p2), .val (.int p3), .val (.int p4), .val (.int (p1 &&& (7 : Int32))), .val (.ref sju), .val (.int flju), .val (.int (p2 &&& (15 : Int32))), q8u, q9u, .unset, .unset, .unset] [(.int (9 : Int32)), (.int (p2 &&& (15 : Int32)))])) _
                          refine XS.icmpYes Xju.here hx rfl (pc0 := 688) (pc' := 701) rfl (hb hby at_688) rfl (feq hc688_518).2 (by decide) (by decide) ?_
                          show Steps p.tables e below (Tju.setTop (mkF m 701 #[.val (.int p1), .val (.int p2), .val (.int p3), .val (.int p4), .val (.int (p1 &&& (7 : Int32))), .val (.ref sju), .val (.int flju), .val (.int (p2 &&& (15 : Int32))), q8u, q9u, .unset, .unset, .unset] [])) _
                          refine XS.iload Xju.here hx rfl (hb hby at_701) rfl ?_
                          show Steps p.tables e below (Tju.setTop (mkF m 703 #[.val (.int p1), .val (.int p2), .val (.int p3), .val (.int p4), .val (.int (p1 &&& (7 : Int32))), .val (.ref sju), .val (.int flju), .val (.int (p2 &&& (15 : Int32))), q8u, q9u, .unset, .unset, .unset] [(.int (p2 &&& (15 : Int32)))])) _
                          refine XS.bipush Xju.here hx rfl (hb hby at_703) ?_
                          exact k
                        by_cases hc705_528 : (p2 &&& (15 : Int32)) = (10 : Int32)
                        · have k529 : ∀ t, Steps p.tables e below (Tju.setTop (mkF m 708 #[.val (.int p1), .val (.int p2), .val (.int p3), .val (.int p4), .val (.int (p1 &&& (7 : Int32))), .val (.ref sju), .val (.int flju), .val (.int (p2 &&& (15 : Int32))), q8u, q9u, .unset, .unset, .unset] [])) t → Steps p.tables e below (s₁.setTop (entryFrame m #[(.int p1), (.int p2), (.int p3), (.int p4)] maxLocals)) t := by
                            intro t k
                            refine k527 t ?_
                            show Steps p.tables e below (Tju.setTop (mkF m 705 #[.val (.int p1), .val (.int p2), .val (.int p3), .val (.int p4), .val (.int (p1 &&& (7 : Int32))), .val (.ref sju), .val (.int flju), .val (.int (p2 &&& (15 : Int32))), q8u, q9u, .unset, .unset, .unset] [(.int (10 : Int32)), (.int (p2 &&& (15 : Int32)))])) _
                            refine XS.icmpNo Xju.here hx rfl (hb hby at_705) rfl (teq hc705_528).2 ?_
                            exact k
                          obtain ⟨lt530, T530, h530, lb530, k1530, X530, e530, E530, Si530, hk530, Zw530, Ow530, Ea530, Fc530, Fv530, Gb530, Cl530, Li530, st530⟩ := own_ldcL (s := s) (vm0 := vmju) (text := "residenc") (vs := own_tx11) (n := 8) (z := 8) Xju hx hZ hown hw (hw _ (List.mem_of_getElem? (i := 75) rfl)) (List.mem_of_getElem? (i := 14) rfl) eju Siju (Nat.le_trans (Nat.le_refl _) (hkju)) Hcju (by decide +kernel) (by first | rfl | decide +kernel) rfl rfl (g := (mkF m 708 #[.val (.int p1), .val (.int p2), .val (.int p3), .val (.int p4), .val (.int (p1 &&& (7 : Int32))), .val (.ref sju), .val (.int flju), .val (.int (p2 &&& (15 : Int32))), q8u, q9u, .unset, .unset, .unset] [])) rfl (hb hby at_708) (cap := 32) (by decide +kernel) (by decide) (by decide) (by decide)
                          have hZ : Z.Warmed39 (s.setVm T530.vm).vm := Zw530
                          have hown : (s.setVm T530.vm).vm.findClass "com/example/domicile/domicile/tei/TeiVocabularyMayBeRecordPinLaw" = some m.cls := Ow530
                          have f531 := fm1u.ext E530
                          have f532 := fm2u.ext E530
                          have f533 := fm3u.ext E530
                          have f534 := fm4u.ext E530
                          have Z530 : n0 ≤ h530.size := Nat.le_trans Zju E530.1
                          have K530 : Keep hju h530 [] := (Keep.refl hju []).ext E530
                          have Xo530 := Oju.ext E530
                          have k535 : ∀ t, Steps p.tables e below (T530.setTop (mkF m 710 #[.val (.int p1), .val (.int p2), .val (.int p3), .val (.int p4), .val (.int (p1 &&& (7 : Int32))), .val (.ref sju), .val (.int flju), .val (.int (p2 &&& (15 : Int32))), q8u, q9u, .unset, .unset, .unset] [(.ref lt530)])) t → Steps p.tables e below (s₁.setTop (entryFrame m #[(.int p1), (.int p2), (.int p3), (.int p4)] maxLocals)) t := fun t k => k529 t (st530 t k)
                          have k536 : ∀ t, Steps p.tables e below (T530.setTop (mkF m 793 #[.val (.int p1), .val (.int p2), .val (.int p3), .val (.int p4), .val (.int (p1 &&& (7 : Int32))), .val (.ref sju), .val (.int flju), .val (.int (p2 &&& (15 : Int32))), .val (.ref lt530), .val (.int (0 : Int32)), .unset, .unset, .unset] [])) t → Steps p.tables e below (s₁.setTop (entryFrame m #[(.int p1), (.int p2), (.int p3), (.int p4)] maxLocals)) t := by
                            intro t k
                            refine k535 t ?_
                            show Steps p.tables e below (T530.setTop (mkF m 710 #[.val (.int p1), .val (.int p2), .val (.int p3), .val (.int p4), .val (.int (p1 &&& (7 : Int32))), .val (.ref sju), .val (.int flju), .val (.int (p2 &&& (15 : Int32))), q8u, q9u, .unset, .unset, .unset] [(.ref lt530)])) _
                            refine XS.astore X530.here hx rfl (hb hby at_710) rfl rfl (l' := #[.val (.int p1), .val (.int p2), .val (.int p3), .val (.int p4), .val (.int (p1 &&& (7 : Int32))), .val (.ref sju), .val (.int flju), .val (.int (p2 &&& (15 : Int32))), .val (.ref lt530), q9u, .unset, .unset, .unset]) (by rcases hqq8u with rfl | ⟨v_, rfl⟩ | ⟨v_, rfl⟩ <;> rfl) ?_
                            show Steps p.tables e below (T530.setTop (mkF m 712 #[.val (.int p1), .val (.int p2), .val (.int p3), .val (.int p4), .val (.int (p1 &&& (7 : Int32))), .val (.ref sju), .val (.int flju), .val (.int (p2 &&& (15 : Int32))), .val (.ref lt530), q9u, .unset, .unset, .unset] [])) _
                            refine XS.iconst X530.here hx rfl (hb hby at_712) ?_
                            show Steps p.tables e below (T530.setTop (mkF m 713 #[.val (.int p1), .val (.int p2), .val (.int p3), .val (.int p4), .val (.int (p1 &&& (7 : Int32))), .val (.ref sju), .val (.int flju), .val (.int (p2 &&& (15 : Int32))), .val (.ref lt530), q9u, .unset, .unset, .unset] [(.int (0 : Int32))])) _
                            refine XS.istore X530.here hx rfl (hb hby at_713) rfl (l' := #[.val (.int p1), .val (.int p2), .val (.int p3), .val (.int p4), .val (.int (p1 &&& (7 : Int32))), .val (.ref sju), .val (.int flju), .val (.int (p2 &&& (15 : Int32))), .val (.ref lt530), .val (.int (0 : Int32)), .unset, .unset, .unset]) (by rcases hqq9u with rfl | ⟨v_, rfl⟩ | ⟨v_, rfl⟩ <;> rfl) ?_
                            show Steps p.tables e below (T530.setTop (mkF m 715 #[.val (.int p1), .val (.int p2), .val (.int p3), .val (.int p4), .val (.int (p1 &&& (7 : Int32))), .val (.ref sju), .val (.int flju), .val (.int (p2 &&& (15 : Int32))), .val (.ref lt530), .val (.int (0 : Int32)), .unset, .unset, .unset] [])) _
                            refine XS.goto X530.here hx rfl (pc0 := 715) (pc' := 793) rfl (hb hby at_715) (by decide) (by decide) ?_
                            exact k
                          exact ⟨T530.vm, _, _, _, _, lt530, lb530, 8, (own_of own_tx11), (0 : Int32), (.unset), (.unset), (.unset), (X530.more (by decide) (by decide)), e530, Nju, Z530, Xo530, Si530, (Nat.le_trans (Nat.le_refl _) (hk530)), hZ, hown, Cl530.1, f531, f532, f533, f534, Ea530, Fv530, Fc530, Gb530, (by omega), (Or.inr ⟨rfl, fun q => q.elim (own_notL (by decide)) (own_notL (by decide))⟩), (Or.inl rfl), (Or.inl rfl), (Or.inl rfl), k536⟩
                        · have k537 : ∀ t, Steps p.tables e below (Tju.setTop (mkF m 722 #[.val (.int p1), .val (.int p2), .val (.int p3), .val (.int p4), .val (.int (p1 &&& (7 : Int32))), .val (.ref sju), .val (.int flju), .val (.int (p2 &&& (15 : Int32))), q8u, q9u, .unset, .unset, .unset] [(.int (11 : Int32)), (.int (p2 &&& (15 : Int32)))])) t → Steps p.tables e below (s₁.setTop (entryFrame m #[(.int p1), (.int p2), (.int p3), (.int p4)] maxLocals)) t := by
                            intro t k
                            refine k527 t ?_
                            show Steps p.tables e below (Tju.setTop (mkF m 705 #[.val (.int p1), .val (.int p2), .val (.int p3), .val (.int p4), .val (.int (p1 &&& (7 : Int32))), .val (.ref sju), .val (.int flju), .val (.int (p2 &&& (15 : Int32))), q8u, q9u, .unset, .unset, .unset] [(.int (10 : Int32)), (.int (p2 &&& (15 : Int32)))])) _
                            refine XS.icmpYes Xju.here hx rfl (pc0 := 705) (pc' := 718) rfl (hb hby at_705) rfl (feq hc705_528).2 (by decide) (by decide) ?_
                            show Steps p.tables e below (Tju.setTop (mkF m 718 #[.val (.int p1), .val (.int p2), .val (.int p3), .val (.int p4), .val (.int (p1 &&& (7 : Int32))), .val (.ref sju), .val (.int flju), .val (.int (p2 &&& (15 : Int32))), q8u, q9u, .unset, .unset, .unset] [])) _
                            refine XS.iload Xju.here hx rfl (hb hby at_718) rfl ?_
                            show Steps p.tables e below (Tju.setTop (mkF m 720 #[.val (.int p1), .val (.int p2), .val (.int p3), .val (.int p4), .val (.int (p1 &&& (7 : Int32))), .val (.ref sju), .val (.int flju), .val (.int (p2 &&& (15 : Int32))), q8u, q9u, .unset, .unset, .unset] [(.int (p2 &&& (15 : Int32)))])) _
                            refine XS.bipush Xju.here hx rfl (hb hby at_720) ?_
                            exact k
                          by_cases hc722_538 : (p2 &&& (15 : Int32)) = (11 : Int32)
                          · have k539 : ∀ t, Steps p.tables e below (Tju.setTop (mkF m 725 #[.val (.int p1), .val (.int p2), .val (.int p3), .val (.int p4), .val (.int (p1 &&& (7 : Int32))), .val (.ref sju), .val (.int flju), .val (.int (p2 &&& (15 : Int32))), q8u, q9u, .unset, .unset, .unset] [])) t → Steps p.tables e below (s₁.setTop (entryFrame m #[(.int p1), (.int p2), (.int p3), (.int p4)] maxLocals)) t := by
                              intro t k
                              refine k537 t ?_
                              show Steps p.tables e below (Tju.setTop (mkF m 722 #[.val (.int p1), .val (.int p2), .val (.int p3), .val (.int p4), .val (.int (p1 &&& (7 : Int32))), .val (.ref sju), .val (.int flju), .val (.int (p2 &&& (15 : Int32))), q8u, q9u, .unset, .unset, .unset] [(.int (11 : Int32)), (.int (p2 &&& (15 : Int32)))])) _
                              refine XS.icmpNo Xju.here hx rfl (hb hby at_722) rfl (teq hc722_538).2 ?_
                              exact k
                            obtain ⟨lt540, T540, h540, lb540, k1540, X540, e540, E540, Si540, hk540, Zw540, Ow540, Ea540, Fc540, Fv540, Gb540, Cl540, Li540, st540⟩ := own_ldcL (s := s) (vm0 := vmju) (text := "residences") (vs := own_tx12) (n := 10) (z := 10) Xju hx hZ hown hw (hw _ (List.mem_of_getElem? (i := 74) rfl)) (List.mem_of_getElem? (i := 15) rfl) eju Siju (Nat.le_trans (Nat.le_refl _) (hkju)) Hcju (by decide +kernel) (by first | rfl | decide +kernel) rfl rfl (g := (mkF m 725 #[.val (.int p1), .val (.int p2), .val (.int p3), .val (.int p4), .val (.int (p1 &&& (7 : Int32))), .val (.ref sju), .val (.int flju), .val (.int (p2 &&& (15 : Int32))), q8u, q9u, .unset, .unset, .unset] [])) rfl (hb hby at_725) (cap := 40) (by decide +kernel) (by decide) (by decide) (by decide)
                            have hZ : Z.Warmed39 (s.setVm T540.vm).vm := Zw540
                            have hown : (s.setVm T540.vm).vm.findClass "com/example/domicile/domicile/tei/TeiVocabularyMayBeRecordPinLaw" = some m.cls := Ow540
                            have f541 := fm1u.ext E540
                            have f542 := fm2u.ext E540
                            have f543 := fm3u.ext E540
                            have f544 := fm4u.ext E540
                            have Z540 : n0 ≤ h540.size := Nat.le_trans Zju E540.1
                            have K540 : Keep hju h540 [] := (Keep.refl hju []).ext E540
                            have Xo540 := Oju.ext E540
                            have k545 : ∀ t, Steps p.tables e below (T540.setTop (mkF m 727 #[.val (.int p1), .val (.int p2), .val (.int p3), .val (.int p4), .val (.int (p1 &&& (7 : Int32))), .val (.ref sju), .val (.int flju), .val (.int (p2 &&& (15 : Int32))), q8u, q9u, .unset, .unset, .unset] [(.ref lt540)])) t → Steps p.tables e below (s₁.setTop (entryFrame m #[(.int p1), (.int p2), (.int p3), (.int p4)] maxLocals)) t := fun t k => k539 t (st540 t k)
                            have k546 : ∀ t, Steps p.tables e below (T540.setTop (mkF m 793 #[.val (.int p1), .val (.int p2), .val (.int p3), .val (.int p4), .val (.int (p1 &&& (7 : Int32))), .val (.ref sju), .val (.int flju), .val (.int (p2 &&& (15 : Int32))), .val (.ref lt540), .val (.int (0 : Int32)), .unset, .unset, .unset] [])) t → Steps p.tables e below (s₁.setTop (entryFrame m #[(.int p1), (.int p2), (.int p3), (.int p4)] maxLocals)) t := by
                              intro t k
                              refine k545 t ?_
                              show Steps p.tables e below (T540.setTop (mkF m 727 #[.val (.int p1), .val (.int p2), .val (.int p3), .val (.int p4), .val (.int (p1 &&& (7 : Int32))), .val (.ref sju), .val (.int flju), .val (.int (p2 &&& (15 : Int32))), q8u, q9u, .unset, .unset, .unset] [(.ref lt540)])) _
                              refine XS.astore X540.here hx rfl (hb hby at_727) rfl rfl (l' := #[.val (.int p1), .val (.int p2), .val (.int p3), .val (.int p4), .val (.int (p1 &&& (7 : Int32))), .val (.ref sju), .val (.int flju), .val (.int (p2 &&& (15 : Int32))), .val (.ref lt540), q9u, .unset, .unset, .unset]) (by rcases hqq8u with rfl | ⟨v_, rfl⟩ | ⟨v_, rfl⟩ <;> rfl) ?_
                              show Steps p.tables e below (T540.setTop (mkF m 729 #[.val (.int p1), .val (.int p2), .val (.int p3), .val (.int p4), .val (.int (p1 &&& (7 : Int32))), .val (.ref sju), .val (.int flju), .val (.int (p2 &&& (15 : Int32))), .val (.ref lt540), q9u, .unset, .unset, .unset] [])) _
                              refine XS.iconst X540.here hx rfl (hb hby at_729) ?_
                              show Steps p.tables e below (T540.setTop (mkF m 730 #[.val (.int p1), .val (.int p2), .val (.int p3), .val (.int p4), .val (.int (p1 &&& (7 : Int32))), .val (.ref sju), .val (.int flju), .val (.int (p2 &&& (15 : Int32))), .val (.ref lt540), q9u, .unset, .unset, .unset] [(.int (0 : Int32))])) _
                              refine XS.istore X540.here hx rfl (hb hby at_730) rfl (l' := #[.val (.int p1), .val (.int p2), .val (.int p3), .val (.int p4), .val (.int (p1 &&& (7 : Int32))), .val (.ref sju), .val (.int flju), .val (.int (p2 &&& (15 : Int32))), .val (.ref lt540), .val (.int (0 : Int32)), .unset, .unset, .unset]) (by rcases hqq9u with rfl | ⟨v_, rfl⟩ | ⟨v_, rfl⟩ <;> rfl) ?_
                              show Steps p.tables e below (T540.setTop (mkF m 732 #[.val (.int p1), .val (.int p2), .val (.int p3), .val (.int p4), .val (.int (p1 &&& (7 : Int32))), .val (.ref sju), .val (.int flju), .val (.int (p2 &&& (15 : Int32))), .val (.ref lt540), .val (.int (0 : Int32)), .unset, .unset, .unset] [])) _
                              refine XS.goto X540.here hx rfl (pc0 := 732) (pc' := 793) rfl (hb hby at_732) (by decide) (by decide) ?_
                              exact k
                            exact ⟨T540.vm, _, _, _, _, lt540, lb540, 10, (own_of own_tx12), (0 : Int32), (.unset), (.unset), (.unset), (X540.more (by decide) (by decide)), e540, Nju, Z540, Xo540, Si540, (Nat.le_trans (Nat.le_refl _) (hk540)), hZ, hown, Cl540.1, f541, f542, f543, f544, Ea540, Fv540, Fc540, Gb540, (by omega), (Or.inr ⟨rfl, fun q => q.elim (own_notL (by decide)) (own_notL (by decide))⟩), (Or.inl rfl), (Or.inl rfl), (Or.inl rfl), k546⟩
                          · have k547 : ∀ t, Steps p.tables e below (Tju.setTop (mkF m 739 #[.val (.int p1), .val (.int p2), .val (.int p3), .val (.int p4), .val (.int (p1 &&& (7 : Int32))), .val (.ref sju), .val (.int flju), .val (.int (p2 &&& (15 : Int32))), q8u, q9u, .unset, .unset, .unset] [(.int (12 : Int32)), (.int (p2 &&& (15 : Int32)))])) t → Steps p.tables e below (s₁.setTop (entryFrame m #[(.int p1), (.int p2), (.int p3), (.int p4)] maxLocals)) t := by
                              intro t k
                              refine k537 t ?_
                              show Steps p.tables e below (Tju.setTop (mkF m 722 #[.val (.int p1), .val (.int p2), .val (.int p3), .val (.int p4), .val (.int (p1 &&& (7 : Int32))), .val (.ref sju), .val (.int flju), .val (.int (p2 &&& (15 : Int32))), q8u, q9u, .unset, .unset, .unset] [(.int (11 : Int32)), (.int (p2 &&& (15 : Int32)))])) _
                              refine XS.icmpYes Xju.here hx rfl (pc0 := 722) (pc' := 735) rfl (hb hby at_722) rfl (feq hc722_538).2 (by decide) (by decide) ?_
                              show Steps p.tables e below (Tju.setTop (mkF m 735 #[.val (.int p1), .val (.int p2), .val (.int p3), .val (.int p4), .val (.int (p1 &&& (7 : Int32))), .val (.ref sju), .val (.int flju), .val (.int (p2 &&& (15 : Int32))), q8u, q9u, .unset, .unset, .unset] [])) _
                              refine XS.iload Xju.here hx rfl (hb hby at_735) rfl ?_
                              show Steps p.tables e below (Tju.setTop (mkF m 737 #[.val (.int p1), .val (.int p2), .val (.int p3), .val (.int p4), .val (.int (p1 &&& (7 : Int32))), .val (.ref sju), .val (.int flju), .val (.int (p2 &&& (15 : Int32))), q8u, q9u, .unset, .unset, .unset] [(.int (p2 &&& (15 : Int32)))])) _
                              refine XS.bipush Xju.here hx rfl (hb hby at_737) ?_
                              exact k
                            by_cases hc739_548 : (p2 &&& (15 : Int32)) = (12 : Int32)
                            · have k549 : ∀ t, Steps p.tables e below (Tju.setTop (mkF m 742 #[.val (.int p1), .val (.int p2), .val (.int p3), .val (.int p4), .val (.int (p1 &&& (7 : Int32))), .val (.ref sju), .val (.int flju), .val (.int (p2 &&& (15 : Int32))), q8u, q9u, .unset, .unset, .unset] [])) t → Steps p.tables e below (s₁.setTop (entryFrame m #[(.int p1), (.int p2), (.int p3), (.int p4)] maxLocals)) t := by
                                intro t k
                                refine k547 t ?_
                                show Steps p.tables e below (Tju.setTop (mkF m 739 #[.val (.int p1), .val (.int p2), .val (.int p3), .val (.int p4), .val (.int (p1 &&& (7 : Int32))), .val (.ref sju), .val (.int flju), .val (.int (p2 &&& (15 : Int32))), q8u, q9u, .unset, .unset, .unset] [(.int (12 : Int32)), (.int (p2 &&& (15 : Int32)))])) _
                                refine XS.icmpNo Xju.here hx rfl (hb hby at_739) rfl (teq hc739_548).2 ?_
                                exact k
                              obtain ⟨lt550, T550, h550, lb550, k1550, X550, e550, E550, Si550, hk550, Zw550, Ow550, Ea550, Fc550, Fv550, Gb550, Cl550, Li550, st550⟩ := own_ldcL (s := s) (vm0 := vmju) (text := "addrLine") (vs := own_tx13) (n := 8) (z := 8) Xju hx hZ hown hw (hw _ (List.mem_of_getElem? (i := 72) rfl)) (List.mem_of_getElem? (i := 16) rfl) eju Siju (Nat.le_trans (Nat.le_refl _) (hkju)) Hcju (by decide +kernel) (by first | rfl | decide +kernel) rfl rfl (g := (mkF m 742 #[.val (.int p1), .val (.int p2), .val (.int p3), .val (.int p4), .val (.int (p1 &&& (7 : Int32))), .val (.ref sju), .val (.int flju), .val (.int (p2 &&& (15 : Int32))), q8u, q9u, .unset, .unset, .unset] [])) rfl (hb hby at_742) (cap := 32) (by decide +kernel) (by decide) (by decide) (by decide)
                              have hZ : Z.Warmed39 (s.setVm T550.vm).vm := Zw550
                              have hown : (s.setVm T550.vm).vm.findClass "com/example/domicile/domicile/tei/TeiVocabularyMayBeRecordPinLaw" = some m.cls := Ow550
                              have f551 := fm1u.ext E550
                              have f552 := fm2u.ext E550
                              have f553 := fm3u.ext E550
                              have f554 := fm4u.ext E550
                              have Z550 : n0 ≤ h550.size := Nat.le_trans Zju E550.1
                              have K550 : Keep hju h550 [] := (Keep.refl hju []).ext E550
                              have Xo550 := Oju.ext E550
                              have k555 : ∀ t, Steps p.tables e below (T550.setTop (mkF m 744 #[.val (.int p1), .val (.int p2), .val (.int p3), .val (.int p4), .val (.int (p1 &&& (7 : Int32))), .val (.ref sju), .val (.int flju), .val (.int (p2 &&& (15 : Int32))), q8u, q9u, .unset, .unset, .unset] [(.ref lt550)])) t → Steps p.tables e below (s₁.setTop (entryFrame m #[(.int p1), (.int p2), (.int p3), (.int p4)] maxLocals)) t := fun t k => k549 t (st550 t k)
                              have k556 : ∀ t, Steps p.tables e below (T550.setTop (mkF m 793 #[.val (.int p1), .val (.int p2), .val (.int p3), .val (.int p4), .val (.int (p1 &&& (7 : Int32))), .val (.ref sju), .val (.int flju), .val (.int (p2 &&& (15 : Int32))), .val (.ref lt550), .val (.int (0 : Int32)), .unset, .unset, .unset] [])) t → Steps p.tables e below (s₁.setTop (entryFrame m #[(.int p1), (.int p2), (.int p3), (.int p4)] maxLocals)) t := by
                                intro t k
                                refine k555 t ?_
                                show Steps p.tables e below (T550.setTop (mkF m 744 #[.val (.int p1), .val (.int p2), .val (.int p3), .val (.int p4), .val (.int (p1 &&& (7 : Int32))), .val (.ref sju), .val (.int flju), .val (.int (p2 &&& (15 : Int32))), q8u, q9u, .unset, .unset, .unset] [(.ref lt550)])) _
                                refine XS.astore X550.here hx rfl (hb hby at_744) rfl rfl (l' := #[.val (.int p1), .val (.int p2), .val (.int p3), .val (.int p4), .val (.int (p1 &&& (7 : Int32))), .val (.ref sju), .val (.int flju), .val (.int (p2 &&& (15 : Int32))), .val (.ref lt550), q9u, .unset, .unset, .unset]) (by rcases hqq8u with rfl | ⟨v_, rfl⟩ | ⟨v_, rfl⟩ <;> rfl) ?_
                                show Steps p.tables e below (T550.setTop (mkF m 746 #[.val (.int p1), .val (.int p2), .val (.int p3), .val (.int p4), .val (.int (p1 &&& (7 : Int32))), .val (.ref sju), .val (.int flju), .val (.int (p2 &&& (15 : Int32))), .val (.ref lt550), q9u, .unset, .unset, .unset] [])) _
                                refine XS.iconst X550.here hx rfl (hb hby at_746) ?_
                                show Steps p.tables e below (T550.setTop (mkF m 747 #[.val (.int p1), .val (.int p2), .val (.int p3), .val (.int p4), .val (.int (p1 &&& (7 : Int32))), .val (.ref sju), .val (.int flju), .val (.int (p2 &&& (15 : Int32))), .val (.ref lt550), q9u, .unset, .unset, .unset] [(.int (0 : Int32))])) _
                                refine XS.istore X550.here hx rfl (hb hby at_747) rfl (l' := #[.val (.int p1), .val (.int p2), .val (.int p3), .val (.int p4), .val (.int (p1 &&& (7 : Int32))), .val (.ref sju), .val (.int flju), .val (.int (p2 &&& (15 : Int32))), .val (.ref lt550), .val (.int (0 : Int32)), .unset, .unset, .unset]) (by rcases hqq9u with rfl | ⟨v_, rfl⟩ | ⟨v_, rfl⟩ <;> rfl) ?_
                                show Steps p.tables e below (T550.setTop (mkF m 749 #[.val (.int p1), .val (.int p2), .val (.int p3), .val (.int p4), .val (.int (p1 &&& (7 : Int32))), .val (.ref sju), .val (.int flju), .val (.int (p2 &&& (15 : Int32))), .val (.ref lt550), .val (.int (0 : Int32)), .unset, .unset, .unset] [])) _
                                refine XS.goto X550.here hx rfl (pc0 := 749) (pc' := 793) rfl (hb hby at_749) (by decide) (by decide) ?_
                                exact k
                              exact ⟨T550.vm, _, _, _, _, lt550, lb550, 8, (own_of own_tx13), (0 : Int32), (.unset), (.unset), (.unset), (X550.more (by decide) (by decide)), e550, Nju, Z550, Xo550, Si550, (Nat.le_trans (Nat.le_refl _) (hk550)), hZ, hown, Cl550.1, f551, f552, f553, f554, Ea550, Fv550, Fc550, Gb550, (by omega), (Or.inr ⟨rfl, fun q => q.elim (own_notL (by decide)) (own_notL (by decide))⟩), (Or.inl rfl), (Or.inl rfl), (Or.inl rfl), k556⟩
                            · have k557 : ∀ t, Steps p.tables e below (Tju.setTop (mkF m 756 #[.val (.int p1), .val (.int p2), .val (.int p3), .val (.int p4), .val (.int (p1 &&& (7 : Int32))), .val (.ref sju), .val (.int flju), .val (.int (p2 &&& (15 : Int32))), q8u, q9u, .unset, .unset, .unset] [(.int (13 : Int32)), (.int (p2 &&& (15 : Int32)))])) t → Steps p.tables e below (s₁.setTop (entryFrame m #[(.int p1), (.int p2), (.int p3), (.int p4)] maxLocals)) t := by
                                intro t k
                                refine k547 t ?_
                                show Steps p.tables e below (Tju.setTop (mkF m 739 #[.val (.int p1), .val (.int p2), .val (.int p3), .val (.int p4), .val (.int (p1 &&& (7 : Int32))), .val (.ref sju), .val (.int flju), .val (.int (p2 &&& (15 : Int32))), q8u, q9u, .unset, .unset, .unset] [(.int (12 : Int32)), (.int (p2 &&& (15 : Int32)))])) _
                                refine XS.icmpYes Xju.here hx rfl (pc0 := 739) (pc' := 752) rfl (hb hby at_739) rfl (feq hc739_548).2 (by decide) (by decide) ?_
                                show Steps p.tables e below (Tju.setTop (mkF m 752 #[.val (.int p1), .val (.int p2), .val (.int p3), .val (.int p4), .val (.int (p1 &&& (7 : Int32))), .val (.ref sju), .val (.int flju), .val (.int (p2 &&& (15 : Int32))), q8u, q9u, .unset, .unset, .unset] [])) _
                                refine XS.iload Xju.here hx rfl (hb hby at_752) rfl ?_
                                show Steps p.tables e below (Tju.setTop (mkF m 754 #[.val (.int p1), .val (.int p2), .val (.int p3), .val (.int p4), .val (.int (p1 &&& (7 : Int32))), .val (.ref sju), .val (.int flju), .val (.int (p2 &&& (15 : Int32))), q8u, q9u, .unset, .unset, .unset] [(.int (p2 &&& (15 : Int32)))])) _
                                refine XS.bipush Xju.here hx rfl (hb hby at_754) ?_
                                exact k
                              by_cases hc756_558 : (p2 &&& (15 : Int32)) = (13 : Int32)
                              · have k559 : ∀ t, Steps p.tables e below (Tju.setTop (mkF m 759 #[.val (.int p1), .val (.int p2), .val (.int p3), .val (.int p4), .val (.int (p1 &&& (7 : Int32))), .val (.ref sju), .val (.int flju), .val (.int (p2 &&& (15 : Int32))), q8u, q9u, .unset, .unset, .unset] [])) t → Steps p.tables e below (s₁.setTop (entryFrame m #[(.int p1), (.int p2), (.int p3), (.int p4)] maxLocals)) t := by
                                  intro t k
                                  refine k557 t ?_
                                  show Steps p.tables e below (Tju.setTop (mkF m 756 #[.val (.int p1), .val (.int p2), .val (.int p3), .val (.int p4), .val (.int (p1 &&& (7 : Int32))), .val (.ref sju), .val (.int flju), .val (.int (p2 &&& (15 : Int32))), q8u, q9u, .unset, .unset, .unset] [(.int (13 : Int32)), (.int (p2 &&& (15 : Int32)))])) _
                                  refine XS.icmpNo Xju.here hx rfl (hb hby at_756) rfl (teq hc756_558).2 ?_
                                  exact k
                                obtain ⟨lt560, T560, h560, lb560, k1560, X560, e560, E560, Si560, hk560, Zw560, Ow560, Ea560, Fc560, Fv560, Gb560, Cl560, Li560, st560⟩ := own_ldcL (s := s) (vm0 := vmju) (text := "http://www.tei-c.org/ns/1.0") (vs := own_tx0) (n := 27) (z := 27) Xju hx hZ hown hw (hw _ (List.mem_of_getElem? (i := 0) rfl)) (List.mem_of_getElem? (i := 3) rfl) eju Siju (Nat.le_trans (Nat.le_refl _) (hkju)) Hcju (by decide +kernel) (by first | rfl | decide +kernel) rfl rfl (g := (mkF m 759 #[.val (.int p1), .val (.int p2), .val (.int p3), .val (.int p4), .val (.int (p1 &&& (7 : Int32))), .val (.ref sju), .val (.int flju), .val (.int (p2 &&& (15 : Int32))), q8u, q9u, .unset, .unset, .unset] [])) rfl (hb hby at_759) (cap := 108) (by decide +kernel) (by decide) (by decide) (by decide)
                                have hZ : Z.Warmed39 (s.setVm T560.vm).vm := Zw560
                                have hown : (s.setVm T560.vm).vm.findClass "com/example/domicile/domicile/tei/TeiVocabularyMayBeRecordPinLaw" = some m.cls := Ow560
                                have f561 := fm1u.ext E560
                                have f562 := fm2u.ext E560
                                have f563 := fm3u.ext E560
                                have f564 := fm4u.ext E560
                                have Z560 : n0 ≤ h560.size := Nat.le_trans Zju E560.1
                                have K560 : Keep hju h560 [] := (Keep.refl hju []).ext E560
                                have Xo560 := Oju.ext E560
                                have k565 : ∀ t, Steps p.tables e below (T560.setTop (mkF m 761 #[.val (.int p1), .val (.int p2), .val (.int p3), .val (.int p4), .val (.int (p1 &&& (7 : Int32))), .val (.ref sju), .val (.int flju), .val (.int (p2 &&& (15 : Int32))), q8u, q9u, .unset, .unset, .unset] [(.ref lt560)])) t → Steps p.tables e below (s₁.setTop (entryFrame m #[(.int p1), (.int p2), (.int p3), (.int p4)] maxLocals)) t := fun t k => k559 t (st560 t k)
                                have k566 : ∀ t, Steps p.tables e below (T560.setTop (mkF m 793 #[.val (.int p1), .val (.int p2), .val (.int p3), .val (.int p4), .val (.int (p1 &&& (7 : Int32))), .val (.ref sju), .val (.int flju), .val (.int (p2 &&& (15 : Int32))), .val (.ref lt560), .val (.int (0 : Int32)), .unset, .unset, .unset] [])) t → Steps p.tables e below (s₁.setTop (entryFrame m #[(.int p1), (.int p2), (.int p3), (.int p4)] maxLocals)) t := by
                                  intro t k
                                  refine k565 t ?_
                                  show Steps p.tables e below (T560.setTop (mkF m 761 #[.val (.int p1), .val (.int p2), .val (.int p3), .val (.int p4), .val (.int (p1 &&& (7 : Int32))), .val (.ref sju), .val (.int flju), .val (.int (p2 &&& (15 : Int32))), q8u, q9u, .unset, .unset, .unset] [(.ref lt560)])) _
                                  refine XS.astore X560.here hx rfl (hb hby at_761) rfl rfl (l' := #[.val (.int p1), .val (.int p2), .val (.int p3), .val (.int p4), .val (.int (p1 &&& (7 : Int32))), .val (.ref sju), .val (.int flju), .val (.int (p2 &&& (15 : Int32))), .val (.ref lt560), q9u, .unset, .unset, .unset]) (by rcases hqq8u with rfl | ⟨v_, rfl⟩ | ⟨v_, rfl⟩ <;> rfl) ?_
                                  show Steps p.tables e below (T560.setTop (mkF m 763 #[.val (.int p1), .val (.int p2), .val (.int p3), .val (.int p4), .val (.int (p1 &&& (7 : Int32))), .val (.ref sju), .val (.int flju), .val (.int (p2 &&& (15 : Int32))), .val (.ref lt560), q9u, .unset, .unset, .unset] [])) _
                                  refine XS.iconst X560.here hx rfl (hb hby at_763) ?_
                                  show Steps p.tables e below (T560.setTop (mkF m 764 #[.val (.int p1), .val (.int p2), .val (.int p3), .val (.int p4), .val (.int (p1 &&& (7 : Int32))), .val (.ref sju), .val (.int flju), .val (.int (p2 &&& (15 : Int32))), .val (.ref lt560), q9u, .unset, .unset, .unset] [(.int (0 : Int32))])) _
                                  refine XS.istore X560.here hx rfl (hb hby at_764) rfl (l' := #[.val (.int p1), .val (.int p2), .val (.int p3), .val (.int p4), .val (.int (p1 &&& (7 : Int32))), .val (.ref sju), .val (.int flju), .val (.int (p2 &&& (15 : Int32))), .val (.ref lt560), .val (.int (0 : Int32)), .unset, .unset, .unset]) (by rcases hqq9u with rfl | ⟨v_, rfl⟩ | ⟨v_, rfl⟩ <;> rfl) ?_
                                  show Steps p.tables e below (T560.setTop (mkF m 766 #[.val (.int p1), .val (.int p2), .val (.int p3), .val (.int p4), .val (.int (p1 &&& (7 : Int32))), .val (.ref sju), .val (.int flju), .val (.int (p2 &&& (15 : Int32))), .val (.ref lt560), .val (.int (0 : Int32)), .unset, .unset, .unset] [])) _
                                  refine XS.goto X560.here hx rfl (pc0 := 766) (pc' := 793) rfl (hb hby at_766) (by decide) (by decide) ?_
                                  exact k
                                exact ⟨T560.vm, _, _, _, _, lt560, lb560, 27, (own_of own_tx0), (0 : Int32), (.unset), (.unset), (.unset), (X560.more (by decide) (by decide)), e560, Nju, Z560, Xo560, Si560, (Nat.le_trans (Nat.le_refl _) (hk560)), hZ, hown, Cl560.1, f561, f562, f563, f564, Ea560, Fv560, Fc560, Gb560, (by omega), (Or.inr ⟨rfl, fun q => q.elim (own_notL (by decide)) (own_notL (by decide))⟩), (Or.inl rfl), (Or.inl rfl), (Or.inl rfl), k566⟩
                              · have k567 : ∀ t, Steps p.tables e below (Tju.setTop (mkF m 773 #[.val (.int p1), .val (.int p2), .val (.int p3), .val (.int p4), .val (.int (p1 &&& (7 : Int32))), .val (.ref sju), .val (.int flju), .val (.int (p2 &&& (15 : Int32))), q8u, q9u, .unset, .unset, .unset] [(.int (14 : Int32)), (.int (p2 &&& (15 : Int32)))])) t → Steps p.tables e below (s₁.setTop (entryFrame m #[(.int p1), (.int p2), (.int p3), (.int p4)] maxLocals)) t := by
                                  intro t k
                                  refine k557 t ?_
                                  show Steps p.tables e below (Tju.setTop (mkF m 756 #[.val (.int p1), .val (.int p2), .val (.int p3), .val (.int p4), .val (.int (p1 &&& (7 : Int32))), .val (.ref sju), .val (.int flju), .val (.int (p2 &&& (15 : Int32))), q8u, q9u, .unset, .unset, .unset] [(.int (13 : Int32)), (.int (p2 &&& (15 : Int32)))])) _
                                  refine XS.icmpYes Xju.here hx rfl (pc0 := 756) (pc' := 769) rfl (hb hby at_756) rfl (feq hc756_558).2 (by decide) (by decide) ?_
                                  show Steps p.tables e below (Tju.setTop (mkF m 769 #[.val (.int p1), .val (.int p2), .val (.int p3), .val (.int p4), .val (.int (p1 &&& (7 : Int32))), .val (.ref sju), .val (.int flju), .val (.int (p2 &&& (15 : Int32))), q8u, q9u, .unset, .unset, .unset] [])) _
                                  refine XS.iload Xju.here hx rfl (hb hby at_769) rfl ?_
                                  show Steps p.tables e below (Tju.setTop (mkF m 771 #[.val (.int p1), .val (.int p2), .val (.int p3), .val (.int p4), .val (.int (p1 &&& (7 : Int32))), .val (.ref sju), .val (.int flju), .val (.int (p2 &&& (15 : Int32))), q8u, q9u, .unset, .unset, .unset] [(.int (p2 &&& (15 : Int32)))])) _
                                  refine XS.bipush Xju.here hx rfl (hb hby at_771) ?_
                                  exact k
                                by_cases hc773_568 : (p2 &&& (15 : Int32)) = (14 : Int32)
                                · have k569 : ∀ t, Steps p.tables e below (Tju.setTop (mkF m 776 #[.val (.int p1), .val (.int p2), .val (.int p3), .val (.int p4), .val (.int (p1 &&& (7 : Int32))), .val (.ref sju), .val (.int flju), .val (.int (p2 &&& (15 : Int32))), q8u, q9u, .unset, .unset, .unset] [])) t → Steps p.tables e below (s₁.setTop (entryFrame m #[(.int p1), (.int p2), (.int p3), (.int p4)] maxLocals)) t := by
                                    intro t k
                                    refine k567 t ?_
                                    show Steps p.tables e below (Tju.setTop (mkF m 773 #[.val (.int p1), .val (.int p2), .val (.int p3), .val (.int p4), .val (.int (p1 &&& (7 : Int32))), .val (.ref sju), .val (.int flju), .val (.int (p2 &&& (15 : Int32))), q8u, q9u, .unset, .unset, .unset] [(.int (14 : Int32)), (.int (p2 &&& (15 : Int32)))])) _
                                    refine XS.icmpNo Xju.here hx rfl (hb hby at_773) rfl (teq hc773_568).2 ?_
                                    exact k
                                  obtain ⟨lt570, T570, h570, lb570, k1570, X570, e570, E570, Si570, hk570, Zw570, Ow570, Ea570, Fc570, Fv570, Gb570, Cl570, Li570, st570⟩ := own_ldcL (s := s) (vm0 := vmju) (text := "Residence") (vs := own_tx14) (n := 9) (z := 9) Xju hx hZ hown hw (hw _ (List.mem_of_getElem? (i := 77) rfl)) (List.mem_of_getElem? (i := 17) rfl) eju Siju (Nat.le_trans (Nat.le_refl _) (hkju)) Hcju (by decide +kernel) (by first | rfl | decide +kernel) rfl rfl (g := (mkF m 776 #[.val (.int p1), .val (.int p2), .val (.int p3), .val (.int p4), .val (.int (p1 &&& (7 : Int32))), .val (.ref sju), .val (.int flju), .val (.int (p2 &&& (15 : Int32))), q8u, q9u, .unset, .unset, .unset] [])) rfl (hb hby at_776) (cap := 36) (by decide +kernel) (by decide) (by decide) (by decide)
                                  have hZ : Z.Warmed39 (s.setVm T570.vm).vm := Zw570
                                  have hown : (s.setVm T570.vm).vm.findClass "com/example/domicile/domicile/tei/TeiVocabularyMayBeRecordPinLaw" = some m.cls := Ow570
                                  have f571 := fm1u.ext E570
                                  have f572 := fm2u.ext E570
                                  have f573 := fm3u.ext E570
                                  have f574 := fm4u.ext E570
                                  have Z570 : n0 ≤ h570.size := Nat.le_trans Zju E570.1
                                  have K570 : Keep hju h570 [] := (Keep.refl hju []).ext E570
                                  have Xo570 := Oju.ext E570
                                  have k575 : ∀ t, Steps p.tables e below (T570.setTop (mkF m 778 #[.val (.int p1), .val (.int p2), .val (.int p3), .val (.int p4), .val (.int (p1 &&& (7 : Int32))), .val (.ref sju), .val (.int flju), .val (.int (p2 &&& (15 : Int32))), q8u, q9u, .unset, .unset, .unset] [(.ref lt570)])) t → Steps p.tables e below (s₁.setTop (entryFrame m #[(.int p1), (.int p2), (.int p3), (.int p4)] maxLocals)) t := fun t k => k569 t (st570 t k)
                                  have k576 : ∀ t, Steps p.tables e below (T570.setTop (mkF m 793 #[.val (.int p1), .val (.int p2), .val (.int p3), .val (.int p4), .val (.int (p1 &&& (7 : Int32))), .val (.ref sju), .val (.int flju), .val (.int (p2 &&& (15 : Int32))), .val (.ref lt570), .val (.int (0 : Int32)), .unset, .unset, .unset] [])) t → Steps p.tables e below (s₁.setTop (entryFrame m #[(.int p1), (.int p2), (.int p3), (.int p4)] maxLocals)) t := by
                                    intro t k
                                    refine k575 t ?_
                                    show Steps p.tables e below (T570.setTop (mkF m 778 #[.val (.int p1), .val (.int p2), .val (.int p3), .val (.int p4), .val (.int (p1 &&& (7 : Int32))), .val (.ref sju), .val (.int flju), .val (.int (p2 &&& (15 : Int32))), q8u, q9u, .unset, .unset, .unset] [(.ref lt570)])) _
                                    refine XS.astore X570.here hx rfl (hb hby at_778) rfl rfl (l' := #[.val (.int p1), .val (.int p2), .val (.int p3), .val (.int p4), .val (.int (p1 &&& (7 : Int32))), .val (.ref sju), .val (.int flju), .val (.int (p2 &&& (15 : Int32))), .val (.ref lt570), q9u, .unset, .unset, .unset]) (by rcases hqq8u with rfl | ⟨v_, rfl⟩ | ⟨v_, rfl⟩ <;> rfl) ?_
                                    show Steps p.tables e below (T570.setTop (mkF m 780 #[.val (.int p1), .val (.int p2), .val (.int p3), .val (.int p4), .val (.int (p1 &&& (7 : Int32))), .val (.ref sju), .val (.int flju), .val (.int (p2 &&& (15 : Int32))), .val (.ref lt570), q9u, .unset, .unset, .unset] [])) _
                                    refine XS.iconst X570.here hx rfl (hb hby at_780) ?_
                                    show Steps p.tables e below (T570.setTop (mkF m 781 #[.val (.int p1), .val (.int p2), .val (.int p3), .val (.int p4), .val (.int (p1 &&& (7 : Int32))), .val (.ref sju), .val (.int flju), .val (.int (p2 &&& (15 : Int32))), .val (.ref lt570), q9u, .unset, .unset, .unset] [(.int (0 : Int32))])) _
                                    refine XS.istore X570.here hx rfl (hb hby at_781) rfl (l' := #[.val (.int p1), .val (.int p2), .val (.int p3), .val (.int p4), .val (.int (p1 &&& (7 : Int32))), .val (.ref sju), .val (.int flju), .val (.int (p2 &&& (15 : Int32))), .val (.ref lt570), .val (.int (0 : Int32)), .unset, .unset, .unset]) (by rcases hqq9u with rfl | ⟨v_, rfl⟩ | ⟨v_, rfl⟩ <;> rfl) ?_
                                    show Steps p.tables e below (T570.setTop (mkF m 783 #[.val (.int p1), .val (.int p2), .val (.int p3), .val (.int p4), .val (.int (p1 &&& (7 : Int32))), .val (.ref sju), .val (.int flju), .val (.int (p2 &&& (15 : Int32))), .val (.ref lt570), .val (.int (0 : Int32)), .unset, .unset, .unset] [])) _
                                    refine XS.goto X570.here hx rfl (pc0 := 783) (pc' := 793) rfl (hb hby at_783) (by decide) (by decide) ?_
                                    exact k
                                  exact ⟨T570.vm, _, _, _, _, lt570, lb570, 9, (own_of own_tx14), (0 : Int32), (.unset), (.unset), (.unset), (X570.more (by decide) (by decide)), e570, Nju, Z570, Xo570, Si570, (Nat.le_trans (Nat.le_refl _) (hk570)), hZ, hown, Cl570.1, f571, f572, f573, f574, Ea570, Fv570, Fc570, Gb570, (by omega), (Or.inr ⟨rfl, fun q => q.elim (own_notL (by decide)) (fun q => absurd (q.2 0 (by decide)) (by decide))⟩), (Or.inl rfl), (Or.inl rfl), (Or.inl rfl), k576⟩
                                · have k577 : ∀ t, Steps p.tables e below (Tju.setTop (mkF m 786 #[.val (.int p1), .val (.int p2), .val (.int p3), .val (.int p4), .val (.int (p1 &&& (7 : Int32))), .val (.ref sju), .val (.int flju), .val (.int (p2 &&& (15 : Int32))), q8u, q9u, .unset, .unset, .unset] [])) t → Steps p.tables e below (s₁.setTop (entryFrame m #[(.int p1), (.int p2), (.int p3), (.int p4)] maxLocals)) t := by
                                    intro t k
                                    refine k567 t ?_
                                    show Steps p.tables e below (Tju.setTop (mkF m 773 #[.val (.int p1), .val (.int p2), .val (.int p3), .val (.int p4), .val (.int (p1 &&& (7 : Int32))), .val (.ref sju), .val (.int flju), .val (.int (p2 &&& (15 : Int32))), q8u, q9u, .unset, .unset, .unset] [(.int (14 : Int32)), (.int (p2 &&& (15 : Int32)))])) _
                                    refine XS.icmpYes Xju.here hx rfl (pc0 := 773) (pc' := 786) rfl (hb hby at_773) rfl (feq hc773_568).2 (by decide) (by decide) ?_
                                    exact k
                                  obtain ⟨lt578, T578, h578, lb578, k1578, X578, e578, E578, Si578, hk578, Zw578, Ow578, Ea578, Fc578, Fv578, Gb578, Cl578, Li578, st578⟩ := own_ldcL (s := s) (vm0 := vmju) (text := "tei:address") (vs := own_tx15) (n := 11) (z := 11) Xju hx hZ hown hw (hw _ (List.mem_of_getElem? (i := 70) rfl)) (List.mem_of_getElem? (i := 18) rfl) eju Siju (Nat.le_trans (Nat.le_refl _) (hkju)) Hcju (by decide +kernel) (by first | rfl | decide +kernel) rfl rfl (g := (mkF m 786 #[.val (.int p1), .val (.int p2), .val (.int p3), .val (.int p4), .val (.int (p1 &&& (7 : Int32))), .val (.ref sju), .val (.int flju), .val (.int (p2 &&& (15 : Int32))), q8u, q9u, .unset, .unset, .unset] [])) rfl (hb hby at_786) (cap := 44) (by decide +kernel) (by decide) (by decide) (by decide)
                                  have hZ : Z.Warmed39 (s.setVm T578.vm).vm := Zw578
                                  have hown : (s.setVm T578.vm).vm.findClass "com/example/domicile/domicile/tei/TeiVocabularyMayBeRecordPinLaw" = some m.cls := Ow578
                                  have f579 := fm1u.ext E578
                                  have f580 := fm2u.ext E578
                                  have f581 := fm3u.ext E578
                                  have f582 := fm4u.ext E578
                                  have Z578 : n0 ≤ h578.size := Nat.le_trans Zju E578.1
                                  have K578 : Keep hju h578 [] := (Keep.refl hju []).ext E578
                                  have Xo578 := Oju.ext E578
                                  have k583 : ∀ t, Steps p.tables e below (T578.setTop (mkF m 788 #[.val (.int p1), .val (.int p2), .val (.int p3), .val (.int p4), .val (.int (p1 &&& (7 : Int32))), .val (.ref sju), .val (.int flju), .val (.int (p2 &&& (15 : Int32))), q8u, q9u, .unset, .unset, .unset] [(.ref lt578)])) t → Steps p.tables e below (s₁.setTop (entryFrame m #[(.int p1), (.int p2), (.int p3), (.int p4)] maxLocals)) t := fun t k => k577 t (st578 t k)
                                  have k584 : ∀ t, Steps p.tables e below (T578.setTop (mkF m 793 #[.val (.int p1), .val (.int p2), .val (.int p3), .val (.int p4), .val (.int (p1 &&& (7 : Int32))), .val (.ref sju), .val (.int flju), .val (.int (p2 &&& (15 : Int32))), .val (.ref lt578), .val (.int (0 : Int32)), .unset, .unset, .unset] [])) t → Steps p.tables e below (s₁.setTop (entryFrame m #[(.int p1), (.int p2), (.int p3), (.int p4)] maxLocals)) t := by
                                    intro t k
                                    refine k583 t ?_
                                    show Steps p.tables e below (T578.setTop (mkF m 788 #[.val (.int p1), .val (.int p2), .val (.int p3), .val (.int p4), .val (.int (p1 &&& (7 : Int32))), .val (.ref sju), .val (.int flju), .val (.int (p2 &&& (15 : Int32))), q8u, q9u, .unset, .unset, .unset] [(.ref lt578)])) _
                                    refine XS.astore X578.here hx rfl (hb hby at_788) rfl rfl (l' := #[.val (.int p1), .val (.int p2), .val (.int p3), .val (.int p4), .val (.int (p1 &&& (7 : Int32))), .val (.ref sju), .val (.int flju), .val (.int (p2 &&& (15 : Int32))), .val (.ref lt578), q9u, .unset, .unset, .unset]) (by rcases hqq8u with rfl | ⟨v_, rfl⟩ | ⟨v_, rfl⟩ <;> rfl) ?_
                                    show Steps p.tables e below (T578.setTop (mkF m 790 #[.val (.int p1), .val (.int p2), .val (.int p3), .val (.int p4), .val (.int (p1 &&& (7 : Int32))), .val (.ref sju), .val (.int flju), .val (.int (p2 &&& (15 : Int32))), .val (.ref lt578), q9u, .unset, .unset, .unset] [])) _
                                    refine XS.iconst X578.here hx rfl (hb hby at_790) ?_
                                    show Steps p.tables e below (T578.setTop (mkF m 791 #[.val (.int p1), .val (.int p2), .val (.int p3), .val (.int p4), .val (.int (p1 &&& (7 : Int32))), .val (.ref sju), .val (.int flju), .val (.int (p2 &&& (15 : Int32))), .val (.ref lt578), q9u, .unset, .unset, .unset] [(.int (0 : Int32))])) _
                                    refine XS.istore X578.here hx rfl (hb hby at_791) rfl (l' := #[.val (.int p1), .val (.int p2), .val (.int p3), .val (.int p4), .val (.int (p1 &&& (7 : Int32))), .val (.ref sju), .val (.int flju), .val (.int (p2 &&& (15 : Int32))), .val (.ref lt578), .val (.int (0 : Int32)), .unset, .unset, .unset]) (by rcases hqq9u with rfl | ⟨v_, rfl⟩ | ⟨v_, rfl⟩ <;> rfl) ?_
                                    exact k
                                  exact ⟨T578.vm, _, _, _, _, lt578, lb578, 11, (own_of own_tx15), (0 : Int32), (.unset), (.unset), (.unset), (X578.more (by decide) (by decide)), e578, Nju, Z578, Xo578, Si578, (Nat.le_trans (Nat.le_refl _) (hk578)), hZ, hown, Cl578.1, f579, f580, f581, f582, Ea578, Fv578, Fc578, Gb578, (by omega), (Or.inr ⟨rfl, fun q => q.elim (own_notL (by decide)) (own_notL (by decide))⟩), (Or.inl rfl), (Or.inl rfl), (Or.inl rfl), k584⟩
  obtain ⟨vmjv, kkjv, Tjv, Ljv, hjv, sjv, bjv, njv, fjv, fljv, q10v, q11v, q12v, Xjv, ejv, Njv, Zjv, Ojv, Sijv, hkjv, Zwjv, Owjv, Hcjv, fo0v, fo1v, fo2v, fo3v, fm1v, fm2v, fm3v, fm4v, hnjv, hcljv, hqq10v, hqq11v, hqq12v, kjv⟩ := sg585
  have hZ : Z.Warmed39 (s.setVm vmjv).vm := Zwjv
  have hown : (s.setVm vmjv).vm.findClass "com/example/domicile/domicile/tei/TeiVocabularyMayBeRecordPinLaw" = some m.cls := Owjv
  have k586 : ∀ t, Steps p.tables e below (Tjv.setTop (mkF m 808 #[.val (.int p1), .val (.int p2), .val (.int p3), .val (.int p4), .val (.int (p1 &&& (7 : Int32))), .val (.ref sju), .val (.int flju), .val (.int (p2 &&& (15 : Int32))), .val (.ref sjv), .val (.int fljv), q10v, q11v, q12v] [(.int (own_ex flju fljv))])) t → Steps p.tables e below (s₁.setTop (entryFrame m #[(.int p1), (.int p2), (.int p3), (.int p4)] maxLocals)) t := by
    intro t k
    refine kjv t ?_
    show Steps p.tables e below (Tjv.setTop (mkF m 793 #[.val (.int p1), .val (.int p2), .val (.int p3), .val (.int p4), .val (.int (p1 &&& (7 : Int32))), .val (.ref sju), .val (.int flju), .val (.int (p2 &&& (15 : Int32))), .val (.ref sjv), .val (.int fljv), q10v, q11v, q12v] [])) _
    refine XS.iload Xjv.here hx rfl (hb hby at_793) rfl ?_
    by_cases hc795_587 : flju = (0 : Int32)
    · show Steps p.tables e below (Tjv.setTop (mkF m 795 #[.val (.int p1), .val (.int p2), .val (.int p3), .val (.int p4), .val (.int (p1 &&& (7 : Int32))), .val (.ref sju), .val (.int flju), .val (.int (p2 &&& (15 : Int32))), .val (.ref sjv), .val (.int fljv), q10v, q11v, q12v] [(.int flju)])) _
      refine XS.ifYes Xjv.here hx rfl (pc0 := 795) (pc' := 807) rfl (hb hby at_795) rfl ((if0 _ _).trans (teq hc795_587).1) (by decide) (by decide) ?_
      show Steps p.tables e below (Tjv.setTop (mkF m 807 #[.val (.int p1), .val (.int p2), .val (.int p3), .val (.int p4), .val (.int (p1 &&& (7 : Int32))), .val (.ref sju), .val (.int flju), .val (.int (p2 &&& (15 : Int32))), .val (.ref sjv), .val (.int fljv), q10v, q11v, q12v] [])) _
      refine XS.iconst Xjv.here hx rfl (hb hby at_807) ?_
      have q0 : (own_ex flju fljv) = (0 : Int32) := (if_pos hc795_587)
      rw [q0] at k
      exact k
    · show Steps p.tables e below (Tjv.setTop (mkF m 795 #[.val (.int p1), .val (.int p2), .val (.int p3), .val (.int p4), .val (.int (p1 &&& (7 : Int32))), .val (.ref sju), .val (.int flju), .val (.int (p2 &&& (15 : Int32))), .val (.ref sjv), .val (.int fljv), q10v, q11v, q12v] [(.int flju)])) _
      refine XS.ifNo Xjv.here hx rfl (hb hby at_795) rfl ((if0 _ _).trans (feq hc795_587).1) ?_
      show Steps p.tables e below (Tjv.setTop (mkF m 798 #[.val (.int p1), .val (.int p2), .val (.int p3), .val (.int p4), .val (.int (p1 &&& (7 : Int32))), .val (.ref sju), .val (.int flju), .val (.int (p2 &&& (15 : Int32))), .val (.ref sjv), .val (.int fljv), q10v, q11v, q12v] [])) _
      refine XS.iload Xjv.here hx rfl (hb hby at_798) rfl ?_
      by_cases hc800_588 : fljv = (0 : Int32)
      · show Steps p.tables e below (Tjv.setTop (mkF m 800 #[.val (.int p1), .val (.int p2), .val (.int p3), .val (.int p4), .val (.int (p1 &&& (7 : Int32))), .val (.ref sju), .val (.int flju), .val (.int (p2 &&& (15 : Int32))), .val (.ref sjv), .val (.int fljv), q10v, q11v, q12v] [(.int fljv)])) _
        refine XS.ifYes Xjv.here hx rfl (pc0 := 800) (pc' := 807) rfl (hb hby at_800) rfl ((if0 _ _).trans (teq hc800_588).1) (by decide) (by decide) ?_
        show Steps p.tables e below (Tjv.setTop (mkF m 807 #[.val (.int p1), .val (.int p2), .val (.int p3), .val (.int p4), .val (.int (p1 &&& (7 : Int32))), .val (.ref sju), .val (.int flju), .val (.int (p2 &&& (15 : Int32))), .val (.ref sjv), .val (.int fljv), q10v, q11v, q12v] [])) _
        refine XS.iconst Xjv.here hx rfl (hb hby at_807) ?_
        have q0 : (own_ex flju fljv) = (0 : Int32) := ((if_neg hc795_587).trans (if_pos hc800_588))
        rw [q0] at k
        exact k
      · show Steps p.tables e below (Tjv.setTop (mkF m 800 #[.val (.int p1), .val (.int p2), .val (.int p3), .val (.int p4), .val (.int (p1 &&& (7 : Int32))), .val (.ref sju), .val (.int flju), .val (.int (p2 &&& (15 : Int32))), .val (.ref sjv), .val (.int fljv), q10v, q11v, q12v] [(.int fljv)])) _
        refine XS.ifNo Xjv.here hx rfl (hb hby at_800) rfl ((if0 _ _).trans (feq hc800_588).1) ?_
        show Steps p.tables e below (Tjv.setTop (mkF m 803 #[.val (.int p1), .val (.int p2), .val (.int p3), .val (.int p4), .val (.int (p1 &&& (7 : Int32))), .val (.ref sju), .val (.int flju), .val (.int (p2 &&& (15 : Int32))), .val (.ref sjv), .val (.int fljv), q10v, q11v, q12v] [])) _
        refine XS.iconst Xjv.here hx rfl (hb hby at_803) ?_
        show Steps p.tables e below (Tjv.setTop (mkF m 804 #[.val (.int p1), .val (.int p2), .val (.int p3), .val (.int p4), .val (.int (p1 &&& (7 : Int32))), .val (.ref sju), .val (.int flju), .val (.int (p2 &&& (15 : Int32))), .val (.ref sjv), .val (.int fljv), q10v, q11v, q12v] [(.int (1 : Int32))])) _
        refine XS.goto Xjv.here hx rfl (pc0 := 804) (pc' := 808) rfl (hb hby at_804) (by decide) (by decide) ?_
        have q0 : (own_ex flju fljv) = (1 : Int32) := ((if_neg hc795_587).trans (if_neg hc800_588))
        rw [q0] at k
        exact k
  have k589 : ∀ t, Steps p.tables e below (Tjv.setTop (mkF m 810 #[.val (.int p1), .val (.int p2), .val (.int p3), .val (.int p4), .val (.int (p1 &&& (7 : Int32))), .val (.ref sju), .val (.int flju), .val (.int (p2 &&& (15 : Int32))), .val (.ref sjv), .val (.int fljv), .val (.int (own_ex flju fljv)), q11v, q12v] [])) t → Steps p.tables e below (s₁.setTop (entryFrame m #[(.int p1), (.int p2), (.int p3), (.int p4)] maxLocals)) t := by
    intro t k
    refine k586 t ?_
    show Steps p.tables e below (Tjv.setTop (mkF m 808 #[.val (.int p1), .val (.int p2), .val (.int p3), .val (.int p4), .val (.int (p1 &&& (7 : Int32))), .val (.ref sju), .val (.int flju), .val (.int (p2 &&& (15 : Int32))), .val (.ref sjv), .val (.int fljv), q10v, q11v, q12v] [(.int (own_ex flju fljv))])) _
    refine XS.istore Xjv.here hx rfl (hb hby at_808) rfl (l' := #[.val (.int p1), .val (.int p2), .val (.int p3), .val (.int p4), .val (.int (p1 &&& (7 : Int32))), .val (.ref sju), .val (.int flju), .val (.int (p2 &&& (15 : Int32))), .val (.ref sjv), .val (.int fljv), .val (.int (own_ex flju fljv)), q11v, q12v]) (by rcases hqq10v with rfl | ⟨v_, rfl⟩ | ⟨v_, rfl⟩ <;> rfl) ?_
    exact k
  obtain ⟨T590, h590, X590, e590, E590, A590, D590, -, st590⟩ := newO Xjv hx hZ hown (hw _ (List.mem_of_getElem? (i := 33) rfl)) (hw _ (List.mem_of_getElem? (i := 34) rfl)) (hw _ (List.mem_of_getElem? (i := 35) rfl)) ejv (g := (mkF m 810 #[.val (.int p1), .val (.int p2), .val (.int p3), .val (.int p4), .val (.int (p1 &&& (7 : Int32))), .val (.ref sju), .val (.int flju), .val (.int (p2 &&& (15 : Int32))), .val (.ref sjv), .val (.int fljv), .val (.int (own_ex flju fljv)), q11v, q12v] [])) rfl (hb hby at_810) (by decide) (by decide)
  obtain ⟨b590, g590⟩ : ∃ z, z = hjv.size := ⟨_, rfl⟩
  rw [← g590] at A590 D590 st590
  have ge590 : n0 ≤ b590 := Nat.le_trans Zjv (Nat.le_of_eq g590.symm)
  have bo590 : hjv.size ≤ b590 := Nat.le_trans (Keep.refl hjv []).1 (Nat.le_of_eq g590.symm)
  have ne591 : sju ≠ b590 := Nat.ne_of_lt (Nat.lt_of_lt_of_le fo0v.lt (Nat.le_of_eq g590.symm))
  have ne592 : bju ≠ b590 := Nat.ne_of_lt (Nat.lt_of_lt_of_le fo3v.lt (Nat.le_of_eq g590.symm))
  have ne593 : sjv ≠ b590 := Nat.ne_of_lt (Nat.lt_of_lt_of_le fm1v.lt (Nat.le_of_eq g590.symm))
  have ne594 : bjv ≠ b590 := Nat.ne_of_lt (Nat.lt_of_lt_of_le fm4v.lt (Nat.le_of_eq g590.symm))
  have Z590 : n0 ≤ h590.size := Nat.le_trans Zjv E590.1
  have K590 : Keep hjv h590 [] := (Keep.refl hjv []).ext E590
  have Xo590 := Ojv.ext E590
  have f595 := fo0v.ext E590
  have f596 := fo1v.ext E590
  have f597 := fo2v.ext E590
  have f598 := fo3v.ext E590
  have f599 := fm1v.ext E590
  have f600 := fm2v.ext E590
  have f601 := fm3v.ext E590
  have f602 := fm4v.ext E590
  have k603 : ∀ t, Steps p.tables e below (T590.setTop (mkF m 813 #[.val (.int p1), .val (.int p2), .val (.int p3), .val (.int p4), .val (.int (p1 &&& (7 : Int32))), .val (.ref sju), .val (.int flju), .val (.int (p2 &&& (15 : Int32))), .val (.ref sjv), .val (.int fljv), .val (.int (own_ex flju fljv)), q11v, q12v] [(.ref b590)])) t → Steps p.tables e below (s₁.setTop (entryFrame m #[(.int p1), (.int p2), (.int p3), (.int p4)] maxLocals)) t := fun t k => k589 t (st590 t k)
  have k604 : ∀ t, Steps p.tables e below (T590.setTop (mkF m 814 #[.val (.int p1), .val (.int p2), .val (.int p3), .val (.int p4), .val (.int (p1 &&& (7 : Int32))), .val (.ref sju), .val (.int flju), .val (.int (p2 &&& (15 : Int32))), .val (.ref sjv), .val (.int fljv), .val (.int (own_ex flju fljv)), q11v, q12v] [(.ref b590), (.ref b590)])) t → Steps p.tables e below (s₁.setTop (entryFrame m #[(.int p1), (.int p2), (.int p3), (.int p4)] maxLocals)) t := by
    intro t k
    refine k603 t ?_
    show Steps p.tables e below (T590.setTop (mkF m 813 #[.val (.int p1), .val (.int p2), .val (.int p3), .val (.int p4), .val (.int (p1 &&& (7 : Int32))), .val (.ref sju), .val (.int flju), .val (.int (p2 &&& (15 : Int32))), .val (.ref sjv), .val (.int fljv), .val (.int (own_ex flju fljv)), q11v, q12v] [(.ref b590)])) _
    refine XS.dup X590.here hx rfl (hb hby at_813) rfl rfl ?_
    exact k
  obtain ⟨_, _, ⟨T605, L605, k605c, n605⟩, -, X605, ⟨Lc605, hQ605, l605, y605, z605⟩, st605⟩ := X590.specialBack hx (y := (⟨"com/example/domicile/domicile/tei/TeiVocabulary", "<init>", "()V"⟩ : MethodName)) rfl hown (mvT hZ (hw _ (List.mem_of_getElem? (i := 36) rfl))) (mvT hZ (hw _ (List.mem_of_getElem? (i := 37) rfl))) (mvT hZ (hw _ (List.mem_of_getElem? (i := 38) rfl))) (by decide) (backOf (W := 1) (own_rmtv l Z a0 hw [] b590 h590 n0 Z590) hZ (hw _ (List.mem_of_getElem? (i := 38) rfl)) (hw _ (List.mem_of_getElem? (i := 35) rfl)) (by decide) (by decide)) (g := (mkF m 814 #[.val (.int p1), .val (.int p2), .val (.int p3), .val (.int p4), .val (.int (p1 &&& (7 : Int32))), .val (.ref sju), .val (.int flju), .val (.int (p2 &&& (15 : Int32))), .val (.ref sjv), .val (.int fljv), .val (.int (own_ex flju fljv)), q11v, q12v] [(.ref b590), (.ref b590)])) rfl (by rw [hml]; rfl) (Steps.refl _) (a := b590) (argsL := []) (rest := [(.ref b590)]) (lenOf own_pd8 rfl) rfl (by show 2 * 0 + _ ≤ _; exact Nat.le_of_eq rfl) (hb hby at_814) (fun _ _ => ⟨rfl, e590, (by decide : 9 + 0 ≤ _), (by decide : 228 + 0 ≤ _)⟩)
  dsimp only [Pt.U, Pt.locs, Pt.cells, Pt.slots] at X605 l605 y605 z605 st605 hQ605
  subst l605 y605 z605
  obtain ⟨rfl, N605q, e605⟩ := hQ605
  have N605 := Fr.app Njv N605q
  have k606 : ∀ t, Steps p.tables e below (T605.setTop (mkF m 817 #[.val (.int p1), .val (.int p2), .val (.int p3), .val (.int p4), .val (.int (p1 &&& (7 : Int32))), .val (.ref sju), .val (.int flju), .val (.int (p2 &&& (15 : Int32))), .val (.ref sjv), .val (.int fljv), .val (.int (own_ex flju fljv)), q11v, q12v] [(.ref b590)])) t → Steps p.tables e below (s₁.setTop (entryFrame m #[(.int p1), (.int p2), (.int p3), (.int p4)] maxLocals)) t := fun t k => k604 t (st605.trans k)
  have k607 : ∀ t, Steps p.tables e below (T605.setTop (mkF m 825 #[.val (.int p1), .val (.int p2), .val (.int p3), .val (.int p4), .val (.int (p1 &&& (7 : Int32))), .val (.ref sju), .val (.int flju), .val (.int (p2 &&& (15 : Int32))), .val (.ref sjv), .val (.int fljv), .val (.int (own_ex flju fljv)), .val (.ref b590), q12v] [(.ref sjv), (.ref sju), (.ref b590)])) t → Steps p.tables e below (s₁.setTop (entryFrame m #[(.int p1), (.int p2), (.int p3), (.int p4)] maxLocals)) t := by
    intro t k
    refine k606 t ?_
    show Steps p.tables e below (T605.setTop (mkF m 817 #[.val (.int p1), .val (.int p2), .val (.int p3), .val (.int p4), .val (.int (p1 &&& (7 : Int32))), .val (.ref sju), .val (.int flju), .val (.int (p2 &&& (15 : Int32))), .val (.ref sjv), .val (.int fljv), .val (.int (own_ex flju fljv)), q11v, q12v] [(.ref b590)])) _
    refine XS.astore X605.here hx rfl (hb hby at_817) rfl rfl (l' := #[.val (.int p1), .val (.int p2), .val (.int p3), .val (.int p4), .val (.int (p1 &&& (7 : Int32))), .val (.ref sju), .val (.int flju), .val (.int (p2 &&& (15 : Int32))), .val (.ref sjv), .val (.int fljv), .val (.int (own_ex flju fljv)), .val (.ref b590), q12v]) (by rcases hqq11v with rfl | ⟨v_, rfl⟩ | ⟨v_, rfl⟩ <;> rfl) ?_
    show Steps p.tables e below (T605.setTop (mkF m 819 #[.val (.int p1), .val (.int p2), .val (.int p3), .val (.int p4), .val (.int (p1 &&& (7 : Int32))), .val (.ref sju), .val (.int flju), .val (.int (p2 &&& (15 : Int32))), .val (.ref sjv), .val (.int fljv), .val (.int (own_ex flju fljv)), .val (.ref b590), q12v] [])) _
    refine XS.aload X605.here hx rfl (hb hby at_819) rfl rfl ?_
    show Steps p.tables e below (T605.setTop (mkF m 821 #[.val (.int p1), .val (.int p2), .val (.int p3), .val (.int p4), .val (.int (p1 &&& (7 : Int32))), .val (.ref sju), .val (.int flju), .val (.int (p2 &&& (15 : Int32))), .val (.ref sjv), .val (.int fljv), .val (.int (own_ex flju fljv)), .val (.ref b590), q12v] [(.ref b590)])) _
    refine XS.aload X605.here hx rfl (hb hby at_821) rfl rfl ?_
    show Steps p.tables e below (T605.setTop (mkF m 823 #[.val (.int p1), .val (.int p2), .val (.int p3), .val (.int p4), .val (.int (p1 &&& (7 : Int32))), .val (.ref sju), .val (.int flju), .val (.int (p2 &&& (15 : Int32))), .val (.ref sjv), .val (.int fljv), .val (.int (own_ex flju fljv)), .val (.ref b590), q12v] [(.ref sju), (.ref b590)])) _
    refine XS.aload X605.here hx rfl (hb hby at_823) rfl rfl ?_
    exact k
  obtain ⟨_, T608, L608, X608, Si608, Zw608, Ow608, hQ608, st608⟩ := own_callVH (s := s) (vm0 := vmjv) (W := 0) X605 hx hw hZ hown Sijv (Nat.le_trans (Nat.le_trans (Nat.le_refl _) (hkjv)) (E590.1)) (Hcjv.keep K590 (fun x hx => nomatch hx)) (hw _ (List.mem_of_getElem? (i := 40) rfl)) (hw _ (List.mem_of_getElem? (i := 41) rfl)) (hw _ (List.mem_of_getElem? (i := 43) rfl)) (hw _ (List.mem_of_getElem? (i := 42) rfl)) (hw _ (List.mem_of_getElem? (i := 35) rfl)) (hw _ (List.mem_of_getElem? (i := 44) rfl)) (by decide) (own_rmmb l Z a0 hw [] b590 sju sjv bju bjv nju fju njv fjv cs h590 n0 Z590 f595 f596 f597 f598 f599 f600 f601 f602 Xo590 SC hcs (by omega) (by omega)) (by decide) (by decide) e605 A590 (g := (mkF m 825 #[.val (.int p1), .val (.int p2), .val (.int p3), .val (.int p4), .val (.int (p1 &&& (7 : Int32))), .val (.ref sju), .val (.int flju), .val (.int (p2 &&& (15 : Int32))), .val (.ref sjv), .val (.int fljv), .val (.int (own_ex flju fljv)), .val (.ref b590), q12v] [(.ref sjv), (.ref sju), (.ref b590)])) rfl (by rw [hml]; rfl) own_pd9 (argsL := [(.ref sju), (.ref sjv)]) (rest := []) rfl rfl rfl (by show 2 * 0 + _ ≤ _; exact Nat.le_of_eq rfl) (hb hby at_825) (by decide) (by decide)
  have hZ : Z.Warmed39 (s.setVm T608.vm).vm := Zw608
  have hown : (s.setVm T608.vm).vm.findClass "com/example/domicile/domicile/tei/TeiVocabularyMayBeRecordPinLaw" = some m.cls := Ow608
  obtain ⟨r_608, rfl, N608q, Kq608, hq608_hr⟩ := hQ608
  have N608 := Fr.app N605 N608q
  have f609 := f595.keep Kq608
  have f610 := f596.keep Kq608 List.not_mem_nil
  have f611 := f597.keep Kq608 List.not_mem_nil
  have f612 := f598.keep Kq608 List.not_mem_nil
  have f613 := f599.keep Kq608
  have f614 := f600.keep Kq608 List.not_mem_nil
  have f615 := f601.keep Kq608 List.not_mem_nil
  have f616 := f602.keep Kq608 List.not_mem_nil
  have f617 := A590.keep Kq608
  have Z608 : n0 ≤ T608.heap.size := Nat.le_trans Z590 Kq608.1
  have K608 : Keep hjv T608.heap [] := K590.trans Kq608 (fun x hx => nomatch hx)
  have Xo608 := Xo590.keep Kq608 all0
  have k618 : ∀ t, Steps p.tables e below (T608.setTop (mkF m 828 #[.val (.int p1), .val (.int p2), .val (.int p3), .val (.int p4), .val (.int (p1 &&& (7 : Int32))), .val (.ref sju), .val (.int flju), .val (.int (p2 &&& (15 : Int32))), .val (.ref sjv), .val (.int fljv), .val (.int (own_ex flju fljv)), .val (.ref b590), q12v] [(.int r_608)])) t → Steps p.tables e below (s₁.setTop (entryFrame m #[(.int p1), (.int p2), (.int p3), (.int p4)] maxLocals)) t := fun t k => k607 t (st608 t k)
  have k619 : ∀ t, Steps p.tables e below (T608.setTop (mkF m 838 #[.val (.int p1), .val (.int p2), .val (.int p3), .val (.int p4), .val (.int (p1 &&& (7 : Int32))), .val (.ref sju), .val (.int flju), .val (.int (p2 &&& (15 : Int32))), .val (.ref sjv), .val (.int fljv), .val (.int (own_ex flju fljv)), .val (.ref b590), q12v] [(.int (1 : Int32))])) t → Steps p.tables e below (s₁.setTop (entryFrame m #[(.int p1), (.int p2), (.int p3), (.int p4)] maxLocals)) t := by
    intro t k
    refine k618 t ?_
    show Steps p.tables e below (T608.setTop (mkF m 828 #[.val (.int p1), .val (.int p2), .val (.int p3), .val (.int p4), .val (.int (p1 &&& (7 : Int32))), .val (.ref sju), .val (.int flju), .val (.int (p2 &&& (15 : Int32))), .val (.ref sjv), .val (.int fljv), .val (.int (own_ex flju fljv)), .val (.ref b590), q12v] [(.int r_608)])) _
    refine XS.iload X608.here hx rfl (hb hby at_828) rfl ?_
    show Steps p.tables e below (T608.setTop (mkF m 830 #[.val (.int p1), .val (.int p2), .val (.int p3), .val (.int p4), .val (.int (p1 &&& (7 : Int32))), .val (.ref sju), .val (.int flju), .val (.int (p2 &&& (15 : Int32))), .val (.ref sjv), .val (.int fljv), .val (.int (own_ex flju fljv)), .val (.ref b590), q12v] [(.int (own_ex flju fljv)), (.int r_608)])) _
    refine XS.icmpNo X608.here hx rfl (hb hby at_830) rfl (teq (own_last hclju hcljv hq608_hr)).2 ?_
    show Steps p.tables e below (T608.setTop (mkF m 833 #[.val (.int p1), .val (.int p2), .val (.int p3), .val (.int p4), .val (.int (p1 &&& (7 : Int32))), .val (.ref sju), .val (.int flju), .val (.int (p2 &&& (15 : Int32))), .val (.ref sjv), .val (.int fljv), .val (.int (own_ex flju fljv)), .val (.ref b590), q12v] [])) _
    refine XS.iconst X608.here hx rfl (hb hby at_833) ?_
    show Steps p.tables e below (T608.setTop (mkF m 834 #[.val (.int p1), .val (.int p2), .val (.int p3), .val (.int p4), .val (.int (p1 &&& (7 : Int32))), .val (.ref sju), .val (.int flju), .val (.int (p2 &&& (15 : Int32))), .val (.ref sjv), .val (.int fljv), .val (.int (own_ex flju fljv)), .val (.ref b590), q12v] [(.int (1 : Int32))])) _
    refine XS.goto X608.here hx rfl (pc0 := 834) (pc' := 838) rfl (hb hby at_834) (by decide) (by decide) ?_
    exact k
  obtain ⟨fs, hr, hrun, hended, hE⟩ := Stand.leaveW (s := s) X608 Si608 (Nat.le_refl _) (v := (some (.int (1 : Int32)))) (fun h => by rw [Bd.returns] at h; cases h)
  refine ⟨_, _, k619 _ ?_, hrun, hended, _, _, rfl, ?_, ⟨_, rfl⟩, hE.2.1, hE.2.2.1, hE.2.2.2.mono (by decide) (by decide)⟩
  · exact retN X608 hx (t := .boolean) Bd.returns (by simp) (hb hby at_838) hr
  · exact ⟨rfl, N608⟩
set_option maxRecDepth 65536 in
set_option maxHeartbeats 40000000 in
theorem comes_1 {Post : Tables → Env → Array Value → State → Outcome → State → Prop} (hpost : ∀ tb e args s v u, (limb_1_1.after args s (.returned v) u = true ∧ limb_1_2.after args s (.returned v) u = true ∧ True) → Jvm.D.FramedW s (.returned v) u (Jvm.fieldLocs frame_1_writes args s ++ Jvm.arrayLocs frame_1_arrays args s ++ Jvm.staticLocs frame_1_statics s) 64 20800 → Post tb e args s (.returned v) u) :
    ArmFor flags0 classFile x code maxLocals ret World_1 tables_1 room_1 Calls_1 rest_1 Pre_1 Post := by
  intro l hfl _ _ p e ha hc hk s m args below hf hA hF happ hP
  obtain ⟨hcalls, hrest, hpre⟩ := hP
  obtain ⟨-, -, -, hnamed, -, -, -, hat⟩ := (Spec.applies_iff hf).mp happ
  obtain ⟨hg, hn⟩ := and_e (Cond.before_iff.mp (show (Jvm.Cond.and given_1 narrow_1).before args s = true from hpre))
  obtain ⟨hg0, hg⟩ := and_e hg
  obtain ⟨hi0, hg⟩ := and_e hg
  obtain ⟨hi1, hg⟩ := and_e hg
  obtain ⟨hi2, hg⟩ := and_e hg
  have hi3 := hg
  obtain ⟨w0, w1, w2, w3, rfl⟩ : ∃ w0 w1 w2 w3 : Value, args = #[w0, w1, w2, w3] := by
    have hs : args.size = 4 := by simpa [Cond.value, given_1] using hg0
    obtain ⟨L⟩ := args
    match L, hs with
    | [w0, w1, w2, w3], _ => exact ⟨w0, w1, w2, w3, rfl⟩
  have hw := fun d (hd : d ∈ tables_1) => atoms_spec (ws := Jvm.Cond.code x code maxLocals ret :: tables_1) hat d (List.mem_cons_of_mem _ hd)
  obtain ⟨p1, ev0⟩ := is_v hi0
  obtain rfl : w0 = (.int p1) := Option.some.inj ev0
  obtain ⟨p2, ev1⟩ := is_v hi1
  obtain rfl : w1 = (.int p2) := Option.some.inj ev1
  obtain ⟨p3, ev2⟩ := is_v hi2
  obtain rfl : w2 = (.int p3) := Option.some.inj ev2
  obtain ⟨p4, ev3⟩ := is_v hi3
  obtain rfl : w3 = (.int p4) := Option.some.inj ev3
  obtain ⟨hsets, hown0⟩ := atoms_of _ (rest_1_c_eq ▸ (show rest_1_c.before _ s = true from hrest))
  have hcs0 := not_v (Cond.before_iff.mp (hsets _ (List.mem_of_getElem? (i := 2) rfl)))
  obtain ⟨cs, ecs⟩ := is_v (Cond.before_iff.mp (hsets _ (List.mem_of_getElem? (i := 1) rfl)))
  have SC := Sta.start ecs (Or.inl (hsets _ (List.mem_of_getElem? (i := 0) rfl)))
  have hcs : ¬ (cs = (0 : Int32)) := gotF (Cond.eq_ints ecs (Term.int_eval (0))) hcs0
  have hH := CHv.start (own_EW hw) (fun p hp => hcalls.1 p hp) (hsets _ (List.mem_of_getElem? (i := 2) rfl)) (own_SA hw _ (by simp [Bundle.stringAtoms])) (own_SA hw _ (by simp [Bundle.stringAtoms, Bundle.sN]))
  obtain ⟨n, o, h1, h2, h3, _, L, rfl, ⟨rfl, N⟩, hq⟩ := own_rm0 l s _ hw tables_1 p1 p2 p3 p4 cs s.heap s.heap.size (Nat.le_refl _) (Old.start s) SC hcs  p e ha hc hk s m _ below hf ((Spec.applies_iff_loose hf).mp happ).1 ⟨rfl, State.Warmed39.refl s, rfl, hH⟩ trivial
  refine ⟨n, _, h1, h2, h3, hpost _ _ _ _ _ _ ⟨Cond.after_iff.mpr rfl, Cond.after_iff.mpr (eq_i res_at (Term.int_eval (1)) rfl), trivial⟩ ⟨hq.1, hq.2.1, hq.2.2.1, (hq.2.2.2.sift fun y hy => Or.inr (N y hy)).mono (by decide) (by decide)⟩⟩
theorem main_1_1 : Claimed_1_1 := comes_1 fun _ _ _ _ _ _ h hF => ⟨h.1, hF⟩
theorem main_1_2 : Claimed_1_2 := comes_1 fun _ _ _ _ _ _ h hF => ⟨h.2.1, hF⟩
end Jvm.Pilot.@@N@@
namespace Jvm.Pilot.@@N@@
open Jvm Jvm.ClassFile Sem Op Lib Jvm.Free Jvm.Stand Jvm.Pilot.@@N@@.Jvm.D
/-! MADE BY PROGRAM (witnessworld.py) out of the Statement's table words and the real class files: 22 classes; the members and pool entries that the words name. The judged class is class 1, her method 2. -/
namespace start1
open Jvm.ClassFile
def u (s : String) : CpInfo := .utf8 (stringToUtf16 s)
/-- a pool by its gaps: so many unusable entries, then the entry; so many at the end -/
def gap : Nat → List CpInfo → List CpInfo
  | 0, r => r
  | n + 1, r => .unusable :: gap n r
def poolList (es : List (Nat × CpInfo)) (last : Nat) : List CpInfo := es.foldr (fun e r => gap e.1 (e.2 :: r)) (gap last [])
def pool (es : List (Nat × CpInfo)) (last : Nat) : Array CpInfo := ⟨poolList es last⟩
def fileOf (pool : Array CpInfo) (this : Nat) (attrs : Array Attribute := #[]) (ms : Array MethodInfo := #[]) (fl : Nat := 33) (sup : Nat := 0) (ifs : Array Nat := #[]) (fds : Array FieldInfo := #[]) : ClassFile where
  minorVersion := 0
  majorVersion := 65
  constantPool := pool
  accessFlags := fl
  thisClass := this
  superClass := sup
  interfaces := ifs
  fields := fds
  methods := ms
  attributes := attrs
def plain (name : String) (sup : Option ClassId) : Class where
  name := name
  kind := .ordinary
  loader := none
  accessFlags := 33
  super := sup
  interfaces := #[]
  cf := none
  fields := #[]
  methods := #[]
  instanceTypes := #[]
  staticTypes := #[]
  resolved := #[]
  callSites := []
  init := .initialized
  statics := none
  mirror := none

def pool0 : Array CpInfo := pool [(5, u "<init>"), (0, u "()V"), (1, .class_ 10), (1, u "java/lang/Object")] 113

def k0c0 : Code := { maxStack := 0, maxLocals := 1, code := object_method_1_code, exceptionTable := #[], attributes := #[] }
def k0m0 : Method := { name := "<init>", desc := "()V", sig := { parameters := [], returnType := none }, accessFlags := 1, code := some k0c0 }
/-- java/lang/Object -/
def k0 : Class := { plain "java/lang/Object" none with
  accessFlags := 33
  interfaces := #[]
  cf := some (fileOf pool0 8 #[] #[{ accessFlags := 1, nameIndex := 5, descriptorIndex := 6, attributes := #[] }] 33 0 #[] #[])
  fields := #[]
  methods := #[k0m0]
  instanceTypes := #[]
  staticTypes := #[]
  resolved := Array.replicate 124 none
  statics := none }

def pool1 : Array CpInfo := pool [(2, .class_ 4), (0, .nameAndType 5 6), (0, u "java/lang/Object"), (0, u "<init>"), (0, u "()V"), (0, .class_ 8), (0, u "java/lang/String"), (0, .methodref 7 10), (0, .nameAndType 5 11), (0, u "([C)V"), (0, .string 13), (0, u "http://www.tei-c.org/ns/1.0"), (0, .string 15), (0, u ""), (0, .methodref 17 18), (0, .class_ 19), (0, .nameAndType 20 21), (0, u "com/example/domicile/domicile/tei/TeiVocabularyMayBeRecordPinLaw"), (0, u "drawn"), (0, u "(II)Ljava/lang/String;"), (0, .string 23), (0, u "http://www.tei-c.org/ns/1.0/"), (0, .string 25), (0, u "http://www.tei-c.org/ns/1."), (0, .string 27), (0, u "HTTP://WWW.TEI-C.ORG/NS/1.0"), (0, .string 29), (0, u "address"), (0, .string 31), (0, u "residence"), (0, .string 33), (0, u "Address"), (0, .string 35), (0, u "ADDRESS"), (0, .string 37), (0, u "addres"), (0, .string 39), (0, u "addresss"), (0, .string 41), (0, u "residenc"), (0, .string 43), (0, u "residences"), (0, .string 45), (0, u "addrLine"), (0, .string 47), (0, u "Residence"), (0, .string 49), (0, u "tei:address"), (0, .class_ 51), (0, u "com/example/domicile/domicile/tei/TeiVocabulary"), (0, .methodref 50 3), (0, .methodref 50 54), (0, .nameAndType 55 56), (0, u "mayBeRecord"), (0, u "(Ljava/lang/String;Ljava/lang/String;)Z"), (3, u "law"), (0, u "(IIII)Z")] 4

def k1m0 : Method := { name := "<init>", desc := "()V", sig := { parameters := [], returnType := none }, accessFlags := 1, code := none }
def k1c1 : Code := { maxStack := 6, maxLocals := 5, code := method_2_code, exceptionTable := #[], attributes := #[] }
def k1m1 : Method := { name := "drawn", desc := "(II)Ljava/lang/String;", sig := { parameters := [.int, .int], returnType := some (.object "java/lang/String") }, accessFlags := 10, code := some k1c1 }
def k1c2 : Code := { maxStack := 4, maxLocals := 13, code := code, exceptionTable := #[], attributes := #[] }
def k1m2 : Method := { name := "law", desc := "(IIII)Z", sig := { parameters := [.int, .int, .int, .int], returnType := some .boolean }, accessFlags := 9, code := some k1c2 }
/-- com/example/domicile/domicile/tei/TeiVocabularyMayBeRecordPinLaw -/
def k1 : Class := { plain "com/example/domicile/domicile/tei/TeiVocabularyMayBeRecordPinLaw" (some 0) with
  accessFlags := 49
  interfaces := #[]
  cf := some (fileOf pool1 17 #[] #[{ accessFlags := 1, nameIndex := 5, descriptorIndex := 6, attributes := #[] }, { accessFlags := 10, nameIndex := 20, descriptorIndex := 21, attributes := #[] }, { accessFlags := 9, nameIndex := 60, descriptorIndex := 61, attributes := #[] }] 49 2 #[] #[])
  fields := #[]
  methods := #[k1m0, k1m1, k1m2]
  instanceTypes := #[]
  staticTypes := #[]
  resolved := Array.replicate 66 none
  statics := none }

def pool2 : Array CpInfo := pool [(1, .class_ 2), (0, u "java/io/Serializable"), (0, .class_ 4), (0, u "java/lang/Object")] 2

/-- java/io/Serializable -/
def k2 : Class := { plain "java/io/Serializable" (some 0) with
  accessFlags := 1537
  interfaces := #[]
  cf := some (fileOf pool2 1 #[] #[] 1537 3 #[] #[])
  fields := #[]
  methods := #[]
  instanceTypes := #[]
  staticTypes := #[]
  resolved := Array.replicate 7 none
  statics := none }

def pool3 : Array CpInfo := pool [(1, .class_ 2), (0, u "java/lang/Comparable"), (0, .class_ 4), (0, u "java/lang/Object")] 7

/-- java/lang/Comparable -/
def k3 : Class := { plain "java/lang/Comparable" (some 0) with
  accessFlags := 1537
  interfaces := #[]
  cf := some (fileOf pool3 1 #[] #[] 1537 3 #[] #[])
  fields := #[]
  methods := #[]
  instanceTypes := #[]
  staticTypes := #[]
  resolved := Array.replicate 12 none
  statics := none }

def pool4 : Array CpInfo := pool [(2, .class_ 4), (1, u "java/lang/CharSequence"), (42, .class_ 48), (0, u "java/lang/CharSequence$1CodePointIterator"), (10, .class_ 60), (0, u "java/lang/CharSequence$1CharIterator"), (5, .class_ 67), (0, u "java/lang/Object")] 63

/-- java/lang/CharSequence -/
def k4 : Class := { plain "java/lang/CharSequence" (some 0) with
  accessFlags := 1537
  interfaces := #[]
  cf := some (fileOf pool4 2 #[.nestMembers #[47, 59]] #[] 1537 66 #[] #[])
  fields := #[]
  methods := #[]
  instanceTypes := #[]
  staticTypes := #[]
  resolved := Array.replicate 131 none
  statics := none }

def pool5 : Array CpInfo := pool [(1, .class_ 2), (0, u "java/lang/constant/Constable"), (0, .class_ 4), (0, u "java/lang/Object")] 6

/-- java/lang/constant/Constable -/
def k5 : Class := { plain "java/lang/constant/Constable" (some 0) with
  accessFlags := 1537
  interfaces := #[]
  cf := some (fileOf pool5 1 #[] #[] 1537 3 #[] #[])
  fields := #[]
  methods := #[]
  instanceTypes := #[]
  staticTypes := #[]
  resolved := Array.replicate 11 none
  statics := none }

def pool6 : Array CpInfo := pool [(1, .class_ 2), (0, u "java/lang/constant/ConstantDesc"), (0, .class_ 4), (0, u "java/lang/Object")] 32

/-- java/lang/constant/ConstantDesc -/
def k6 : Class := { plain "java/lang/constant/ConstantDesc" (some 0) with
  accessFlags := 1537
  interfaces := #[]
  cf := some (fileOf pool6 1 #[] #[] 1537 3 #[] #[])
  fields := #[]
  methods := #[]
  instanceTypes := #[]
  staticTypes := #[]
  resolved := Array.replicate 37 none
  statics := none }

def pool7 : Array CpInfo := pool [(1, .methodref 2 3), (0, .class_ 4), (0, .nameAndType 5 6), (0, u "java/lang/Object"), (0, u "<init>"), (0, u "()V"), (0, .string 8), (0, u ""), (0, .fieldref 10 11), (0, .class_ 12), (0, .nameAndType 13 14), (0, u "java/lang/String"), (0, u "value"), (0, u "[B"), (0, .fieldref 10 16), (0, .nameAndType 17 18), (0, u "coder"), (0, u "B"), (2, u "hash"), (0, u "I"), (2, u "hashIsZero"), (0, u "Z"), (0, .methodref 10 28), (0, .nameAndType 5 29), (0, u "([CIILjava/lang/Void;)V"), (8, .fieldref 10 39), (0, .nameAndType 40 26), (0, u "COMPACT_STRINGS"), (1, .class_ 44), (1, u "java/lang/StringUTF16"), (0, u "compress"), (1, .methodref 42 48), (0, .nameAndType 49 50), (0, u "coderFromArrayLen"), (0, u "([BI)B"), (56, .class_ 109), (1, u "java/lang/StringLatin1"), (67, .methodref 42 178), (0, .nameAndType 45 179), (0, u "([CII)[B"), (361, .methodref 107 542), (0, .nameAndType 543 544), (0, u "equals"), (0, u "([B[B)Z"), (28, u "(Ljava/lang/Object;)Z"), (1, .class_ 576), (0, u "java/lang/CharSequence"), (22, u "CASE_INSENSITIVE_ORDER"), (0, u "Ljava/util/Comparator;"), (409, u "([C)V"), (90, u "serialPersistentFields"), (0, u "[Ljava/io/ObjectStreamField;"), (0, .class_ 1104), (0, u "java/lang/String$CaseInsensitiveComparator"), (1, .class_ 1107), (0, u "java/io/Serializable"), (0, .class_ 1109), (0, u "java/lang/Comparable"), (0, .class_ 1111), (0, u "java/lang/constant/Constable"), (0, .class_ 1113), (0, u "java/lang/constant/ConstantDesc"), (2, u "serialVersionUID"), (0, u "J"), (3, u "REPL"), (0, u "C"), (2, u "LATIN1"), (1, u "UTF16")] 323

def k7m0 : Method := { name := "<init>", desc := "()V", sig := { parameters := [], returnType := none }, accessFlags := 1, code := none }
def k7c1 : Code := { maxStack := 5, maxLocals := 2, code := jdk_42_method_3_code, exceptionTable := #[], attributes := #[] }
def k7m1 : Method := { name := "<init>", desc := "([C)V", sig := { parameters := [(.array .char)], returnType := none }, accessFlags := 1, code := some k7c1 }
def k7c2 : Code := { maxStack := 2, maxLocals := 3, code := jdk_42_method_66_code, exceptionTable := #[], attributes := #[] }
def k7m2 : Method := { name := "equals", desc := "(Ljava/lang/Object;)Z", sig := { parameters := [(.object "java/lang/Object")], returnType := some .boolean }, accessFlags := 1, code := some k7c2 }
def k7c3 : Code := { maxStack := 4, maxLocals := 6, code := jdk_42_method_149_code, exceptionTable := #[], attributes := #[] }
def k7m3 : Method := { name := "<init>", desc := "([CIILjava/lang/Void;)V", sig := { parameters := [(.array .char), .int, .int, (.object "java/lang/Void")], returnType := none }, accessFlags := 2, code := some k7c3 }
/-- java/lang/String -/
def k7 : Class := { plain "java/lang/String" (some 0) with
  accessFlags := 49
  interfaces := #[2, 3, 4, 5, 6]
  cf := some (fileOf pool7 10 #[.nestMembers #[1103]] #[{ accessFlags := 1, nameIndex := 5, descriptorIndex := 6, attributes := #[] }, { accessFlags := 1, nameIndex := 5, descriptorIndex := 1010, attributes := #[] }, { accessFlags := 1, nameIndex := 543, descriptorIndex := 573, attributes := #[] }, { accessFlags := 2, nameIndex := 5, descriptorIndex := 29, attributes := #[] }] 49 2 #[1106, 1108, 575, 1110, 1112] #[{ accessFlags := 18, nameIndex := 13, descriptorIndex := 14, attributes := #[] }, { accessFlags := 18, nameIndex := 17, descriptorIndex := 18, attributes := #[] }, { accessFlags := 2, nameIndex := 21, descriptorIndex := 22, attributes := #[] }, { accessFlags := 2, nameIndex := 25, descriptorIndex := 26, attributes := #[] }, { accessFlags := 26, nameIndex := 1116, descriptorIndex := 1117, attributes := #[] }, { accessFlags := 24, nameIndex := 40, descriptorIndex := 26, attributes := #[] }, { accessFlags := 26, nameIndex := 1101, descriptorIndex := 1102, attributes := #[] }, { accessFlags := 26, nameIndex := 1121, descriptorIndex := 1122, attributes := #[] }, { accessFlags := 25, nameIndex := 599, descriptorIndex := 600, attributes := #[] }, { accessFlags := 24, nameIndex := 1125, descriptorIndex := 18, attributes := #[] }, { accessFlags := 24, nameIndex := 1127, descriptorIndex := 18, attributes := #[] }])
  fields := #[{ name := "value", type := (.array .byte), accessFlags := 18, slot := 0, constantValue := 0 }, { name := "coder", type := .byte, accessFlags := 18, slot := 1, constantValue := 0 }, { name := "hash", type := .int, accessFlags := 2, slot := 2, constantValue := 0 }, { name := "hashIsZero", type := .boolean, accessFlags := 2, slot := 3, constantValue := 0 }, { name := "serialVersionUID", type := .long, accessFlags := 26, slot := 0, constantValue := 0 }, { name := "COMPACT_STRINGS", type := .boolean, accessFlags := 24, slot := 1, constantValue := 0 }, { name := "serialPersistentFields", type := (.array (.object "java/io/ObjectStreamField")), accessFlags := 26, slot := 2, constantValue := 0 }, { name := "REPL", type := .char, accessFlags := 26, slot := 3, constantValue := 0 }, { name := "CASE_INSENSITIVE_ORDER", type := (.object "java/util/Comparator"), accessFlags := 25, slot := 4, constantValue := 0 }, { name := "LATIN1", type := .byte, accessFlags := 24, slot := 5, constantValue := 0 }, { name := "UTF16", type := .byte, accessFlags := 24, slot := 6, constantValue := 0 }]
  methods := #[k7m0, k7m1, k7m2, k7m3]
  instanceTypes := #[(.array .byte), .byte, .int, .boolean]
  staticTypes := #[.long, .boolean, (.array (.object "java/io/ObjectStreamField")), .char, (.object "java/util/Comparator"), .byte, .byte]
  resolved := Array.replicate 1451 none
  statics := some 0 }

def pool8 : Array CpInfo := pool [(6, .class_ 8), (1, u "java/lang/Object"), (0, u "<init>"), (0, u "()V"), (1, .class_ 14), (1, u "java/lang/StringUTF16"), (31, u "$assertionsDisabled"), (0, u "Z"), (13, u "HI_BYTE_SHIFT"), (0, u "I"), (2, u "LO_BYTE_SHIFT"), (49, .methodref 12 116), (0, .nameAndType 117 118), (0, u "compress"), (0, u "([CI[BII)I"), (3, u "([CII)[B"), (138, u "coderFromArrayLen"), (0, u "([BI)B"), (106, .class_ 371), (1, u "java/lang/StringUTF16$LinesSpliterator"), (58, u "MAX_LENGTH"), (196, .class_ 628), (0, u "java/lang/StringUTF16$CodePointsSpliterator"), (0, .class_ 630), (0, u "java/lang/StringUTF16$CharsSpliterator")] 4

def k8m0 : Method := { name := "<init>", desc := "()V", sig := { parameters := [], returnType := none }, accessFlags := 0, code := none }
def k8c1 : Code := { maxStack := 2, maxLocals := 2, code := jdk_52_method_15_code, exceptionTable := #[], attributes := #[] }
def k8m1 : Method := { name := "coderFromArrayLen", desc := "([BI)B", sig := { parameters := [(.array .byte), .int], returnType := some .byte }, accessFlags := 8, code := some k8c1 }
def k8c2 : Code := { maxStack := 5, maxLocals := 6, code := jdk_52_method_16_code, exceptionTable := #[], attributes := #[] }
def k8m2 : Method := { name := "compress", desc := "([CII)[B", sig := { parameters := [(.array .char), .int, .int], returnType := some (.array .byte) }, accessFlags := 9, code := some k8c2 }
def k8c3 : Code := { maxStack := 3, maxLocals := 7, code := jdk_52_method_21_code, exceptionTable := #[], attributes := #[] }
def k8m3 : Method := { name := "compress", desc := "([CI[BII)I", sig := { parameters := [(.array .char), .int, (.array .byte), .int, .int], returnType := some .int }, accessFlags := 9, code := some k8c3 }
/-- java/lang/StringUTF16 -/
def k8 : Class := { plain "java/lang/StringUTF16" (some 0) with
  accessFlags := 48
  interfaces := #[]
  cf := some (fileOf pool8 12 #[.nestMembers #[627, 629, 369]] #[{ accessFlags := 0, nameIndex := 9, descriptorIndex := 10, attributes := #[] }, { accessFlags := 8, nameIndex := 261, descriptorIndex := 262, attributes := #[] }, { accessFlags := 9, nameIndex := 117, descriptorIndex := 122, attributes := #[] }, { accessFlags := 9, nameIndex := 117, descriptorIndex := 118, attributes := #[] }] 48 6 #[] #[{ accessFlags := 26, nameIndex := 61, descriptorIndex := 62, attributes := #[] }, { accessFlags := 26, nameIndex := 65, descriptorIndex := 62, attributes := #[] }, { accessFlags := 24, nameIndex := 430, descriptorIndex := 62, attributes := #[] }, { accessFlags := 4120, nameIndex := 46, descriptorIndex := 47, attributes := #[] }])
  fields := #[{ name := "HI_BYTE_SHIFT", type := .int, accessFlags := 26, slot := 0, constantValue := 0 }, { name := "LO_BYTE_SHIFT", type := .int, accessFlags := 26, slot := 1, constantValue := 0 }, { name := "MAX_LENGTH", type := .int, accessFlags := 24, slot := 2, constantValue := 0 }, { name := "$assertionsDisabled", type := .boolean, accessFlags := 4120, slot := 3, constantValue := 0 }]
  methods := #[k8m0, k8m1, k8m2, k8m3]
  instanceTypes := #[]
  staticTypes := #[.int, .int, .int, .boolean]
  resolved := Array.replicate 635 none
  statics := none }

def pool9 : Array CpInfo := pool [(1, .class_ 2), (0, u "com/example/domicile/domicile/core/Vocabulary"), (0, .class_ 4), (0, u "java/lang/Object")] 14

/-- com/example/domicile/domicile/core/Vocabulary -/
def k9 : Class := { plain "com/example/domicile/domicile/core/Vocabulary" (some 0) with
  accessFlags := 1537
  interfaces := #[]
  cf := some (fileOf pool9 1 #[] #[] 1537 3 #[] #[])
  fields := #[]
  methods := #[]
  instanceTypes := #[]
  staticTypes := #[]
  resolved := Array.replicate 19 none
  statics := none }

def pool10 : Array CpInfo := pool [(1, .class_ 2), (0, u "com/example/domicile/domicile/core/RecordRules"), (0, .class_ 4), (0, u "java/lang/Object")] 14

/-- com/example/domicile/domicile/core/RecordRules -/
def k10 : Class := { plain "com/example/domicile/domicile/core/RecordRules" (some 0) with
  accessFlags := 1537
  interfaces := #[]
  cf := some (fileOf pool10 1 #[] #[] 1537 3 #[] #[])
  fields := #[]
  methods := #[]
  instanceTypes := #[]
  staticTypes := #[]
  resolved := Array.replicate 19 none
  statics := none }

def pool11 : Array CpInfo := pool [(1, .methodref 2 3), (0, .class_ 4), (0, .nameAndType 5 6), (0, u "java/lang/Object"), (0, u "<init>"), (0, u "()V"), (0, .class_ 8), (0, u "com/example/domicile/domicile/tei/TeiVocabulary"), (4, .string 14), (0, u "http://www.tei-c.org/ns/1.0"), (2, u "COMMON_READER"), (0, u "Lcom/example/domicile/domicile/core/CommonReader;"), (2, u "COMMON_WRITER"), (0, u "Lcom/example/domicile/domicile/core/CommonWriter;"), (0, .methodref 24 25), (0, .class_ 26), (0, .nameAndType 27 28), (0, u "java/lang/String"), (0, u "equals"), (0, u "(Ljava/lang/Object;)Z"), (0, .string 30), (0, u "address"), (0, .string 32), (0, u "residence"), (34, u "IS_DATING"), (0, u "Ljava/util/function/Predicate;"), (8, u "IS_PART"), (10, u "MILESTONES"), (0, u "Ljava/util/Set;"), (41, u "W3C_DATING"), (0, u "Ljava/util/List;"), (24, u "DATING"), (41, u "KIND_ELEMENTS"), (0, u "Ljava/util/Map;"), (21, .class_ 223), (0, u "com/example/domicile/domicile/core/Vocabulary"), (0, .class_ 225), (0, u "com/example/domicile/domicile/core/RecordRules"), (0, u "NAMESPACE"), (0, u "Ljava/lang/String;"), (1, u "NAME"), (0, u "ADDRESS"), (0, u "RESIDENCE"), (6, u "MARKED"), (10, u "mayBeRecord"), (0, u "(Ljava/lang/String;Ljava/lang/String;)Z")] 55

def k11c0 : Code := { maxStack := 1, maxLocals := 1, code := prog_69_method_1_code, exceptionTable := #[], attributes := #[] }
def k11m0 : Method := { name := "<init>", desc := "()V", sig := { parameters := [], returnType := none }, accessFlags := 1, code := some k11c0 }
def k11c1 : Code := { maxStack := 2, maxLocals := 3, code := prog_69_method_8_code, exceptionTable := #[], attributes := #[] }
def k11m1 : Method := { name := "mayBeRecord", desc := "(Ljava/lang/String;Ljava/lang/String;)Z", sig := { parameters := [(.object "java/lang/String"), (.object "java/lang/String")], returnType := some .boolean }, accessFlags := 1, code := some k11c1 }
/-- com/example/domicile/domicile/tei/TeiVocabulary -/
def k11 : Class := { plain "com/example/domicile/domicile/tei/TeiVocabulary" (some 0) with
  accessFlags := 49
  interfaces := #[9, 10]
  cf := some (fileOf pool11 7 #[] #[{ accessFlags := 1, nameIndex := 5, descriptorIndex := 6, attributes := #[] }, { accessFlags := 1, nameIndex := 249, descriptorIndex := 250, attributes := #[] }] 49 2 #[222, 224] #[{ accessFlags := 25, nameIndex := 226, descriptorIndex := 227, attributes := #[] }, { accessFlags := 24, nameIndex := 229, descriptorIndex := 227, attributes := #[] }, { accessFlags := 24, nameIndex := 230, descriptorIndex := 227, attributes := #[] }, { accessFlags := 24, nameIndex := 231, descriptorIndex := 227, attributes := #[] }, { accessFlags := 24, nameIndex := 131, descriptorIndex := 132, attributes := #[] }, { accessFlags := 26, nameIndex := 157, descriptorIndex := 89, attributes := #[] }, { accessFlags := 26, nameIndex := 67, descriptorIndex := 68, attributes := #[] }, { accessFlags := 26, nameIndex := 77, descriptorIndex := 68, attributes := #[] }, { accessFlags := 24, nameIndex := 199, descriptorIndex := 200, attributes := #[] }, { accessFlags := 24, nameIndex := 238, descriptorIndex := 227, attributes := #[] }, { accessFlags := 26, nameIndex := 17, descriptorIndex := 18, attributes := #[] }, { accessFlags := 26, nameIndex := 21, descriptorIndex := 22, attributes := #[] }, { accessFlags := 26, nameIndex := 88, descriptorIndex := 89, attributes := #[] }])
  fields := #[{ name := "NAMESPACE", type := (.object "java/lang/String"), accessFlags := 25, slot := 0, constantValue := 0 }, { name := "NAME", type := (.object "java/lang/String"), accessFlags := 24, slot := 1, constantValue := 0 }, { name := "ADDRESS", type := (.object "java/lang/String"), accessFlags := 24, slot := 2, constantValue := 0 }, { name := "RESIDENCE", type := (.object "java/lang/String"), accessFlags := 24, slot := 3, constantValue := 0 }, { name := "W3C_DATING", type := (.object "java/util/List"), accessFlags := 24, slot := 4, constantValue := 0 }, { name := "DATING", type := (.object "java/util/Set"), accessFlags := 26, slot := 5, constantValue := 0 }, { name := "IS_DATING", type := (.object "java/util/function/Predicate"), accessFlags := 26, slot := 6, constantValue := 0 }, { name := "IS_PART", type := (.object "java/util/function/Predicate"), accessFlags := 26, slot := 7, constantValue := 0 }, { name := "KIND_ELEMENTS", type := (.object "java/util/Map"), accessFlags := 24, slot := 8, constantValue := 0 }, { name := "MARKED", type := (.object "java/lang/String"), accessFlags := 24, slot := 9, constantValue := 0 }, { name := "COMMON_READER", type := (.object "com/example/domicile/domicile/core/CommonReader"), accessFlags := 26, slot := 10, constantValue := 0 }, { name := "COMMON_WRITER", type := (.object "com/example/domicile/domicile/core/CommonWriter"), accessFlags := 26, slot := 11, constantValue := 0 }, { name := "MILESTONES", type := (.object "java/util/Set"), accessFlags := 26, slot := 12, constantValue := 0 }]
  methods := #[k11m0, k11m1]
  instanceTypes := #[]
  staticTypes := #[(.object "java/lang/String"), (.object "java/lang/String"), (.object "java/lang/String"), (.object "java/lang/String"), (.object "java/util/List"), (.object "java/util/Set"), (.object "java/util/function/Predicate"), (.object "java/util/function/Predicate"), (.object "java/util/Map"), (.object "java/lang/String"), (.object "com/example/domicile/domicile/core/CommonReader"), (.object "com/example/domicile/domicile/core/CommonWriter"), (.object "java/util/Set")]
  resolved := Array.replicate 306 none
  statics := none }

def pool12 : Array CpInfo := pool [(4, .class_ 6), (1, u "java/lang/Object"), (0, u "<init>"), (0, u "()V"), (5, .class_ 16), (1, u "java/lang/StringLatin1"), (104, u "$assertionsDisabled"), (0, u "Z"), (98, .class_ 223), (1, u "java/lang/StringLatin1$LinesSpliterator"), (57, u "equals"), (0, u "([B[B)Z"), (107, .class_ 391), (0, u "java/lang/StringLatin1$CharsSpliterator")] 3

def k12m0 : Method := { name := "<init>", desc := "()V", sig := { parameters := [], returnType := none }, accessFlags := 0, code := none }
def k12c1 : Code := { maxStack := 3, maxLocals := 3, code := jdk_43_method_13_code, exceptionTable := #[], attributes := #[] }
def k12m1 : Method := { name := "equals", desc := "([B[B)Z", sig := { parameters := [(.array .byte), (.array .byte)], returnType := some .boolean }, accessFlags := 9, code := some k12c1 }
/-- java/lang/StringLatin1 -/
def k12 : Class := { plain "java/lang/StringLatin1" (some 0) with
  accessFlags := 48
  interfaces := #[]
  cf := some (fileOf pool12 14 #[.nestMembers #[390, 221]] #[{ accessFlags := 0, nameIndex := 7, descriptorIndex := 8, attributes := #[] }, { accessFlags := 9, nameIndex := 281, descriptorIndex := 282, attributes := #[] }] 48 4 #[] #[{ accessFlags := 4120, nameIndex := 121, descriptorIndex := 122, attributes := #[] }])
  fields := #[{ name := "$assertionsDisabled", type := .boolean, accessFlags := 4120, slot := 0, constantValue := 0 }]
  methods := #[k12m0, k12m1]
  instanceTypes := #[]
  staticTypes := #[.boolean]
  resolved := Array.replicate 395 none
  statics := none }

def pool13 : Array CpInfo := pool [(2, .class_ 4), (1, u "java/lang/Object"), (0, u "<init>"), (0, u "()V"), (17, .class_ 26), (1, u "jdk/internal/util/Preconditions"), (28, .class_ 56), (0, u "jdk/internal/util/Preconditions$4"), (57, .class_ 115), (0, u "jdk/internal/util/Preconditions$1"), (7, u "SIOOBE_FORMATTER"), (0, u "Ljava/util/function/BiFunction;"), (0, .class_ 126), (0, u "jdk/internal/util/Preconditions$2"), (3, u "AIOOBE_FORMATTER"), (0, .class_ 132), (0, u "jdk/internal/util/Preconditions$3"), (3, u "IOOBE_FORMATTER")] 57

def k13m0 : Method := { name := "<init>", desc := "()V", sig := { parameters := [], returnType := none }, accessFlags := 1, code := none }
/-- jdk/internal/util/Preconditions -/
def k13 : Class := { plain "jdk/internal/util/Preconditions" (some 0) with
  accessFlags := 33
  interfaces := #[]
  cf := some (fileOf pool13 24 #[.nestMembers #[55, 131, 125, 114]] #[{ accessFlags := 1, nameIndex := 5, descriptorIndex := 6, attributes := #[] }] 33 2 #[] #[{ accessFlags := 25, nameIndex := 123, descriptorIndex := 124, attributes := #[] }, { accessFlags := 25, nameIndex := 130, descriptorIndex := 124, attributes := #[] }, { accessFlags := 25, nameIndex := 136, descriptorIndex := 124, attributes := #[] }])
  fields := #[{ name := "SIOOBE_FORMATTER", type := (.object "java/util/function/BiFunction"), accessFlags := 25, slot := 0, constantValue := 0 }, { name := "AIOOBE_FORMATTER", type := (.object "java/util/function/BiFunction"), accessFlags := 25, slot := 1, constantValue := 0 }, { name := "IOOBE_FORMATTER", type := (.object "java/util/function/BiFunction"), accessFlags := 25, slot := 2, constantValue := 0 }]
  methods := #[k13m0]
  instanceTypes := #[]
  staticTypes := #[(.object "java/util/function/BiFunction"), (.object "java/util/function/BiFunction"), (.object "java/util/function/BiFunction")]
  resolved := Array.replicate 194 none
  statics := some 1 }

def pool14 : Array CpInfo := pool [(9, u "<init>"), (6, .class_ 18), (1, u "java/lang/Object"), (0, u "()V"), (1, .class_ 23), (1, u "jdk/internal/util/ArraysSupport"), (0, u "LOG2_ARRAY_LONG_INDEX_SCALE"), (0, u "I"), (2, u "U"), (0, u "Ljdk/internal/misc/Unsafe;"), (8, u "BIG_ENDIAN"), (0, u "Z"), (8, u "LOG2_BYTE_BIT_SIZE"), (4, u "LOG2_ARRAY_INT_INDEX_SCALE"), (54, u "JLA"), (0, u "Ljdk/internal/access/JavaLangAccess;"), (11, u "LOG2_ARRAY_BOOLEAN_INDEX_SCALE"), (9, u "LOG2_ARRAY_BYTE_INDEX_SCALE"), (5, u "LOG2_ARRAY_CHAR_INDEX_SCALE"), (5, u "LOG2_ARRAY_SHORT_INDEX_SCALE"), (18, u "LOG2_ARRAY_FLOAT_INDEX_SCALE"), (24, u "LOG2_ARRAY_DOUBLE_INDEX_SCALE"), (89, u "T_BOOLEAN"), (2, u "T_CHAR"), (1, u "T_FLOAT"), (1, u "T_DOUBLE"), (1, u "T_BYTE"), (1, u "T_SHORT"), (1, u "T_INT"), (1, u "T_LONG"), (1, u "SOFT_MAX_ARRAY_LENGTH")] 83

def k14m0 : Method := { name := "<init>", desc := "()V", sig := { parameters := [], returnType := none }, accessFlags := 2, code := none }
/-- jdk/internal/util/ArraysSupport -/
def k14 : Class := { plain "jdk/internal/util/ArraysSupport" (some 0) with
  accessFlags := 33
  interfaces := #[]
  cf := some (fileOf pool14 21 #[] #[{ accessFlags := 2, nameIndex := 9, descriptorIndex := 19, attributes := #[] }] 33 16 #[] #[{ accessFlags := 24, nameIndex := 28, descriptorIndex := 29, attributes := #[] }, { accessFlags := 26, nameIndex := 38, descriptorIndex := 39, attributes := #[] }, { accessFlags := 25, nameIndex := 121, descriptorIndex := 25, attributes := #[] }, { accessFlags := 25, nameIndex := 131, descriptorIndex := 25, attributes := #[] }, { accessFlags := 25, nameIndex := 137, descriptorIndex := 25, attributes := #[] }, { accessFlags := 25, nameIndex := 143, descriptorIndex := 25, attributes := #[] }, { accessFlags := 25, nameIndex := 53, descriptorIndex := 25, attributes := #[] }, { accessFlags := 25, nameIndex := 24, descriptorIndex := 25, attributes := #[] }, { accessFlags := 25, nameIndex := 162, descriptorIndex := 25, attributes := #[] }, { accessFlags := 25, nameIndex := 187, descriptorIndex := 25, attributes := #[] }, { accessFlags := 26, nameIndex := 48, descriptorIndex := 25, attributes := #[] }, { accessFlags := 25, nameIndex := 277, descriptorIndex := 25, attributes := #[] }, { accessFlags := 25, nameIndex := 280, descriptorIndex := 25, attributes := #[] }, { accessFlags := 25, nameIndex := 282, descriptorIndex := 25, attributes := #[] }, { accessFlags := 25, nameIndex := 284, descriptorIndex := 25, attributes := #[] }, { accessFlags := 25, nameIndex := 286, descriptorIndex := 25, attributes := #[] }, { accessFlags := 25, nameIndex := 288, descriptorIndex := 25, attributes := #[] }, { accessFlags := 25, nameIndex := 290, descriptorIndex := 25, attributes := #[] }, { accessFlags := 25, nameIndex := 292, descriptorIndex := 25, attributes := #[] }, { accessFlags := 26, nameIndex := 108, descriptorIndex := 109, attributes := #[] }, { accessFlags := 25, nameIndex := 294, descriptorIndex := 25, attributes := #[] }])
  fields := #[{ name := "U", type := (.object "jdk/internal/misc/Unsafe"), accessFlags := 24, slot := 0, constantValue := 0 }, { name := "BIG_ENDIAN", type := .boolean, accessFlags := 26, slot := 1, constantValue := 0 }, { name := "LOG2_ARRAY_BOOLEAN_INDEX_SCALE", type := .int, accessFlags := 25, slot := 2, constantValue := 0 }, { name := "LOG2_ARRAY_BYTE_INDEX_SCALE", type := .int, accessFlags := 25, slot := 3, constantValue := 0 }, { name := "LOG2_ARRAY_CHAR_INDEX_SCALE", type := .int, accessFlags := 25, slot := 4, constantValue := 0 }, { name := "LOG2_ARRAY_SHORT_INDEX_SCALE", type := .int, accessFlags := 25, slot := 5, constantValue := 0 }, { name := "LOG2_ARRAY_INT_INDEX_SCALE", type := .int, accessFlags := 25, slot := 6, constantValue := 0 }, { name := "LOG2_ARRAY_LONG_INDEX_SCALE", type := .int, accessFlags := 25, slot := 7, constantValue := 0 }, { name := "LOG2_ARRAY_FLOAT_INDEX_SCALE", type := .int, accessFlags := 25, slot := 8, constantValue := 0 }, { name := "LOG2_ARRAY_DOUBLE_INDEX_SCALE", type := .int, accessFlags := 25, slot := 9, constantValue := 0 }, { name := "LOG2_BYTE_BIT_SIZE", type := .int, accessFlags := 26, slot := 10, constantValue := 0 }, { name := "T_BOOLEAN", type := .int, accessFlags := 25, slot := 11, constantValue := 0 }, { name := "T_CHAR", type := .int, accessFlags := 25, slot := 12, constantValue := 0 }, { name := "T_FLOAT", type := .int, accessFlags := 25, slot := 13, constantValue := 0 }, { name := "T_DOUBLE", type := .int, accessFlags := 25, slot := 14, constantValue := 0 }, { name := "T_BYTE", type := .int, accessFlags := 25, slot := 15, constantValue := 0 }, { name := "T_SHORT", type := .int, accessFlags := 25, slot := 16, constantValue := 0 }, { name := "T_INT", type := .int, accessFlags := 25, slot := 17, constantValue := 0 }, { name := "T_LONG", type := .int, accessFlags := 25, slot := 18, constantValue := 0 }, { name := "JLA", type := (.object "jdk/internal/access/JavaLangAccess"), accessFlags := 26, slot := 19, constantValue := 0 }, { name := "SOFT_MAX_ARRAY_LENGTH", type := .int, accessFlags := 25, slot := 20, constantValue := 0 }]
  methods := #[k14m0]
  instanceTypes := #[]
  staticTypes := #[(.object "jdk/internal/misc/Unsafe"), .boolean, .int, .int, .int, .int, .int, .int, .int, .int, .int, .int, .int, .int, .int, .int, .int, .int, .int, (.object "jdk/internal/access/JavaLangAccess"), .int]
  resolved := Array.replicate 378 none
  statics := none }

def pool15 : Array CpInfo := pool [(1, u "java/lang/Cloneable"), (0, .class_ 1), (0, u "java/lang/Object"), (0, .class_ 3)] 3

/-- java/lang/Cloneable -/
def k15 : Class := { plain "java/lang/Cloneable" (some 0) with
  accessFlags := 1537
  interfaces := #[]
  cf := some (fileOf pool15 2 #[] #[] 1537 4 #[] #[])
  fields := #[]
  methods := #[]
  instanceTypes := #[]
  staticTypes := #[]
  resolved := Array.replicate 8 none
  statics := none }

/-- the primitive byte -/
def k16 : Class := { plain "byte" none with kind := .primitive 'B', accessFlags := 0x411 }
/-- [B -/
def k17 : Class := { plain "[B" (some 0) with kind := .array 16 .byte, interfaces := #[15, 2], accessFlags := 1041 }

/-- the primitive char -/
def k18 : Class := { plain "char" none with kind := .primitive 'C', accessFlags := 0x411 }
/-- [C -/
def k19 : Class := { plain "[C" (some 0) with kind := .array 18 .char, interfaces := #[15, 2], accessFlags := 1041 }

/-- the primitive int -/
def k20 : Class := { plain "int" none with kind := .primitive 'I', accessFlags := 0x411 }
/-- [I -/
def k21 : Class := { plain "[I" (some 0) with kind := .array 20 .int, interfaces := #[15, 2], accessFlags := 1041 }

def heap : Heap := #[{ cls := 7, slots := #[.long 0, .int 1, .null, .int 0, .null, .int 0, .int 0], vm := .statics 7 },
  { cls := 13, slots := #[.null, .null, .null], vm := .statics 13 }]
def classes : Array Class := #[k0, k1, k2, k3, k4, k5, k6, k7, k8, k9, k10, k11, k12, k13, k14, k15, k16, k17, k18, k19, k20, k21]
def interned : List (Array UInt16 × Addr) := []
def slotsUsed : Nat := 10
def theMethod : MethodId := ⟨1, 2⟩
def args0 : Array Value := #[.int 0, .int 0, .int 0, .int 0]
def aboutOver (below : List Frame) : State where
  vm := { classes := classes, interned := interned.toArray }
  heap := heap
  slotsUsed := slotsUsed
  threads := #[{ frames := .invoking theMethod args0 :: below }]
def below0 : List Frame := [.native { method := ⟨0, 0⟩, args := #[] }]
def about1 : State := aboutOver below0
def p0 : Program := .bare "" "" ""
def e0 : Env := launch0.env 0 0 0
theorem w_frames : about1.frames = Frame.invoking theMethod args0 :: below0 := rfl
set_option maxRecDepth 65536 in
theorem w_args : argsFit about1.vm theMethod args0 = true := by decide +kernel
set_option maxRecDepth 65536 in
theorem w_heap : heapFits about1 = true := by decide +kernel
set_option maxRecDepth 65536 in
theorem w_runnable : about1.curStatus? = some .runnable := by decide +kernel
set_option maxRecDepth 65536 in
theorem w_alone : about1.alone = true := by decide +kernel
set_option maxRecDepth 65536 in
theorem w_named : about1.methodNamed? x = some theMethod := by decide +kernel
set_option maxRecDepth 65536 in
theorem w_hears : about1.hears theMethod below0 = true := by decide +kernel
set_option maxRecDepth 65536 in
theorem w_ripe : about1.ripe theMethod args0 below0 = true := by decide +kernel
theorem w_running : about1.status = .running := rfl
set_option maxRecDepth 65536 in
theorem w_room : about1.hasRoom e0.platform room_1 = true :=
  launch0.hasRoom_least _ room_1 (by decide +kernel) (by decide +kernel) (by decide +kernel) (by decide +kernel) (by decide +kernel) (by decide +kernel)
theorem allAtoms_all (ts : List Jvm.Cond) (a : Array Jvm.Value) (st : Jvm.State) : (allAtoms ts).before a st = ts.all (fun c => c.before a st) := by
  induction ts with
  | nil => rfl
  | cons c t ih =>
    show (Jvm.Cond.and c (allAtoms t)).before a st = _
    rw [Jvm.Cond.before_and, ih, List.all_cons]
def words1 : List Jvm.Cond := Jvm.Cond.code x code maxLocals ret :: tables_1
/-- a 'code' word, met by the world's own term for the bytes: nothing is compared byte by byte -/
theorem code_word {y : MethodName} {bytes : ByteArray} {mx : Nat} {rt : Option FieldType} {a : Array Value} {s : State} {m : MethodId} {meth : Method} {c : Code} (h1 : s.methodNamed? y = some m) (h2 : s.vm.method? m = some meth) (h3 : meth.code = some c) (h4 : c.code = bytes)
    (h5 : (c.maxLocals == mx && c.exceptionTable.isEmpty && decide (c.maxStack ≤ mostOperands) && decide (meth.sig.returnType = rt) && !meth.locks && decide (parseMethodDescriptor y.desc = some meth.sig)) = true) : (Jvm.Cond.code y bytes mx rt).before a s = true := by
  simp only [Bool.and_eq_true, beq_iff_eq, Bool.not_eq_true', decide_eq_true_eq] at h5
  obtain ⟨⟨⟨⟨⟨g1, g2⟩, g3⟩, g4⟩, g5⟩, g6⟩ := h5
  simp [Cond.before, Cond.holds, Cond.value, h1, h2, h3, h4, g1, g2, g3, g4, g5, g6]
def isCode : Jvm.Cond → Bool
  | .code _ _ _ _ => true
  | _ => false
theorem all_split {L : List Jvm.Cond} {P : Jvm.Cond → Bool} (h1 : L.all (fun c => isCode c || P c) = true) (h2 : ∀ c ∈ L.filter isCode, P c = true) : L.all P = true := by
  refine List.all_eq_true.mpr fun c hc => ?_
  have h := List.all_eq_true.mp h1 c hc
  rcases Bool.eq_false_or_eq_true (isCode c) with hi | hi
  · exact h2 c (List.mem_filter.mpr ⟨hc, hi⟩)
  · simpa [hi] using h
set_option maxRecDepth 65536 in
theorem w_c0 : (Jvm.Cond.code x code maxLocals ret).before args0 about1 = true := code_word (m := ⟨1, 2⟩) (meth := k1m2) (c := k1c2) (by decide +kernel) rfl rfl rfl (by decide +kernel)
set_option maxRecDepth 65536 in
theorem w_c1 : (Jvm.Cond.code ({ cls := "java/lang/String", name := "<init>", desc := "([C)V" } : Jvm.MethodName) jdk_42_method_3_code (2 : Nat) (Option.none : Option Jvm.ClassFile.FieldType)).before args0 about1 = true := code_word (m := ⟨7, 1⟩) (meth := k7m1) (c := k7c1) (by decide +kernel) rfl rfl rfl (by decide +kernel)
set_option maxRecDepth 65536 in
theorem w_c2 : (Jvm.Cond.code ({ cls := "java/lang/String", name := "<init>", desc := "([CIILjava/lang/Void;)V" } : Jvm.MethodName) jdk_42_method_149_code (6 : Nat) (Option.none : Option Jvm.ClassFile.FieldType)).before args0 about1 = true := code_word (m := ⟨7, 3⟩) (meth := k7m3) (c := k7c3) (by decide +kernel) rfl rfl rfl (by decide +kernel)
set_option maxRecDepth 65536 in
theorem w_c3 : (Jvm.Cond.code ({ cls := "java/lang/Object", name := "<init>", desc := "()V" } : Jvm.MethodName) object_method_1_code (1 : Nat) (Option.none : Option Jvm.ClassFile.FieldType)).before args0 about1 = true := code_word (m := ⟨0, 0⟩) (meth := k0m0) (c := k0c0) (by decide +kernel) rfl rfl rfl (by decide +kernel)
set_option maxRecDepth 65536 in
theorem w_c4 : (Jvm.Cond.code ({ cls := "java/lang/StringUTF16", name := "compress", desc := "([CII)[B" } : Jvm.MethodName) jdk_52_method_16_code (6 : Nat) (Option.some (Jvm.ClassFile.FieldType.array Jvm.ClassFile.FieldType.byte))).before args0 about1 = true := code_word (m := ⟨8, 2⟩) (meth := k8m2) (c := k8c2) (by decide +kernel) rfl rfl rfl (by decide +kernel)
set_option maxRecDepth 65536 in
theorem w_c5 : (Jvm.Cond.code ({ cls := "java/lang/StringUTF16", name := "compress", desc := "([CI[BII)I" } : Jvm.MethodName) jdk_52_method_21_code (7 : Nat) (Option.some Jvm.ClassFile.FieldType.int)).before args0 about1 = true := code_word (m := ⟨8, 3⟩) (meth := k8m3) (c := k8c3) (by decide +kernel) rfl rfl rfl (by decide +kernel)
set_option maxRecDepth 65536 in
theorem w_c6 : (Jvm.Cond.code ({ cls := "java/lang/StringUTF16", name := "coderFromArrayLen", desc := "([BI)B" } : Jvm.MethodName) jdk_52_method_15_code (2 : Nat) (Option.some Jvm.ClassFile.FieldType.byte)).before args0 about1 = true := code_word (m := ⟨8, 1⟩) (meth := k8m1) (c := k8c1) (by decide +kernel) rfl rfl rfl (by decide +kernel)
set_option maxRecDepth 65536 in
theorem w_c7 : (Jvm.Cond.code ({ cls := "com/example/domicile/domicile/tei/TeiVocabulary", name := "<init>", desc := "()V" } : Jvm.MethodName) prog_69_method_1_code (1 : Nat) (Option.none : Option Jvm.ClassFile.FieldType)).before args0 about1 = true := code_word (m := ⟨11, 0⟩) (meth := k11m0) (c := k11c0) (by decide +kernel) rfl rfl rfl (by decide +kernel)
set_option maxRecDepth 65536 in
theorem w_c8 : (Jvm.Cond.code ({ cls := "com/example/domicile/domicile/tei/TeiVocabulary", name := "mayBeRecord", desc := "(Ljava/lang/String;Ljava/lang/String;)Z" } : Jvm.MethodName) prog_69_method_8_code (3 : Nat) (Option.some Jvm.ClassFile.FieldType.boolean)).before args0 about1 = true := code_word (m := ⟨11, 1⟩) (meth := k11m1) (c := k11c1) (by decide +kernel) rfl rfl rfl (by decide +kernel)
set_option maxRecDepth 65536 in
theorem w_c9 : (Jvm.Cond.code ({ cls := "java/lang/String", name := "equals", desc := "(Ljava/lang/Object;)Z" } : Jvm.MethodName) jdk_42_method_66_code (3 : Nat) (Option.some Jvm.ClassFile.FieldType.boolean)).before args0 about1 = true := code_word (m := ⟨7, 2⟩) (meth := k7m2) (c := k7c2) (by decide +kernel) rfl rfl rfl (by decide +kernel)
set_option maxRecDepth 65536 in
theorem w_c10 : (Jvm.Cond.code ({ cls := "java/lang/StringLatin1", name := "equals", desc := "([B[B)Z" } : Jvm.MethodName) jdk_43_method_13_code (3 : Nat) (Option.some Jvm.ClassFile.FieldType.boolean)).before args0 about1 = true := code_word (m := ⟨12, 1⟩) (meth := k12m1) (c := k12c1) (by decide +kernel) rfl rfl rfl (by decide +kernel)
set_option maxRecDepth 65536 in
theorem w_c11 : (Jvm.Cond.code ({ cls := "com/example/domicile/domicile/tei/TeiVocabularyMayBeRecordPinLaw", name := "drawn", desc := "(II)Ljava/lang/String;" } : Jvm.MethodName) method_2_code (5 : Nat) (Option.some (Jvm.ClassFile.FieldType.object "java/lang/String"))).before args0 about1 = true := code_word (m := ⟨1, 1⟩) (meth := k1m1) (c := k1c1) (by decide +kernel) rfl rfl rfl (by decide +kernel)
def codes1 : List Jvm.Cond := [Jvm.Cond.code x code maxLocals ret, Jvm.Cond.code ({ cls := "java/lang/String", name := "<init>", desc := "([C)V" } : Jvm.MethodName) jdk_42_method_3_code (2 : Nat) (Option.none : Option Jvm.ClassFile.FieldType), Jvm.Cond.code ({ cls := "java/lang/String", name := "<init>", desc := "([CIILjava/lang/Void;)V" } : Jvm.MethodName) jdk_42_method_149_code (6 : Nat) (Option.none : Option Jvm.ClassFile.FieldType), Jvm.Cond.code ({ cls := "java/lang/Object", name := "<init>", desc := "()V" } : Jvm.MethodName) object_method_1_code (1 : Nat) (Option.none : Option Jvm.ClassFile.FieldType), Jvm.Cond.code ({ cls := "java/lang/StringUTF16", name := "compress", desc := "([CII)[B" } : Jvm.MethodName) jdk_52_method_16_code (6 : Nat) (Option.some (Jvm.ClassFile.FieldType.array Jvm.ClassFile.FieldType.byte)), Jvm.Cond.code ({ cls := "java/lang/StringUTF16", name := "compress", desc := "([CI[BII)I" } : Jvm.MethodName) jdk_52_method_21_code (7 : Nat) (Option.some Jvm.ClassFile.FieldType.int), Jvm.Cond.code ({ cls := "java/lang/StringUTF16", name := "coderFromArrayLen", desc := "([BI)B" } : Jvm.MethodName) jdk_52_method_15_code (2 : Nat) (Option.some Jvm.ClassFile.FieldType.byte), Jvm.Cond.code ({ cls := "com/example/domicile/domicile/tei/TeiVocabulary", name := "<init>", desc := "()V" } : Jvm.MethodName) prog_69_method_1_code (1 : Nat) (Option.none : Option Jvm.ClassFile.FieldType), Jvm.Cond.code ({ cls := "com/example/domicile/domicile/tei/TeiVocabulary", name := "mayBeRecord", desc := "(Ljava/lang/String;Ljava/lang/String;)Z" } : Jvm.MethodName) prog_69_method_8_code (3 : Nat) (Option.some Jvm.ClassFile.FieldType.boolean), Jvm.Cond.code ({ cls := "java/lang/String", name := "equals", desc := "(Ljava/lang/Object;)Z" } : Jvm.MethodName) jdk_42_method_66_code (3 : Nat) (Option.some Jvm.ClassFile.FieldType.boolean), Jvm.Cond.code ({ cls := "java/lang/StringLatin1", name := "equals", desc := "([B[B)Z" } : Jvm.MethodName) jdk_43_method_13_code (3 : Nat) (Option.some Jvm.ClassFile.FieldType.boolean), Jvm.Cond.code ({ cls := "com/example/domicile/domicile/tei/TeiVocabularyMayBeRecordPinLaw", name := "drawn", desc := "(II)Ljava/lang/String;" } : Jvm.MethodName) method_2_code (5 : Nat) (Option.some (Jvm.ClassFile.FieldType.object "java/lang/String"))]
set_option maxRecDepth 65536 in
theorem codes_eq : words1.filter isCode = codes1 := rfl
theorem w_codes : ∀ c ∈ words1.filter isCode, c.before args0 about1 = true := by
  rw [codes_eq]
  intro c hc
  simp only [codes1, List.mem_cons, List.not_mem_nil, or_false] at hc
  rcases hc with rfl | rfl | rfl | rfl | rfl | rfl | rfl | rfl | rfl | rfl | rfl | rfl
  · exact w_c0
  · exact w_c1
  · exact w_c2
  · exact w_c3
  · exact w_c4
  · exact w_c5
  · exact w_c6
  · exact w_c7
  · exact w_c8
  · exact w_c9
  · exact w_c10
  · exact w_c11
set_option maxRecDepth 65536 in
theorem w_t1 : (words1.take 24).all (fun c => isCode c || c.before args0 about1) = true := by decide +kernel
set_option maxRecDepth 65536 in
theorem w_t2 : ((words1.drop 24).take 24).all (fun c => isCode c || c.before args0 about1) = true := by decide +kernel
set_option maxRecDepth 65536 in
theorem w_t3 : (((words1.drop 24).drop 24).take 24).all (fun c => isCode c || c.before args0 about1) = true := by decide +kernel
set_option maxRecDepth 65536 in
theorem w_t4 : (((words1.drop 24).drop 24).drop 24).all (fun c => isCode c || c.before args0 about1) = true := by decide +kernel
theorem w_tables : (allAtoms (Jvm.Cond.code x code maxLocals ret :: tables_1)).before args0 about1 = true := by
  rw [allAtoms_all]
  show words1.all (fun c => c.before args0 about1) = true
  refine all_split ?_ w_codes
  rw [← List.take_append_drop 24 words1, List.all_append, w_t1, ← List.take_append_drop 24 (words1.drop 24), List.all_append, w_t2, ← List.take_append_drop 24 ((words1.drop 24).drop 24), List.all_append, w_t3, w_t4]
  rfl
set_option maxRecDepth 65536 in
theorem w_rest : rest_1_c.before args0 about1 = true := by decide +kernel
set_option maxRecDepth 65536 in
theorem w_case : (Jvm.Cond.and given_1 narrow_1).before args0 about1 = true := by decide +kernel
set_option maxRecDepth 65536 in
theorem w_consts : constsHeld consts_1 about1 := Jvm.Lit.constsHeldB_iff.mp (by decide +kernel)
theorem w_applies : (headSpec (Jvm.Cond.code x code maxLocals ret :: tables_1) room_1).applies x e0.platform about1 = true :=
  (Spec.applies_iff w_frames).mpr ⟨w_running, w_runnable, w_alone, w_named, w_hears, w_ripe, w_room, w_tables⟩
theorem atStart : AtStart classFile x code maxLocals ret World_1 tables_1 room_1 Calls_1 rest_1 Pre_1 launch0 p0 e0 about1 theMethod args0 below0 :=
  ⟨lists_1, trivial, launch0.admits_env _ _ _, launch0.least_env, fairChoices_fair.cas, fairChoices_fair.clock, w_frames, w_args, w_heap, w_applies, ⟨w_consts, trivial⟩, w_rest, w_case⟩
end start1
theorem witness_1 : WitnessClaimed_1 := ⟨start1.p0, start1.e0, start1.about1, start1.theMethod, start1.args0, start1.below0, start1.atStart⟩
end Jvm.Pilot.@@N@@
