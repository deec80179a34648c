import JvmDerived
import JvmDerived.Pilot.@@N@@Statement
import JvmDerived.Pilot.@@N@@Code
set_option linter.unusedVariables false
set_option linter.unusedSimpArgs false
@@BLOCK:HandJ.lean.txt@@
@@BLOCK:SymMore.lean.txt@@
namespace Jvm.RoadKit
open Sem ClassFile Op Lib Jvm.Stand Jvm.Free Jvm.LawKit
section New
variable {p : Program} {l : Launch} {e : Env} {R : Room} {s : State} {m : MethodId} {args : Array Value} {below : List Frame} {meth : Method} {c : Code} {T : State} {locs : List Loc} {cells slots : Nat}
theorem retI (X : Stand p l e R s m args below meth c T locs cells slots) (hx : p.tables.exec = Jvm.exec) {pc : Nat} {Ls : Array Slot} {z : Int32} {rest : List Value} (hret : meth.sig.returnType = some .int) (hd : decode c.code pc = .ok (.ireturn, 1)) {fs : List Frame}
    (hl : ∀ (f : JFrame) (acts : List Action), f.method = m → f.locked = none → f.entered = [] → (doReturn e (T.setTop f) acts (some (.int z))).1 = T.setFrames fs) : Steps p.tables e below (T.setTop (mkF m pc Ls (.int z :: rest))) (T.setFrames fs) := by
  have hm' : T.vm.method? m = some meth := X.method'
  have hn : narrow .int (.int z) = .int z := rfl
  show Steps p.tables e below (T.setTop { method := m, pc := pc, locals := Ls, stack := _ :: rest, locked := none }) _
  jvm_step X.here [X.here.top, hx, hd, hm', hret, hn]
  first | (intro acts; rw [hl _ acts rfl rfl rfl]) | rw [hl _ _ rfl rfl rfl]
  exact Steps.refl _
end New
end Jvm.RoadKit
namespace Jvm.Pilot.@@N@@
open Jvm Jvm.ClassFile Sem Op Lib Jvm.Free Jvm.Stand Jvm.LawKit Jvm.RoadKit Bundle Jvm.Pilot.@@N@@.Jvm.D

def own_ch (v : Int32) : Prop := 0 ≤ v.toInt ∧ v.toInt < 65536
def own_lo (v : Int32) : Int32 := nar .byte ((v >>> ((0 : Int32) &&& 31)).toInt8.toInt32)
def own_hi (v : Int32) : Int32 := nar .byte ((v >>> ((8 : Int32) &&& 31)).toInt8.toInt32)
def own_upd (f : Nat → Int32) (i : Nat) (x : Int32) : Nat → Int32 := fun j => if j = i then x else f j
def own_u16 (c : Nat → Int32) (o : Nat) : Nat → Int32 := fun i => if i % 2 = 0 then own_lo (c (o + i / 2)) else own_hi (c (o + i / 2))
def own_b8 (c : Nat → Int32) (o : Nat) : Nat → Int32 := fun i => nar .byte ((c (o + i)).toInt8.toInt32)
def own_of (vs : List Int32) : Nat → Int32 := fun i => vs.getD i 0
def own_zero : Nat → Int32 := fun _ => 0
theorem own_ind {P : Prop} (I : Nat → Prop) (h0 : I 0 → P) (hS : ∀ d, I (d + 1) → (I d → P) → P) : ∀ d, I d → P
  | 0, h => h0 h
  | d + 1, h => hS d h (own_ind I h0 hS d)
theorem own_i0 : (0 : Int32).toInt = ((0 : Nat) : Int) := rfl
theorem own_i1 : (1 : Int32).toInt = ((1 : Nat) : Int) := rfl
theorem own_i2 : (2 : Int32).toInt = ((2 : Nat) : Int) := rfl
theorem own_i3 : (3 : Int32).toInt = ((3 : Nat) : Int) := rfl
theorem own_i4 : (4 : Int32).toInt = ((4 : Nat) : Int) := rfl
theorem own_i5 : (5 : Int32).toInt = ((5 : Nat) : Int) := rfl
theorem own_i6 : (6 : Int32).toInt = ((6 : Nat) : Int) := rfl
theorem own_i7 : (7 : Int32).toInt = ((7 : Nat) : Int) := rfl
theorem own_i8 : (8 : Int32).toInt = ((8 : Nat) : Int) := rfl
theorem own_inc {x : Int32} {k : Nat} (h : x.toInt = (k : Int)) (hk : k < 1073741824) : (x + (1 : Int32)).toInt = ((k + 1 : Nat) : Int) := by
  have q := c_iadd x 1; have r := rng32 (x + 1); have e : (1 : Int32).toInt = 1 := rfl
  omega
theorem own_shl1 {x : Int32} {k : Nat} (h : x.toInt = (k : Int)) (hk : k < 536870912) : (x <<< ((1 : Int32) &&& 31)).toInt = ((2 * k : Nat) : Int) := by
  have q := c_ishl x 1 1 (by decide); have r := rng32 (x <<< ((1 : Int32) &&& 31))
  omega
theorem own_cl {x : Int32} {k : Nat} (h : x.toInt = (k : Int)) : x.toNatClampNeg = k := by simp only [Int32.toNatClampNeg]; omega
theorem own_nn {x : Int32} {k : Nat} (h : x.toInt = (k : Int)) : ¬ x < (0 : Int32) := by
  rw [Int32.lt_iff_toInt_lt]; have e : (0 : Int32).toInt = 0 := rfl; omega
theorem own_lt {x y : Int32} {i k : Nat} (h : x.toInt = (i : Int)) (h' : y.toInt = (k : Int)) (q : i < k) : x < y := by
  rw [Int32.lt_iff_toInt_lt]; omega
theorem own_ltm {x : Int32} {k : Nat} (h : x.toInt = (k : Int)) (hk : k < 1073741823) : x < (1073741823 : Int32) := by
  rw [Int32.lt_iff_toInt_lt]; have e : (1073741823 : Int32).toInt = 1073741823 := rfl; omega
theorem own_ne0 {x : Int32} {k : Nat} (h : x.toInt = (k : Int)) (hk : 0 < k) : ¬ (x = (0 : Int32)) := fun e => by
  rw [e] at h; have e : (0 : Int32).toInt = 0 := rfl; omega
theorem own_eq0 {x : Int32} (h : x.toInt = ((0 : Nat) : Int)) : x = (0 : Int32) := Int32.toInt_inj.mp h
theorem own_nlt {x y : Int32} {i k : Nat} (h : x.toInt = (i : Int)) (h' : y.toInt = (k : Int)) (q : k ≤ i) : ¬ x < y := by
  rw [Int32.lt_iff_toInt_lt]; omega
theorem own_of_nat {n : Nat} (h : n < 2147483648) : (Nat.toInt32 n).toInt = (n : Int) := by
  exact len_toInt h
def own_G (Z : State) (h : Heap) (a : Addr) (ty : FieldType) (n : Nat) (f : Nat → Int32) : Prop := ∃ c : Cell, Arr Z h a c ty ∧ c.slots.size = n ∧ n < 2147483648 ∧ ∀ i, i < n → c.slots[i]? = some (.int (f i)) ∧ fits ty (.int (f i)) = true
section OwnG
variable {Z : State} {h h' : Heap} {a b : Addr} {ty : FieldType} {n : Nat} {f g : Nat → Int32} {sl : Nat} {v : Value} {ws : List Addr}
theorem own_G.lt (F : own_G Z h a ty n f) : a < h.size := by obtain ⟨c, A, -⟩ := F; exact A.lt
theorem own_G.small (F : own_G Z h a ty n f) : n < 2147483648 := by obtain ⟨c, A, -, q, -⟩ := F; exact q
theorem own_G.ext (F : own_G Z h a ty n f) (E : Ext h h') : own_G Z h' a ty n f := by obtain ⟨c, A, r⟩ := F; exact ⟨c, A.ext E, r⟩
theorem own_G.other (F : own_G Z h b ty n f) (W : Wr h h' a sl v) (q : b ≠ a) : own_G Z h' b ty n f := by obtain ⟨c, A, r⟩ := F; exact ⟨c, A.other W q, r⟩
theorem own_G.keep (F : own_G Z h a ty n f) (K : Keep h h' ws) (q : a ∉ ws) : own_G Z h' a ty n f := by obtain ⟨c, A, r⟩ := F; exact ⟨c, ⟨K.2.1 a c A.1 q, A.2⟩, r⟩
theorem own_G.congr (F : own_G Z h a ty n f) (q : ∀ i, i < n → f i = g i) : own_G Z h a ty n g := by
  obtain ⟨c, A, r1, r2, r3⟩ := F
  exact ⟨c, A, r1, r2, fun i hi => by rw [← q i hi]; exact r3 i hi⟩
theorem own_G.ofV {k : ClassId} {z : Int32} {vs : List Int32} (F : Arv Z h a k ty z (vs.map Value.int) (.int 0)) (q : z.toInt = (n : Int)) : own_G Z h a ty n (own_of vs) := by
  obtain ⟨c, A, -, r2, r3, r4, r5⟩ := F
  rw [own_cl q] at r2
  have e : ∀ i, (vs.map Value.int).getD i (.int 0) = .int (own_of vs i) := fun i => by
    simp only [own_of, List.getD_eq_getElem?_getD, List.getElem?_map]; cases vs[i]? <;> rfl
  have := rng32 z
  exact ⟨c, A, r2, by omega, fun i hi => ⟨by rw [r4 i (by omega), e], by rw [← e]; exact r5 i (by omega)⟩⟩
theorem own_G.set {x : Int32} {i : Nat} (F : own_G Z h a ty n f) (W : Wr h h' a i (.int x)) (hv : fits ty (.int x) = true) : own_G Z h' a ty n (own_upd f i x) := by
  obtain ⟨c, A, r1, r2, r3⟩ := F
  refine ⟨_, A.same W, by rw [sz_set]; exact r1, r2, fun j hj => ?_⟩
  unfold own_upd
  by_cases u : j = i
  · subst u; rw [if_pos rfl]; exact ⟨by simp [Cell.setSlot, r1, hj], hv⟩
  · rw [if_neg u]; refine ⟨?_, (r3 j hj).2⟩
    have := (r3 j hj).1
    simp only [Cell.setSlot]; rw [Array.getElem?_setIfInBounds_ne (Ne.symm u)]; exact this
end OwnG
section OwnSteps
variable {p : Program} {l : Launch} {e : Env} {R : Room} {s : State} {m : MethodId} {args : Array Value} {below : List Frame} {meth : Method} {c : Code} {T : State} {locs : List Loc} {cells slots : Nat} {Z : State} {a0 : Array Value} {h : Heap} {a : Addr} {n : Nat} {f : Nat → Int32}
theorem own_in {cl : Cell} {j : Int32} {i : Nat} (S : cl.slots.size = n) (hj : j.toInt = (i : Int)) (hi : i < n) : ¬ (j < 0 ∨ cl.slots.size ≤ j.toNatClampNeg) := by
  rw [own_cl hj, S]; intro q; rcases q with q | q
  · exact own_nn hj q
  · omega
theorem own_ldC (X : Stand p l e R s m args below meth c T locs cells slots) (hx : p.tables.exec = Jvm.exec) (hZ : Z.Warmed39 s.vm) (eT : T.heap = h) (A : own_G Z h a .char n f) {j : Int32} {i : Nat} (hj : j.toInt = (i : Int)) (hi : i < n) {g : JFrame} (hg : g.method = m) {rest : List Value} (hs : g.stack = .int j :: .ref a :: rest) (hd : decode c.code g.pc = .ok (.caload, 1)) {t : State}
    (hr : Steps p.tables e below (T.setTop { g with pc := g.pc + 1, stack := .int (f i) :: rest }) t) : Steps p.tables e below (T.setTop g) t := by
  obtain ⟨cl, Ar, S, -, H⟩ := A
  exact X.caload hx (j := j) (v := .int (f i)) (by rw [eT]; exact Ar.1) (State.isArrayOf_alike hZ.alike Ar.2.1) Ar.2.2 (own_in S hj hi) (by rw [own_cl hj]; exact (H i hi).1) hg hs hd _ hr
theorem own_ldB (X : Stand p l e R s m args below meth c T locs cells slots) (hx : p.tables.exec = Jvm.exec) (hZ : Z.Warmed39 s.vm) (eT : T.heap = h) (A : own_G Z h a .byte n f) {j : Int32} {i : Nat} (hj : j.toInt = (i : Int)) (hi : i < n) {g : JFrame} (hg : g.method = m) {rest : List Value} (hs : g.stack = .int j :: .ref a :: rest) (hd : decode c.code g.pc = .ok (.baload, 1)) {t : State}
    (hr : Steps p.tables e below (T.setTop { g with pc := g.pc + 1, stack := .int (f i) :: rest }) t) : Steps p.tables e below (T.setTop g) t := by
  obtain ⟨cl, Ar, S, -, H⟩ := A
  exact X.baloadBytes hx (j := j) (v := .int (f i)) (by rw [eT]; exact Ar.1) (State.isArrayOf_alike hZ.alike Ar.2.1) Ar.2.2 (own_in S hj hi) (by rw [own_cl hj]; exact (H i hi).1) hg hs hd _ hr
theorem own_len (X : Stand p l e R s m args below meth c T locs cells slots) (hx : p.tables.exec = Jvm.exec) (hZ : Z.Warmed39 s.vm) (eT : T.heap = h) {ty : FieldType} (A : own_G Z h a ty n f) {g : JFrame} (hg : g.method = m) {rest : List Value} (hs : g.stack = .ref a :: rest) (hd : decode c.code g.pc = .ok (.arraylength, 1)) {t : State}
    (hr : Steps p.tables e below (T.setTop { g with pc := g.pc + 1, stack := .int (Nat.toInt32 n) :: rest }) t) : Steps p.tables e below (T.setTop g) t := by
  obtain ⟨cl, Ar, S, -, H⟩ := A
  refine X.arraylength hx (by rw [eT]; exact Ar.1) (State.isArrayOf_alike hZ.alike Ar.2.1) hg hs hd _ ?_
  rw [S]; exact hr
theorem own_stB (X : Stand p l e R s m args below meth c T locs cells slots) (hx : p.tables.exec = Jvm.exec) (hZ : Z.Warmed39 s.vm) (eT : T.heap = h) (A : own_G Z h a .byte n f) {j x : Int32} {i : Nat} (hj : j.toInt = (i : Int)) (hi : i < n) {g : JFrame} (hg : g.method = m) {rest : List Value} (hs : g.stack = .int x :: .int j :: .ref a :: rest) (hd : decode c.code g.pc = .ok (.bastore, 1)) :
    ∃ T' h', Stand p l e R s m args below meth c T' (locs ++ [⟨a, i⟩]) cells slots ∧ T'.heap = h' ∧ Wr h h' a i (.int (nar .byte x)) ∧ own_G Z h' a .byte n (own_upd f i (nar .byte x)) ∧ ∀ target, Steps p.tables e below (T'.setTop { g with pc := g.pc + 1, stack := rest }) target → Steps p.tables e below (T.setTop g) target := by
  have A0 := A
  obtain ⟨cl, Ar, S, -, H⟩ := A
  obtain ⟨T', h', X', e', W, st⟩ := stB X hx hZ eT Ar (j := j) (own_in S hj hi) hg hs hd
  rw [own_cl hj] at X' W
  exact ⟨T', h', X', e', W, A0.set W (fits_nar_byte _), st⟩
theorem own_stC (X : Stand p l e R s m args below meth c T locs cells slots) (hx : p.tables.exec = Jvm.exec) (hZ : Z.Warmed39 s.vm) (eT : T.heap = h) (A : own_G Z h a .char n f) {j x : Int32} {i : Nat} (hj : j.toInt = (i : Int)) (hi : i < n) {g : JFrame} (hg : g.method = m) {rest : List Value} (hs : g.stack = .int x :: .int j :: .ref a :: rest) (hd : decode c.code g.pc = .ok (.castore, 1)) :
    ∃ T' h', Stand p l e R s m args below meth c T' (locs ++ [⟨a, i⟩]) cells slots ∧ T'.heap = h' ∧ Wr h h' a i (.int (nar .char x)) ∧ own_G Z h' a .char n (own_upd f i (nar .char x)) ∧ ∀ target, Steps p.tables e below (T'.setTop { g with pc := g.pc + 1, stack := rest }) target → Steps p.tables e below (T.setTop g) target := by
  have A0 := A
  obtain ⟨cl, Ar, S, -, H⟩ := A
  obtain ⟨T', h', X', e', W, st⟩ := stC X hx hZ eT Ar (j := j) (own_in S hj hi) hg hs hd
  rw [own_cl hj] at X' W
  exact ⟨T', h', X', e', W, A0.set W (fits_nar_char _), st⟩
theorem own_newB (X : Stand p l e R s m args below meth c T locs cells slots) (hx : p.tables.exec = Jvm.exec) (hZ : Z.Warmed39 s.vm) (w : (Cond.arrayClass .byte).before a0 Z = true) (eT : T.heap = h) {g : JFrame} (hg : g.method = m) (hd : decode c.code g.pc = .ok (.newarray .byte, 2)) {z : Int32} {rest : List Value} (hs : g.stack = .int z :: rest) (hz : z.toInt = (n : Int))
    {cap : Nat} (hcap : n ≤ cap) (hb : cap * 8 ≤ 536870912) (hc : cells + 1 ≤ R.cells) (hl : slots + cap ≤ R.slots) :
    ∃ T' h', Stand p l e R s m args below meth c T' locs (cells + 1) (slots + cap) ∧ T'.heap = h' ∧ Ext h h' ∧ own_G Z h' h.size .byte n own_zero ∧ ∀ target, Steps p.tables e below (T'.setTop { g with pc := g.pc + 2, stack := .ref h.size :: rest }) target → Steps p.tables e below (T.setTop g) target := by
  obtain ⟨T', h', k, X', e', E, A, st⟩ := newP X hx hZ (aty := .byte) w eT hg hd hs (own_nn hz) (cap := cap) (by rw [own_cl hz]; exact hcap) hb hc hl
  have V : Arv Z h' h.size k .byte z (([] : List Int32).map Value.int) (.int 0) := Arv.new A (own_nn hz)
  exact ⟨T', h', X', e', E, (own_G.ofV V hz).congr (fun i _ => rfl), st⟩
theorem own_newC (X : Stand p l e R s m args below meth c T locs cells slots) (hx : p.tables.exec = Jvm.exec) (hZ : Z.Warmed39 s.vm) (w : (Cond.arrayClass .char).before a0 Z = true) (eT : T.heap = h) {g : JFrame} (hg : g.method = m) (hd : decode c.code g.pc = .ok (.newarray .char, 2)) {z : Int32} {rest : List Value} (hs : g.stack = .int z :: rest) (hz : z.toInt = (n : Int))
    {cap : Nat} (hcap : n ≤ cap) (hb : cap * 8 ≤ 536870912) (hc : cells + 1 ≤ R.cells) (hl : slots + cap ≤ R.slots) :
    ∃ T' h', Stand p l e R s m args below meth c T' locs (cells + 1) (slots + cap) ∧ T'.heap = h' ∧ Ext h h' ∧ own_G Z h' h.size .char n own_zero ∧ ∀ target, Steps p.tables e below (T'.setTop { g with pc := g.pc + 2, stack := .ref h.size :: rest }) target → Steps p.tables e below (T.setTop g) target := by
  obtain ⟨T', h', k, X', e', E, A, st⟩ := newP X hx hZ (aty := .char) w eT hg hd hs (own_nn hz) (cap := cap) (by rw [own_cl hz]; exact hcap) hb hc hl
  have V : Arv Z h' h.size k .char z (([] : List Int32).map Value.int) (.int 0) := Arv.new A (own_nn hz)
  exact ⟨T', h', X', e', E, (own_G.ofV V hz).congr (fun i _ => rfl), st⟩
end OwnSteps

def own_cpy (f g : Nat → Int32) (k : Nat) : Nat → Int32 := fun i => if i < k then f i else g i
theorem own_subn {x y : Int32} {a b : Nat} (h : x.toInt = (a : Int)) (h' : y.toInt = (b : Int)) (q : b ≤ a) : (x - y).toInt = ((a - b : Nat) : Int) := by
  have q1 := c_isub x y; have r := rng32 (x - y); have r2 := rng32 x; omega
theorem own_subz {x y : Int32} {a : Nat} (h : x.toInt = (a : Int)) (h' : y.toInt = (a : Int)) : (x - y).toInt = ((0 : Nat) : Int) := by
  have q1 := c_isub x y; have r := rng32 (x - y); have r2 := rng32 x; omega
theorem own_addn {x y : Int32} {a b : Nat} (h : x.toInt = (a : Int)) (h' : y.toInt = (b : Int)) (q : a + b < 1073741824) : (x + y).toInt = ((a + b : Nat) : Int) := by
  have q1 := c_iadd x y; have r := rng32 (x + y); omega
theorem own_mul2 {x : Int32} {a : Nat} (h : x.toInt = (a : Int)) (q : a < 536870912) : ((2 : Int32) * x).toInt = ((2 * a : Nat) : Int) := by
  have q1 := c_imul 2 x; have r := rng32 (2 * x); have e : (2 : Int32).toInt = 2 := rfl; rw [e] at q1; omega
theorem own_eqn {x y : Int32} {a : Nat} (h : x.toInt = (a : Int)) (h' : y.toInt = (a : Int)) : x = y := Int32.toInt_inj.mp (h.trans h'.symm)
theorem own_or3 {x y z : Int32} {a b c : Nat} (hx : x.toInt = (a : Int)) (hy : y.toInt = (b : Int)) (hz : z.toInt = (c : Int)) : ¬ (((x ||| y) ||| z) < (0 : Int32)) := by
  have h1 := (c_orS x y).1 (by omega) (by omega)
  have h2 := (c_orS (x ||| y) z).1 h1 (by omega)
  rw [Int32.lt_iff_toInt_lt]; have e : (0 : Int32).toInt = 0 := rfl; omega
section OwnBuf
variable {Z : State} {h h' : Heap} {a b : Addr} {ty : FieldType} {n : Nat} {f g : Nat → Int32}
theorem own_G.toV (F : own_G Z h a ty n f) : ∃ k, Arv Z h a k ty (Nat.toInt32 n) ((List.range n).map fun i => Value.int (f i)) (.int 0) := by
  obtain ⟨c, A, r1, r2, r3⟩ := F
  have e := own_of_nat r2
  have e2 : ∀ i, i < n → ((List.range n).map fun i => Value.int (f i)).getD i (.int 0) = .int (f i) := fun i hi => by
    simp [List.getD_eq_getElem?_getD, hi]
  exact ⟨c.cls, c, A, rfl, by rw [own_cl e]; exact r1, own_nn e, fun i hi => by rw [e2 i (by omega)]; exact (r3 i (by omega)).1, fun i hi => by rw [e2 i (by omega)]; exact (r3 i (by omega)).2⟩
theorem own_G.ofA {k : ClassId} {z : Int32} {vs : List Value} (F : Arv Z h a k ty z vs (.int 0)) (q : z.toInt = (n : Int)) (e : ∀ i, i < n → vs.getD i (.int 0) = .int (f i)) : own_G Z h a ty n f := by
  obtain ⟨c, A, -, r2, r3, r4, r5⟩ := F
  rw [own_cl q] at r2
  have := rng32 z
  exact ⟨c, A, r2, by omega, fun i hi => ⟨by rw [r4 i (by omega), e i hi], by rw [← e i hi]; exact r5 i (by omega)⟩⟩
variable {p : Program} {l : Launch} {e : Env} {R : Room} {s : State} {m : MethodId} {args : Array Value} {below : List Frame} {meth : Method} {c : Code} {T : State} {locs : List Loc} {cells slots : Nat} {a0 : Array Value}
theorem own_copy (X : Stand p l e R s m args below meth c T locs cells slots) (hx : p.tables.exec = Jvm.exec) (hZ : Z.Warmed39 s.vm) {own : String} {index : Nat} (hown : s.vm.findClass own = some m.cls)
    (w1 : (Cond.methodLink own index Jvm.Stand.acN).before a0 Z = true) (w2 : (Cond.native Jvm.Stand.acN).before a0 Z = true) (w3 : (Cond.static Jvm.Stand.acN).before a0 Z = true) (w4 : (Cond.initialized "java/lang/System").before a0 Z = true) (eT : T.heap = h)
    {n' k : Nat} {nn : Int32} (A : own_G Z h a .char n f) (B : own_G Z h b .char n' g) (hk : nn.toInt = (k : Int)) (h4 : k ≤ n) (h5 : k ≤ n') {n0 : Nat} (N : Fr n0 locs) (ge : n0 ≤ b)
    {gf : JFrame} (hg : gf.method = m) (hsize : gf.locals.size = c.maxLocals) {rest : List Value} (hs : gf.stack = .int nn :: .int 0 :: .ref b :: .int 0 :: .ref a :: rest) (hd : decode c.code gf.pc = .ok (.invokestatic index, 3))
    (hf : 1 ≤ R.frames) {W : Nat} (hW : 2 * gf.monitorRoom + (rest.map fun v => v.category).sum ≤ W) (hlo : W + (nativeFrameWords "java/lang/System" "arraycopy" 5 + 11) ≤ R.locals) :
    ∃ T' h' L, Stand p l e R s m args below meth c T' L cells slots ∧ T'.heap = h' ∧ Fr n0 L ∧ Keep h h' [b] ∧ own_G Z h' b .char n' (own_cpy f g k) ∧
      ∀ target, Steps p.tables e below (T'.setTop { gf with pc := gf.pc + 3, stack := rest }) target → Steps p.tables e below (T.setTop gf) target := by
  have hn := A.small
  have hn' := B.small
  obtain ⟨ka, VA⟩ := A.toV
  obtain ⟨kb, VB⟩ := B.toV
  have z0 : (0 : Int32).toNatClampNeg = 0 := rfl
  have ea := own_cl (own_of_nat hn)
  have eb := own_cl (own_of_nat hn')
  have ek := own_cl hk
  obtain ⟨T', h', L, X', e', N', K, V', st⟩ := cpA X hx hZ hown w1 w2 w3 w4 eT VA VB (Or.inl ⟨rfl, rfl⟩) (sp := 0) (dp := 0) (nn := nn) (by decide) (by decide) (own_nn hk) (by rw [z0, ek, ea]; omega) (by rw [z0, ek, eb]; omega) rfl (by rw [z0, ek, List.length_map, List.length_range]; omega) N ge hg hsize hs hd hf hW hlo
  refine ⟨T', h', L, X', e', N', K, own_G.ofA V' (own_of_nat hn') (fun i hi => ?_), st⟩
  rw [z0, ek]
  unfold own_cpy
  by_cases q : i < k
  · rw [if_pos q]
    have q2 : i < n := by omega
    simp [List.getD_eq_getElem?_getD, List.getElem?_append, q, q2]
  · rw [if_neg q]
    have e1 : k + (i - k) = i := by omega
    simp [List.getD_eq_getElem?_getD, List.getElem?_append, q, hi, e1]
end OwnBuf

def own_EL : List (String × Nat) := consts_1
theorem own_EW {a0 : Array Value} {Z : State} (hw : ∀ d ∈ tables_1, d.before a0 Z = true) : EW Z a0 own_EL := EW.cons (own := "java/lang/String") (index := 7) (text := "") (hw _ (List.mem_of_getElem? (i := 46) rfl)) (by intro c hc; exact absurd hc (by decide +revert)) EW.nil
theorem own_SA {a0 : Array Value} {Z : State} (hw : ∀ d ∈ tables_1, d.before a0 Z = true) : ∀ a ∈ Bundle.stringAtoms, a.before a0 Z = true := by
  intro d hd
  simp only [Bundle.stringAtoms, Bundle.sN, List.mem_cons, List.not_mem_nil, or_false] at hd
  rcases hd with rfl | rfl | rfl | rfl | rfl | rfl | rfl
  · exact hw _ (List.mem_of_getElem? (i := 26) rfl)
  · exact hw _ (List.mem_of_getElem? (i := 25) rfl)
  · exact hw _ (List.mem_of_getElem? (i := 47) rfl)
  · exact hw _ (List.mem_of_getElem? (i := 48) rfl)
  · exact hw _ (List.mem_of_getElem? (i := 49) rfl)
  · exact hw _ (List.mem_of_getElem? (i := 50) rfl)
  · exact hw _ (List.mem_of_getElem? (i := 51) rfl)
theorem own_fld1 {Z : State} {h : Heap} {a : Addr} {C n d : String} {v w : Value} (F : Fld Z h a C n d v) (G : Fld Z h a C n d w) : v = w := by
  obtain ⟨c1, cf1, k1, i1, f1, a1, a2, -, -, -, -, a3⟩ := F
  obtain ⟨c2, cf2, k2, i2, f2, b1, b2, -, -, -, -, b3⟩ := G
  cases a1.symm.trans b1
  cases a2.symm.trans b2
  exact Option.some.inj (a3.symm.trans b3)
section OwnWide
variable {p : Program} {l : Launch} {e : Env} {R : Room} {s : State} {m : MethodId} {args : Array Value} {below : List Frame} {meth : Method} {c : Code} {T : State} {locs : List Loc} {cells slots : Nat} {Z : State} {a0 : Array Value} {h : Heap}
theorem own_since (s : State) (n : Nat) : s.Since s.vm n := (State.WarmedH.refl s).since n
theorem own_ldcE (X : Stand p l e R s m args below meth c T locs cells slots) (hx : p.tables.exec = Jvm.exec) (hZ : Z.Warmed39 s.vm) (hown : s.vm.findClass "java/lang/String" = some m.cls) (hw : ∀ d ∈ tables_1, d.before a0 Z = true) (eT : T.heap = h) (H : CHv Z own_EL s.vm h)
    {g : JFrame} (hg : g.method = m) (hd : decode c.code g.pc = .ok (.ldc 7, 2)) (hc : cells + 2 ≤ R.cells) (hl : slots + 4 ≤ R.slots) :
    ∃ (a : Addr) (T' : State) (h' : Heap) (b : Addr) (k1 : Nat), Stand p l e R (s.setVm T'.vm) m args below meth c T' locs (cells + 2) (slots + 4) ∧ T'.heap = h' ∧ Ext h h' ∧ s.Since T'.vm k1 ∧ k1 ≤ h'.size ∧ Z.Warmed39 (s.setVm T'.vm).vm ∧ (s.setVm T'.vm).vm.findClass "java/lang/String" = some m.cls ∧
      Exa Z h' a "java/lang/String" ∧ Fld Z h' a "java/lang/String" "coder" "B" (.int 0) ∧ Fld Z h' a "java/lang/String" "value" "[B" (.ref b) ∧ own_G Z h' b .byte 0 own_zero ∧ Lit (s.setVm T'.vm) "java/lang/String" 7 a ∧ (∀ x, Exa Z h' x "java/lang/String" → x ≠ b) ∧
      ∀ target, Steps p.tables e below (T'.setTop { g with pc := g.pc + 2, stack := .ref a :: g.stack }) target → Steps p.tables e below (T.setTop g) target := by
  obtain ⟨a, T', h', k1, b, k, X', e', E, hS, hk, hW, hf, A, FC, FV, AV, -, -, -, hL, -, st⟩ := ldcCH (vm0 := s.vm) (s := s) (text := "") (own := "java/lang/String") (index := 7) X hx hZ hown (hw _ (List.mem_of_getElem? (i := 46) rfl)) (own_SA hw) eT (own_since s 0) (Nat.zero_le _) (own_EW hw) (List.mem_of_getElem? (i := 0) rfl) H (vs := []) (z := 0) ⟨by intro c hc; exact absurd hc (by decide +revert), rfl⟩ (by decide) rfl hg hd (n := 0) (by decide) (by decide) hc hl
  exact ⟨a, T', h', b, k1, X', e', E, hS, hk, hW, hf, A, FC, FV, (own_G.ofV (vs := []) AV (n := 0) rfl).congr (fun i _ => rfl), hL, fun x Ex => Ex.neArv AV (hw _ (List.mem_of_getElem? (i := 25) rfl)), st⟩
theorem own_backW {y : MethodName} {bytes : ByteArray} {maxL : Nat} {ret : Option FieldType} {rm : Room} {len W : Nat} {as' : Array Value} {Q : Option Value → Heap → List Loc → Prop}
    (hM : MetFree l y (head1 [Cond.code y bytes maxL ret] rm) (fun a U => a = as' ∧ Z.Warmed39 U.vm ∧ U.heap = h ∧ CHv Z own_EL U.vm h) (fun _ _ _ _ _ => True) (fun _ U o U' => ∃ v L, o = .returned v ∧ Q v U'.heap L ∧ ReturnedEndW U o U' L rm.cells rm.slots))
    (hw : ∀ d ∈ tables_1, d.before a0 Z = true) (hZ : Z.Warmed39 s.vm) (wc : (Cond.code y bytes maxL ret).before a0 Z = true) (wz : (Cond.initialized y.cls).before a0 Z = true) (hf : rm.frames + 1 ≤ R.frames) (hl : W + (maxL + 11) + rm.locals ≤ R.locals) (H : CHv Z own_EL s.vm h) :
    BackS l R p e below s args y len W (fun A a => a = as' ∧ A.U.heap = h ∧ A.cells + rm.cells ≤ R.cells ∧ A.slots + rm.slots ≤ R.slots)
      (fun A _ v B => ∃ L, Q v B.U.heap L ∧ B.locs = A.locs ++ L ∧ B.cells = A.cells + rm.cells ∧ B.slots = A.slots + rm.slots) := by
  refine BackS.of_freeW (bytes := bytes) (maxL := maxL) (ret := ret) (E := fun _ _ o t L k n => (∃ v, o = .returned v ∧ Q v t.heap L) ∧ k = rm.cells ∧ n = rm.slots) hM hf hl ?_ ?_ (fun _ _ _ _ _ _ _ _ _ => trivial) ?_ ?_
  · intro m meth c A a Y hp
    have hU : Z.Warmed39 A.U.vm := wtrans hZ Y.warmed
    exact ⟨by show (Cond.and _ .tt).before a A.U = true; rw [Cond.before_and, mv hU wc]; rfl, mv hU wc, mv hU wz, hp.2.2.1, hp.2.2.2⟩
  · intro m meth c A a g mk Y hp
    exact ⟨hp.1, wtrans hZ Y.warmed, hp.2.1, (CHv.at (s := s) (vm0 := s.vm) Y hZ (own_EW hw) H).1⟩
  · rintro _ _ _ _ ⟨v, L, h1, h2, h3⟩
    exact ⟨L, _, _, h3, ⟨v, h1, h2⟩, rfl, rfl⟩
  · rintro m meth c A a g mk v t L k n Y hp - - ⟨⟨v', e3, e4⟩, e1, e2⟩
    cases e3; subst e1 e2; exact ⟨L, e4, rfl, rfl, rfl⟩
theorem own_callIW {own : String} {index : Nat} {y : MethodName} {bytes : ByteArray} {ml W : Nat} {rm : Room} {A : Array Value} {Q : Option Value → Heap → List Loc → Prop} (X : Stand p l e R s m args below meth c T locs cells slots) (hx : p.tables.exec = Jvm.exec) (hw : ∀ d ∈ tables_1, d.before a0 Z = true) (hZ : Z.Warmed39 s.vm) (hown : s.vm.findClass own = some m.cls) (H : CHv Z own_EL s.vm h)
    (w1 : (Cond.methodLink own index y).before a0 Z = true) (w2 : (Cond.instanceMethod y).before a0 Z = true) (w3 : (Cond.initialized y.cls).before a0 Z = true) (w4 : (Cond.code y bytes ml none).before a0 Z = true) (hy1 : y.name = "<init>") (hy : y.cls ≠ "java/lang/invoke/MethodHandle" ∧ y.cls ≠ "java/lang/invoke/VarHandle")
    (hM : MetFree l y (head1 [Cond.code y bytes ml none] rm) (fun a U => a = A ∧ Z.Warmed39 U.vm ∧ U.heap = h ∧ CHv Z own_EL U.vm h) (fun _ _ _ _ _ => True) (fun _ U o U' => ∃ v L, o = .returned v ∧ Q v U'.heap L ∧ ReturnedEndW U o U' L rm.cells rm.slots)) (hf : rm.frames + 1 ≤ R.frames) (hl : W + (ml + 11) + rm.locals ≤ R.locals) (hT : T.heap = h) {g : JFrame} (hg : g.method = m) (hsize : g.locals.size = c.maxLocals)
    {ps : List FieldType} {r : Option FieldType} (hp : parseMethodDescriptor y.desc = some ⟨ps, r⟩) {a : Addr} {argsL rest : List Value} (hlen : argsL.length = ps.length) (hstack : g.stack = argsL.reverse ++ .ref a :: rest) (hA : (.ref a :: argsL).toArray = A) (hW : 2 * g.monitorRoom + (rest.map fun v => v.category).sum ≤ W) (hd : decode c.code g.pc = .ok (.invokespecial index, 3)) (hc : cells + rm.cells ≤ R.cells) (hs : slots + rm.slots ≤ R.slots) :
    ∃ v T' L', Stand p l e R (s.setVm T'.vm) m args below meth c T' (locs ++ L') (cells + rm.cells) (slots + rm.slots) ∧ s.Since T'.vm T'.heap.size ∧ Z.Warmed39 (s.setVm T'.vm).vm ∧ (s.setVm T'.vm).vm.findClass own = some m.cls ∧ Q v T'.heap L' ∧ ∀ t, Steps p.tables e below (T'.setTop { g with pc := g.pc + 3, stack := v.toList ++ rest }) t → Steps p.tables e below (T.setTop g) t := by
  obtain ⟨v, _, ⟨T', L', k', n'⟩, -, X', hS, -, ⟨Lc, hQ, l1, l2, l3⟩, st⟩ := X.specialBackS hx hy1 hown (mvT hZ w1) (mvT hZ w2) (mvT hZ w4) hy (own_backW (W := W) hM hw hZ w4 w3 hf hl H) hg hsize (Steps.refl _) (a := a) (argsL := argsL) (rest := rest) (lenOf hp hlen) hstack hW hd (fun _ _ => ⟨hA, hT, hc, hs⟩)
  dsimp only [Pt.U, Pt.locs, Pt.cells, Pt.slots] at X' l1 l2 l3 st hQ hS
  subst l1 l2 l3
  exact ⟨v, T', Lc, X', hS, State.Warmed39.trans hZ hS.1, by rw [show (s.setVm T'.vm).vm = T'.vm from rfl, hS.1.alike.findClass]; exact hown, hQ, fun t q => st.trans q⟩
theorem own_callVW {own C : String} {index : Nat} {y : MethodName} {bytes : ByteArray} {ml W : Nat} {rt : Option FieldType} {rm : Room} {A : Array Value} {Q : Option Value → Heap → List Loc → Prop} (X : Stand p l e R s m args below meth c T locs cells slots) (hx : p.tables.exec = Jvm.exec) (hw : ∀ d ∈ tables_1, d.before a0 Z = true) (hZ : Z.Warmed39 s.vm) (hown : s.vm.findClass own = some m.cls) (H : CHv Z own_EL s.vm h)
    (w1 : (Cond.methodLink own index y).before a0 Z = true) (w2 : (Cond.declares y).before a0 Z = true) (w5 : (Cond.selects C y y).before a0 Z = true) (w6 : (Cond.instanceMethod y).before a0 Z = true) (w3 : (Cond.initialized y.cls).before a0 Z = true) (w4 : (Cond.code y bytes ml rt).before a0 Z = true) (hy : y.cls ≠ "java/lang/invoke/MethodHandle" ∧ y.cls ≠ "java/lang/invoke/VarHandle")
    (hM : MetFree l y (head1 [Cond.code y bytes ml rt] rm) (fun a U => a = A ∧ Z.Warmed39 U.vm ∧ U.heap = h ∧ CHv Z own_EL U.vm h) (fun _ _ _ _ _ => True) (fun _ U o U' => ∃ v L, o = .returned v ∧ Q v U'.heap L ∧ ReturnedEndW U o U' L rm.cells rm.slots)) (hf : rm.frames + 1 ≤ R.frames) (hl : W + (ml + 11) + rm.locals ≤ R.locals) (hT : T.heap = h) {a : Addr} (hE : Exa Z h a C) {g : JFrame} (hg : g.method = m) (hsize : g.locals.size = c.maxLocals)
    {ps : List FieldType} {r : Option FieldType} (hp : parseMethodDescriptor y.desc = some ⟨ps, r⟩) {argsL rest : List Value} (hlen : argsL.length = ps.length) (hstack : g.stack = argsL.reverse ++ .ref a :: rest) (hA : (.ref a :: argsL).toArray = A) (hW : 2 * g.monitorRoom + (rest.map fun v => v.category).sum ≤ W) (hd : decode c.code g.pc = .ok (.invokevirtual index, 3)) (hc : cells + rm.cells ≤ R.cells) (hs : slots + rm.slots ≤ R.slots) :
    ∃ v T' L', Stand p l e R (s.setVm T'.vm) m args below meth c T' (locs ++ L') (cells + rm.cells) (slots + rm.slots) ∧ s.Since T'.vm T'.heap.size ∧ Z.Warmed39 (s.setVm T'.vm).vm ∧ (s.setVm T'.vm).vm.findClass own = some m.cls ∧ Q v T'.heap L' ∧ ∀ t, Steps p.tables e below (T'.setTop { g with pc := g.pc + 3, stack := v.toList ++ rest }) t → Steps p.tables e below (T.setTop g) t := by
  obtain ⟨cq, kq, qa, qb, qc⟩ := isOf hZ hT hE
  obtain ⟨v, _, ⟨T', L', k', n'⟩, -, X', hS, -, ⟨Lc, hQ, l1, l2, l3⟩, st⟩ := X.virtualBackS hx (y := y) (z := y) hown (mvT hZ w1) (mvT hZ w2) (notFace_of_selects (args := #[]) (mvT hZ w5)) (mvT hZ w5) (mvT hZ w6) hy (own_backW (W := W) hM hw hZ w4 w3 hf hl H) qa qc hg hsize (Steps.refl _) (argsL := argsL) (rest := rest) (lenOf hp hlen) hstack hW hd (fun _ _ => ⟨hA, hT, hc, hs⟩)
  dsimp only [Pt.U, Pt.locs, Pt.cells, Pt.slots] at X' l1 l2 l3 st hQ hS
  subst l1 l2 l3
  exact ⟨v, T', Lc, X', hS, State.Warmed39.trans hZ hS.1, by rw [show (s.setVm T'.vm).vm = T'.vm from rfl, hS.1.alike.findClass]; exact hown, hQ, fun t q => st.trans q⟩
end OwnWide

theorem own_byte (y : Int32) : (nar .byte (y.toInt8.toInt32) &&& (255 : Int32)).toInt = y.toInt % 256 := by
  have h1 := c_mask (nar .byte (y.toInt8.toInt32)) 255 8 (by decide) (by decide)
  have h2 := c_i2b y
  have h3 : (((y.toInt8.toInt32).toInt8.toInt32).toInt - (y.toInt8.toInt32).toInt) % 256 = 0 := (c_i2b (y.toInt8.toInt32)).1
  have h4 : (nar .byte (y.toInt8.toInt32)).toInt = ((y.toInt8.toInt32).toInt8.toInt32).toInt := rfl
  rw [h1, h4]
  omega
theorem own_gc (v : Int32) (h : own_ch v) : (nar .char (((((own_lo v) &&& (255 : Int32)) <<< ((0 : Int32) &&& 31)) ||| (((own_hi v) &&& (255 : Int32)) <<< ((8 : Int32) &&& 31))).toUInt32.toUInt16.toUInt32.toInt32)) = v := by
  unfold own_ch at h
  have l1 : ((own_lo v) &&& (255 : Int32)).toInt = v.toInt % 256 := by
    have q := own_byte (v >>> ((0 : Int32) &&& 31)); have q2 := c_ishr v 0 0 (by decide)
    have e : (own_lo v &&& (255 : Int32)) = nar .byte ((v >>> ((0 : Int32) &&& 31)).toInt8.toInt32) &&& (255 : Int32) := rfl
    rw [e, q, q2]; omega
  have l2 : ((own_hi v) &&& (255 : Int32)).toInt = v.toInt / 256 % 256 := by
    have q := own_byte (v >>> ((8 : Int32) &&& 31)); have q2 := c_ishr v 8 8 (by decide)
    have e : (own_hi v &&& (255 : Int32)) = nar .byte ((v >>> ((8 : Int32) &&& 31)).toInt8.toInt32) &&& (255 : Int32) := rfl
    rw [e, q, q2]; omega
  generalize (own_lo v) &&& (255 : Int32) = x at *
  generalize (own_hi v) &&& (255 : Int32) = y at *
  have s1 : (x <<< ((0 : Int32) &&& 31)).toInt = x.toInt := by
    have q := c_ishl x 0 0 (by decide); have q2 := rng32 (x <<< ((0 : Int32) &&& 31)); have q3 := rng32 x; omega
  have s2 : (y <<< ((8 : Int32) &&& 31)).toInt = y.toInt * 256 := by
    have q := c_ishl y 8 8 (by decide); have q2 := rng32 (y <<< ((8 : Int32) &&& 31)); omega
  generalize x <<< ((0 : Int32) &&& 31) = x' at *
  generalize y <<< ((8 : Int32) &&& 31) = y' at *
  have s3 := c_or' x' y' 8 (by decide) 256 rfl (by omega) (by omega) (by omega)
  have s4 := rng32 (x' ||| y')
  have s5 : (x' ||| y').toInt = v.toInt := by omega
  generalize x' ||| y' = z at *
  have s6 := c_i2c z
  have s7 := c_i2c (z.toUInt32.toUInt16.toUInt32.toInt32)
  apply Int32.toInt_inj.mp
  have e : (nar .char (z.toUInt32.toUInt16.toUInt32.toInt32)).toInt = ((z.toUInt32.toUInt16.toUInt32.toInt32).toUInt32.toUInt16.toUInt32.toInt32).toInt := rfl
  rw [e]
  omega
theorem own_narb (y : Int32) : own_ch (nar .char y) := by
  have h := c_i2c y
  exact ⟨h.2.1, h.2.2⟩
theorem own_narn (y : Int32) : nar .char (nar .char y) = nar .char y := by
  have h := c_i2c y
  have h2 := c_i2c (nar .char y)
  apply Int32.toInt_inj.mp
  have e1 : (nar .char y).toInt = (y.toUInt32.toUInt16.toUInt32.toInt32).toInt := rfl
  have e2 : (nar .char (nar .char y)).toInt = ((nar .char y).toUInt32.toUInt16.toUInt32.toInt32).toInt := rfl
  omega
theorem own_gcv {x y v : Int32} (h0 : x = own_lo v) (h1 : y = own_hi v) (h : own_ch v) : (nar .char ((((x &&& (255 : Int32)) <<< ((0 : Int32) &&& 31)) ||| ((y &&& (255 : Int32)) <<< ((8 : Int32) &&& 31))).toUInt32.toUInt16.toUInt32.toInt32)) = v := by subst h0 h1; exact own_gc v h
theorem own_u16s {cf gf : Nat → Int32} {o j : Nat} (hg : ∀ i, i < 2 * j → gf i = own_u16 cf o i) : ∀ i, i < 2 * (j + 1) → own_upd (own_upd gf (2 * j) (own_lo (cf (o + j)))) (2 * j + 1) (own_hi (cf (o + j))) i = own_u16 cf o i := by
  intro i hi
  unfold own_upd
  by_cases h1 : i = 2 * j + 1
  · subst h1; rw [if_pos rfl]; unfold own_u16; rw [if_neg (by omega), show (2 * j + 1) / 2 = j by omega]
  · rw [if_neg h1]
    by_cases h2 : i = 2 * j
    · subst h2; rw [if_pos rfl]; unfold own_u16; rw [if_pos (by omega), show (2 * j) / 2 = j by omega]
    · rw [if_neg h2]; exact hg i (by omega)
theorem own_b8s {cf gf : Nat → Int32} {o j : Nat} (hg : ∀ i, i < j → ¬ ((255 : Int32) < cf (o + i)) ∧ gf i = own_b8 cf o i) (h : ¬ ((255 : Int32) < cf (o + j))) : ∀ i, i < j + 1 → ¬ ((255 : Int32) < cf (o + i)) ∧ own_upd gf j (nar .byte ((cf (o + j)).toInt8.toInt32)) i = own_b8 cf o i := by
  intro i hi
  unfold own_upd
  by_cases h1 : i = j
  · subst h1; rw [if_pos rfl]; exact ⟨h, rfl⟩
  · rw [if_neg h1]; exact hg i (by omega)
theorem own_u0 (cf : Nat → Int32) (o j : Nat) : own_u16 cf o (2 * j) = own_lo (cf (o + j)) := by unfold own_u16; rw [if_pos (by omega), show (2 * j) / 2 = j by omega]
theorem own_u1 (cf : Nat → Int32) (o j : Nat) : own_u16 cf o (2 * j + 1) = own_hi (cf (o + j)) := by unfold own_u16; rw [if_neg (by omega), show (2 * j + 1) / 2 = j by omega]
theorem own_cf0 {x : Int32} {n : Nat} (h : x.toInt = (n : Int)) (hn : n < 2147483648) : (nar .byte (((x - Nat.toInt32 n).toUInt32 >>> ((31 : Int32) &&& 31).toUInt32).toInt32.toInt8.toInt32)) = 0 := by
  have e : x = Nat.toInt32 n := Int32.toInt_inj.mp (by rw [h, own_of_nat hn])
  subst e; rw [Int32.sub_self]; rfl
theorem own_cf1 {x : Int32} {n : Nat} (h : x.toInt = (n : Int)) (hn : n < 536870912) (h0 : 0 < n) : (nar .byte (((x - Nat.toInt32 (2 * n)).toUInt32 >>> ((31 : Int32) &&& 31).toUInt32).toInt32.toInt8.toInt32)) = 1 := by
  have e := own_of_nat (n := 2 * n) (by omega)
  have q := c_isub x (Nat.toInt32 (2 * n)); have r := rng32 (x - Nat.toInt32 (2 * n))
  have u := c_iushr (x - Nat.toInt32 (2 * n)) 31 31 (by decide) (by decide)
  have z : ((x - Nat.toInt32 (2 * n)).toUInt32 >>> ((31 : Int32) &&& 31).toUInt32).toInt32 = 1 := Int32.toInt_inj.mp (by rw [u]; show _ = (1 : Int); omega)
  rw [z]; rfl
theorem own_nej {r p : Int32} {j n : Nat} (h : r.toInt = (j : Int)) (hp : p.toInt = (n : Int)) (q : j < n) : ¬ (r = p) := fun e => by rw [e] at h; omega
def own_By (Z : State) (h : Heap) (b : Addr) (n o : Nat) (cf : Nat → Int32) (cd : Int32) : Prop := (cd = 0 ∧ (∀ i, i < n → ¬ ((255 : Int32) < cf (o + i))) ∧ own_G Z h b .byte n (own_b8 cf o)) ∨ (cd = 1 ∧ (∃ i, i < n ∧ (255 : Int32) < cf (o + i)) ∧ own_G Z h b .byte (2 * n) (own_u16 cf o))
def own_Str (Z : State) (h : Heap) (a : Addr) (n o : Nat) (cf : Nat → Int32) : Prop := Exa Z h a "java/lang/String" ∧ n ≤ 4 ∧ (∀ i, i < n → own_ch (cf (o + i))) ∧ ∃ (b : Addr) (cd : Int32), Fld Z h a "java/lang/String" "value" "[B" (.ref b) ∧ Fld Z h a "java/lang/String" "coder" "B" (.int cd) ∧ own_By Z h b n o cf cd

def own_vnl (p1 : Int32) : Int32 :=
  (p1 <<< ((1 : Int32) &&& 31))
theorem own_d26_0 : decode jdk_52_method_3_code 0 = .ok (.iload_n 0, 1) := by decide +kernel
theorem own_d26_1 : decode jdk_52_method_3_code 1 = .ok (.ifCond .ge 11, 3) := by decide +kernel
theorem own_d26_12 : decode jdk_52_method_3_code 12 = .ok (.iload_n 0, 1) := by decide +kernel
theorem own_d26_13 : decode jdk_52_method_3_code 13 = .ok (.ldc 20, 2) := by decide +kernel
theorem own_d26_15 : decode jdk_52_method_3_code 15 = .ok (.if_icmp .lt 40, 3) := by decide +kernel
theorem own_d26_55 : decode jdk_52_method_3_code 55 = .ok (.iload_n 0, 1) := by decide +kernel
theorem own_d26_56 : decode jdk_52_method_3_code 56 = .ok (.iconst 1, 1) := by decide +kernel
theorem own_d26_57 : decode jdk_52_method_3_code 57 = .ok (.ishl, 1) := by decide +kernel
theorem own_d26_58 : decode jdk_52_method_3_code 58 = .ok (.ireturn, 1) := by decide +kernel
theorem own_pn0 : plainName "java/lang/StringUTF16" = true := by first | (simp [plainName, overriddenIn]; done) | decide +kernel
theorem own_efnl (m : MethodId) (x0 : Int32) : entryFrame m #[(.int x0)] 1 = mkF m 0 #[.val (.int x0)] [] := by first | (simp [entryFrame, mkF, argsToLocals, Value.category]; done) | rfl
def own_Qnl (Z : State) (p1 : Int32) (h0 : Heap) (n0 : Nat) (v : Option Value) (h : Heap) (L : List Loc) : Prop := v = some (.int (own_vnl p1)) ∧ Fr n0 L ∧ h = h0
set_option maxRecDepth 65536 in
set_option maxHeartbeats 40000000 in
theorem own_rmnl (l : Launch) (Z : State) (a0 : Array Value) (hw : ∀ d ∈ tables_1, d.before a0 Z = true) (ws : List Jvm.Cond) (p1 : Int32) (h0 : Heap) (n0 : Nat) (Z0 : n0 ≤ h0.size) (hs1 : ¬ (p1 < (0 : Int32))) (hs15 : p1 < (1073741823 : Int32)) :
    MetFree l (⟨"java/lang/StringUTF16", "newBytesLength", "(I)I"⟩ : MethodName) (head1 (Jvm.Cond.code (⟨"java/lang/StringUTF16", "newBytesLength", "(I)I"⟩ : MethodName) jdk_52_method_3_code 1 (some .int) :: ws) ({ frames := 0, cells := 0, slots := 0, locals := 0 } : Room)) (fun aa U => aa = #[(.int p1)] ∧ Z.Warmed39 U.vm ∧ U.heap = h0) (fun _ _ _ _ _ => True) (fun _ U o U' => ∃ v L, o = .returned v ∧ own_Qnl Z p1 h0 n0 v U'.heap L ∧ FrameEnd U o U' L ({ frames := 0, cells := 0, slots := 0, locals := 0 } : Room).cells ({ frames := 0, cells := 0, slots := 0, locals := 0 } : Room).slots) := by
  refine MetFree.of_bodySF (plainFor_of_name own_pn0) hisR ?_
  intro p e s m args below meth c s₁ Bd hml0 hP hK
  obtain ⟨rfl, hZ, hh⟩ := hP
  have hx := Bd.exec
  have hby := Bd.bytes
  have hml : c.maxLocals = 1 := hml0
  have hown : s.vm.findClass "java/lang/StringUTF16" = some m.cls := findClass_of_methodNamed Bd.named
  have hnm := (name_of_methodNamed Bd.named Bd.method).1
  have X0 : Stand p l e ({ frames := 0, cells := 0, slots := 0, locals := 0 } : Room) s m #[(.int p1)] below meth c s₁ [] 0 0 := Stand.of_body Bd
  have e0 : s₁.heap = h0 := by rw [← hh, Bd.state]; rfl
  have N0 := Fr.nil n0
  have pre0 : ∀ t, Steps p.tables e below (s₁.setTop (mkF m 0 #[.val (.int p1)] [])) t → Steps p.tables e below (s₁.setTop (entryFrame m #[(.int p1)] 1)) t := fun t k => castTop (own_efnl m p1) k
  have k1 : ∀ t, Steps p.tables e below (s₁.setTop (mkF m 58 #[.val (.int p1)] [(.int (p1 <<< ((1 : Int32) &&& 31)))])) t → Steps p.tables e below (s₁.setTop (entryFrame m #[(.int p1)] 1)) t := by
    intro t k
    refine pre0 t ?_
    show Steps p.tables e below (s₁.setTop (mkF m 0 #[.val (.int p1)] [])) _
    refine XS.iloadN X0.here hx rfl (hb hby own_d26_0) rfl ?_
    show Steps p.tables e below (s₁.setTop (mkF m 1 #[.val (.int p1)] [(.int p1)])) _
    refine XS.ifYes X0.here hx rfl (pc0 := 1) (pc' := 12) rfl (hb hby own_d26_1) rfl ((if0 _ _).trans (flt hs1).2.1) (by decide) (by decide) ?_
    show Steps p.tables e below (s₁.setTop (mkF m 12 #[.val (.int p1)] [])) _
    refine XS.iloadN X0.here hx rfl (hb hby own_d26_12) rfl ?_
    show Steps p.tables e below (s₁.setTop (mkF m 13 #[.val (.int p1)] [(.int p1)])) _
    refine X0.ldcInt hx hown (mvT hZ (hw _ (List.mem_of_getElem? (i := 122) rfl))) (g := (mkF m 13 #[.val (.int p1)] [(.int p1)])) rfl (hb hby own_d26_13) _ ?_
    show Steps p.tables e below (s₁.setTop (mkF m 15 #[.val (.int p1)] [(.int (1073741823 : Int32)), (.int p1)])) _
    refine XS.icmpYes X0.here hx rfl (pc0 := 15) (pc' := 55) rfl (hb hby own_d26_15) rfl (tlt hs15).1 (by decide) (by decide) ?_
    show Steps p.tables e below (s₁.setTop (mkF m 55 #[.val (.int p1)] [])) _
    refine XS.iloadN X0.here hx rfl (hb hby own_d26_55) rfl ?_
    show Steps p.tables e below (s₁.setTop (mkF m 56 #[.val (.int p1)] [(.int p1)])) _
    refine XS.iconst X0.here hx rfl (hb hby own_d26_56) ?_
    show Steps p.tables e below (s₁.setTop (mkF m 57 #[.val (.int p1)] [(.int (1 : Int32)), (.int p1)])) _
    refine XS.ishl X0.here hx rfl (hb hby own_d26_57) rfl ?_
    exact k
  obtain ⟨fs, hr, hrun, hended, hW, hsame⟩ := X0.leave (v := (some (.int (p1 <<< ((1 : Int32) &&& 31))))) (fun h => by rw [Bd.returns] at h; cases h)
  refine ⟨_, _, k1 _ ?_, hrun, hended, _, _, rfl, ?_, ⟨_, rfl⟩, hW, hsame.mono (by decide) (by decide)⟩
  · exact retI X0 hx Bd.returns (hb hby own_d26_58) hr
  · have hv : (own_vnl p1) = (p1 <<< ((1 : Int32) &&& 31)) := rfl
    exact ⟨congrArg (fun z => some (Value.int z)) hv.symm, N0, e0⟩
theorem own_nl2 {x : Int32} {k : Nat} (h : x.toInt = (k : Int)) (hk : k < 536870912) : (own_vnl x).toInt = ((2 * k : Nat) : Int) := own_shl1 h hk
theorem own_d25_0 : decode jdk_52_method_2_code 0 = .ok (.iload_n 0, 1) := by decide +kernel
theorem own_d25_1 : decode jdk_52_method_2_code 1 = .ok (.invokestatic 11, 3) := by decide +kernel
theorem own_d25_4 : decode jdk_52_method_2_code 4 = .ok (.newarray .byte, 2) := by decide +kernel
theorem own_d25_6 : decode jdk_52_method_2_code 6 = .ok (.areturn, 1) := by decide +kernel
theorem own_pd0 : parseMethodDescriptor "(I)I" = some ⟨[.int], some .int⟩ := by decide +kernel
theorem own_efnf (m : MethodId) (x0 : Int32) : entryFrame m #[(.int x0)] 1 = mkF m 0 #[.val (.int x0)] [] := by first | (simp [entryFrame, mkF, argsToLocals, Value.category]; done) | rfl
def own_Qnf (Z : State) (p1 : Int32) (nn : Nat) (h0 : Heap) (n0 : Nat) (v : Option Value) (h : Heap) (L : List Loc) : Prop := ∃ (b : Addr), v = some (.ref b) ∧ Fr n0 L ∧ Keep h0 h [] ∧ h0.size ≤ b ∧ own_G Z h b .byte (2 * nn) own_zero
def own_Rnf : Room := { frames := 1, cells := 1, slots := 8, locals := 12 }
set_option maxRecDepth 65536 in
set_option maxHeartbeats 40000000 in
theorem own_rmnf (l : Launch) (Z : State) (a0 : Array Value) (hw : ∀ d ∈ tables_1, d.before a0 Z = true) (ws : List Jvm.Cond) (p1 : Int32) (nn : Nat) (h0 : Heap) (n0 : Nat) (Z0 : n0 ≤ h0.size) (hp1 : p1.toInt = (nn : Int)) (hn : nn ≤ 4) :
    MetFree l (⟨"java/lang/StringUTF16", "newBytesFor", "(I)[B"⟩ : MethodName) (head1 (Jvm.Cond.code (⟨"java/lang/StringUTF16", "newBytesFor", "(I)[B"⟩ : MethodName) jdk_52_method_2_code 1 (some (.array .byte)) :: ws) own_Rnf) (fun aa U => aa = #[(.int p1)] ∧ Z.Warmed39 U.vm ∧ U.heap = h0) (fun _ _ _ _ _ => True) (fun _ U o U' => ∃ v L, o = .returned v ∧ own_Qnf Z p1 nn h0 n0 v U'.heap L ∧ FrameEnd U o U' L own_Rnf.cells own_Rnf.slots) := by
  refine MetFree.of_bodySF (plainFor_of_name own_pn0) hisR ?_
  intro p e s m args below meth c s₁ Bd hml0 hP hK
  obtain ⟨rfl, hZ, hh⟩ := hP
  have hx := Bd.exec
  have hby := Bd.bytes
  have hml : c.maxLocals = 1 := hml0
  have hown : s.vm.findClass "java/lang/StringUTF16" = some m.cls := findClass_of_methodNamed Bd.named
  have hnm := (name_of_methodNamed Bd.named Bd.method).1
  have X0 : Stand p l e own_Rnf s m #[(.int p1)] below meth c s₁ [] 0 0 := Stand.of_body Bd
  have e0 : s₁.heap = h0 := by rw [← hh, Bd.state]; rfl
  have N0 := Fr.nil n0
  have pre0 : ∀ t, Steps p.tables e below (s₁.setTop (mkF m 0 #[.val (.int p1)] [])) t → Steps p.tables e below (s₁.setTop (entryFrame m #[(.int p1)] 1)) t := fun t k => castTop (own_efnf m p1) k
  have k1 : ∀ t, Steps p.tables e below (s₁.setTop (mkF m 1 #[.val (.int p1)] [(.int p1)])) t → Steps p.tables e below (s₁.setTop (entryFrame m #[(.int p1)] 1)) t := by
    intro t k
    refine pre0 t ?_
    show Steps p.tables e below (s₁.setTop (mkF m 0 #[.val (.int p1)] [])) _
    refine XS.iloadN X0.here hx rfl (hb hby own_d25_0) rfl ?_
    exact k
  obtain ⟨_, _, ⟨T2, L2, k2c, n2⟩, -, X2, ⟨Lc2, hQ2, l2, y2, z2⟩, st2⟩ := Jvm.LawKit.callS X0 hx (y := (⟨"java/lang/StringUTF16", "newBytesLength", "(I)I"⟩ : MethodName)) hown (mvT hZ (hw _ (List.mem_of_getElem? (i := 119) rfl))) (mvT hZ (hw _ (List.mem_of_getElem? (i := 120) rfl))) (mvT hZ (hw _ (List.mem_of_getElem? (i := 85) rfl))) (mvT hZ (hw _ (List.mem_of_getElem? (i := 121) rfl))) (by decide) (backOf (W := 0) (own_rmnl l Z a0 hw [] p1 h0 n0 Z0 (own_nn hp1) (own_ltm hp1 (by omega))) hZ (hw _ (List.mem_of_getElem? (i := 121) rfl)) (hw _ (List.mem_of_getElem? (i := 85) rfl)) (by decide) (by decide)) (g := (mkF m 1 #[.val (.int p1)] [(.int p1)])) rfl (by rw [hml]; rfl) (argsL := [(.int p1)]) (rest := []) (lenOf own_pd0 rfl) rfl (by show 2 * 0 + _ ≤ _; exact Nat.le_of_eq rfl) (hb hby own_d25_1) (fun _ _ => ⟨rfl, e0, (by decide : 0 + 0 ≤ _), (by decide : 0 + 0 ≤ _)⟩)
  dsimp only [Pt.U, Pt.locs, Pt.cells, Pt.slots] at X2 l2 y2 z2 st2 hQ2
  subst l2 y2 z2
  obtain ⟨rfl, N2q, e2⟩ := hQ2
  have N2 := Fr.app N0 N2q
  have k3 : ∀ t, Steps p.tables e below (T2.setTop (mkF m 4 #[.val (.int p1)] [(.int (own_vnl p1))])) t → Steps p.tables e below (s₁.setTop (entryFrame m #[(.int p1)] 1)) t := fun t k => k1 t (st2 t k)
  obtain ⟨T4, h4, X4, e4, E4, A4, st4⟩ := own_newB X2 hx hZ (hw _ (List.mem_of_getElem? (i := 47) rfl)) e2 (g := (mkF m 4 #[.val (.int p1)] [(.int (own_vnl p1))])) rfl (hb hby own_d25_4) rfl (n := (2 * nn)) (own_nl2 hp1 (by omega)) (cap := 8) (by omega) (by decide) (by decide) (by decide)
  obtain ⟨b4, g4⟩ : ∃ z, z = h0.size := ⟨_, rfl⟩
  rw [← g4] at A4 st4
  have ge4 : n0 ≤ b4 := Nat.le_trans Z0 (Nat.le_of_eq g4.symm)
  have bo4 : h0.size ≤ b4 := Nat.le_trans (Keep.refl h0 []).1 (Nat.le_of_eq g4.symm)
  have Z4 : n0 ≤ h4.size := Nat.le_trans Z0 E4.1
  have K4 : Keep h0 h4 [] := (Keep.refl h0 []).ext E4
  have k5 : ∀ t, Steps p.tables e below (T4.setTop (mkF m 6 #[.val (.int p1)] [(.ref b4)])) t → Steps p.tables e below (s₁.setTop (entryFrame m #[(.int p1)] 1)) t := fun t k => k3 t (st4 t k)
  obtain ⟨fs, hr, hrun, hended, hW, hsame⟩ := X4.leave (v := (some (.ref b4))) (fun h => by rw [Bd.returns] at h; cases h)
  refine ⟨_, _, k5 _ ?_, hrun, hended, _, _, rfl, ?_, ⟨_, rfl⟩, hW, hsame.mono (by decide) (by decide)⟩
  · exact retOut X4 hx Bd.returns rfl (Or.inr (Or.inr (Or.inr (Or.inr ⟨rfl, rfl, rfl⟩)))) (hb hby own_d25_6) hr
  · show own_Qnf Z p1 nn h0 n0 _ T4.heap _
    rw [e4]
    exact ⟨b4, rfl, N2, K4, bo4, A4⟩
theorem own_d27_0 : decode jdk_52_method_4_code 0 = .ok (.getstatic 44, 3) := by decide +kernel
theorem own_d27_3 : decode jdk_52_method_4_code 3 = .ok (.ifCond .ne 25, 3) := by decide +kernel
theorem own_d27_28 : decode jdk_52_method_4_code 28 = .ok (.iload_n 1, 1) := by decide +kernel
theorem own_d27_29 : decode jdk_52_method_4_code 29 = .ok (.iconst 1, 1) := by decide +kernel
theorem own_d27_30 : decode jdk_52_method_4_code 30 = .ok (.ishl, 1) := by decide +kernel
theorem own_d27_31 : decode jdk_52_method_4_code 31 = .ok (.istore_n 1, 1) := by decide +kernel
theorem own_d27_32 : decode jdk_52_method_4_code 32 = .ok (.aload_n 0, 1) := by decide +kernel
theorem own_d27_33 : decode jdk_52_method_4_code 33 = .ok (.iload_n 1, 1) := by decide +kernel
theorem own_d27_34 : decode jdk_52_method_4_code 34 = .ok (.iinc 1 1, 3) := by decide +kernel
theorem own_d27_37 : decode jdk_52_method_4_code 37 = .ok (.iload_n 2, 1) := by decide +kernel
theorem own_d27_38 : decode jdk_52_method_4_code 38 = .ok (.getstatic 59, 3) := by decide +kernel
theorem own_d27_41 : decode jdk_52_method_4_code 41 = .ok (.ishr, 1) := by decide +kernel
theorem own_d27_42 : decode jdk_52_method_4_code 42 = .ok (.i2b, 1) := by decide +kernel
theorem own_d27_43 : decode jdk_52_method_4_code 43 = .ok (.bastore, 1) := by decide +kernel
theorem own_d27_44 : decode jdk_52_method_4_code 44 = .ok (.aload_n 0, 1) := by decide +kernel
theorem own_d27_45 : decode jdk_52_method_4_code 45 = .ok (.iload_n 1, 1) := by decide +kernel
theorem own_d27_46 : decode jdk_52_method_4_code 46 = .ok (.iload_n 2, 1) := by decide +kernel
theorem own_d27_47 : decode jdk_52_method_4_code 47 = .ok (.getstatic 63, 3) := by decide +kernel
theorem own_d27_50 : decode jdk_52_method_4_code 50 = .ok (.ishr, 1) := by decide +kernel
theorem own_d27_51 : decode jdk_52_method_4_code 51 = .ok (.i2b, 1) := by decide +kernel
theorem own_d27_52 : decode jdk_52_method_4_code 52 = .ok (.bastore, 1) := by decide +kernel
theorem own_d27_53 : decode jdk_52_method_4_code 53 = .ok (.return_, 1) := by decide +kernel
theorem own_efpc (m : MethodId) (x0 : Addr) (x1 : Int32) (x2 : Int32) : entryFrame m #[(.ref x0), (.int x1), (.int x2)] 3 = mkF m 0 #[.val (.ref x0), .val (.int x1), .val (.int x2)] [] := by first | (simp [entryFrame, mkF, argsToLocals, Value.category]; done) | rfl
def own_Qpc (Z : State) (p1 : Addr) (p2 : Int32) (p3 : Int32) (nn : Nat) (bf : Nat → Int32) (ii : Nat) (h0 : Heap) (n0 : Nat) (v : Option Value) (h : Heap) (L : List Loc) : Prop := v = none ∧ Fr n0 L ∧ Keep h0 h [p1] ∧ own_G Z h p1 .byte (2 * nn) (own_upd (own_upd bf (2 * ii) (own_lo p3)) (2 * ii + 1) (own_hi p3))
def own_Rpc : Room := { frames := 0, cells := 0, slots := 0, locals := 0 }
set_option maxRecDepth 65536 in
set_option maxHeartbeats 40000000 in
theorem own_rmpc (l : Launch) (Z : State) (a0 : Array Value) (hw : ∀ d ∈ tables_1, d.before a0 Z = true) (ws : List Jvm.Cond) (p1 : Addr) (p2 : Int32) (p3 : Int32) (nn : Nat) (bf : Nat → Int32) (ii : Nat) (h0 : Heap) (n0 : Nat) (Z0 : n0 ≤ h0.size) (P0 : own_G Z h0 p1 .byte (2 * nn) bf) (ge_p1 : n0 ≤ p1) (Xo : Old Z n0 h0) (hp2 : p2.toInt = (ii : Int)) (SA : Sta Z Z.heap "java/lang/StringUTF16" "$assertionsDisabled" "Z" (.int (1 : Int32))) (SH : Sta Z Z.heap "java/lang/StringUTF16" "HI_BYTE_SHIFT" "I" (.int (0 : Int32))) (SL : Sta Z Z.heap "java/lang/StringUTF16" "LO_BYTE_SHIFT" "I" (.int (8 : Int32))) (hi : ii < nn) (hn : nn ≤ 4) :
    MetFree l (⟨"java/lang/StringUTF16", "putChar", "([BII)V"⟩ : MethodName) (head1 (Jvm.Cond.code (⟨"java/lang/StringUTF16", "putChar", "([BII)V"⟩ : MethodName) jdk_52_method_4_code 3 none :: ws) own_Rpc) (fun aa U => aa = #[(.ref p1), (.int p2), (.int p3)] ∧ Z.Warmed39 U.vm ∧ U.heap = h0) (fun _ _ _ _ _ => True) (fun _ U o U' => ∃ v L, o = .returned v ∧ own_Qpc Z p1 p2 p3 nn bf ii h0 n0 v U'.heap L ∧ FrameEnd U o U' L own_Rpc.cells own_Rpc.slots) := by
  refine MetFree.of_bodySF (plainFor_of_name own_pn0) hisR ?_
  intro p e s m args below meth c s₁ Bd hml0 hP hK
  obtain ⟨rfl, hZ, hh⟩ := hP
  have hx := Bd.exec
  have hby := Bd.bytes
  have hml : c.maxLocals = 3 := hml0
  have hown : s.vm.findClass "java/lang/StringUTF16" = some m.cls := findClass_of_methodNamed Bd.named
  have hnm := (name_of_methodNamed Bd.named Bd.method).1
  have X0 : Stand p l e own_Rpc s m #[(.ref p1), (.int p2), (.int p3)] below meth c s₁ [] 0 0 := Stand.of_body Bd
  have e0 : s₁.heap = h0 := by rw [← hh, Bd.state]; rfl
  have N0 := Fr.nil n0
  have pre0 : ∀ t, Steps p.tables e below (s₁.setTop (mkF m 0 #[.val (.ref p1), .val (.int p2), .val (.int p3)] [])) t → Steps p.tables e below (s₁.setTop (entryFrame m #[(.ref p1), (.int p2), (.int p3)] 3)) t := fun t k => castTop (own_efpc m p1 p2 p3) k
  obtain ⟨T1, X1, e1, st1⟩ := getS2 X0 hx hZ hown (host := "") (Or.inl (hw _ (List.mem_of_getElem? (i := 126) rfl))) Via.refl e0 (SA.ext Xo.2) (g := (mkF m 0 #[.val (.ref p1), .val (.int p2), .val (.int p3)] [])) rfl (hb hby own_d27_0)
  have k2 : ∀ t, Steps p.tables e below (T1.setTop (mkF m 3 #[.val (.ref p1), .val (.int p2), .val (.int p3)] [(.int (1 : Int32))])) t → Steps p.tables e below (s₁.setTop (entryFrame m #[(.ref p1), (.int p2), (.int p3)] 3)) t := fun t k => pre0 t (st1 t k)
  have k3 : ∀ t, Steps p.tables e below (T1.setTop (mkF m 38 #[.val (.ref p1), .val (.int ((p2 <<< ((1 : Int32) &&& 31)) + (1 : Int32))), .val (.int p3)] [(.int p3), (.int (p2 <<< ((1 : Int32) &&& 31))), (.ref p1)])) t → Steps p.tables e below (s₁.setTop (entryFrame m #[(.ref p1), (.int p2), (.int p3)] 3)) t := by
    intro t k
    refine k2 t ?_
    show Steps p.tables e below (T1.setTop (mkF m 3 #[.val (.ref p1), .val (.int p2), .val (.int p3)] [(.int (1 : Int32))])) _
    refine XS.ifYes X1.here hx rfl (pc0 := 3) (pc' := 28) rfl (hb hby own_d27_3) rfl ((if0 _ _).trans (feq (by decide : ¬ ((1 : Int32) = (0 : Int32)))).2) (by decide) (by decide) ?_
    show Steps p.tables e below (T1.setTop (mkF m 28 #[.val (.ref p1), .val (.int p2), .val (.int p3)] [])) _
    refine XS.iloadN X1.here hx rfl (hb hby own_d27_28) rfl ?_
    show Steps p.tables e below (T1.setTop (mkF m 29 #[.val (.ref p1), .val (.int p2), .val (.int p3)] [(.int p2)])) _
    refine XS.iconst X1.here hx rfl (hb hby own_d27_29) ?_
    show Steps p.tables e below (T1.setTop (mkF m 30 #[.val (.ref p1), .val (.int p2), .val (.int p3)] [(.int (1 : Int32)), (.int p2)])) _
    refine XS.ishl X1.here hx rfl (hb hby own_d27_30) rfl ?_
    show Steps p.tables e below (T1.setTop (mkF m 31 #[.val (.ref p1), .val (.int p2), .val (.int p3)] [(.int (p2 <<< ((1 : Int32) &&& 31)))])) _
    refine XS.istoreN X1.here hx rfl (hb hby own_d27_31) rfl (l' := #[.val (.ref p1), .val (.int (p2 <<< ((1 : Int32) &&& 31))), .val (.int p3)]) rfl ?_
    show Steps p.tables e below (T1.setTop (mkF m 32 #[.val (.ref p1), .val (.int (p2 <<< ((1 : Int32) &&& 31))), .val (.int p3)] [])) _
    refine XS.aloadN X1.here hx rfl (hb hby own_d27_32) rfl rfl ?_
    show Steps p.tables e below (T1.setTop (mkF m 33 #[.val (.ref p1), .val (.int (p2 <<< ((1 : Int32) &&& 31))), .val (.int p3)] [(.ref p1)])) _
    refine XS.iloadN X1.here hx rfl (hb hby own_d27_33) rfl ?_
    show Steps p.tables e below (T1.setTop (mkF m 34 #[.val (.ref p1), .val (.int (p2 <<< ((1 : Int32) &&& 31))), .val (.int p3)] [(.int (p2 <<< ((1 : Int32) &&& 31))), (.ref p1)])) _
    refine XS.iinc X1.here hx rfl (hb hby own_d27_34) rfl (l' := #[.val (.ref p1), .val (.int ((p2 <<< ((1 : Int32) &&& 31)) + (1 : Int32))), .val (.int p3)]) rfl ?_
    show Steps p.tables e below (T1.setTop (mkF m 37 #[.val (.ref p1), .val (.int ((p2 <<< ((1 : Int32) &&& 31)) + (1 : Int32))), .val (.int p3)] [(.int (p2 <<< ((1 : Int32) &&& 31))), (.ref p1)])) _
    refine XS.iloadN X1.here hx rfl (hb hby own_d27_37) rfl ?_
    exact k
  obtain ⟨T4, X4, e4, st4⟩ := getS2 X1 hx hZ hown (host := "") (Or.inl (hw _ (List.mem_of_getElem? (i := 127) rfl))) Via.refl e1 (SH.ext Xo.2) (g := (mkF m 38 #[.val (.ref p1), .val (.int ((p2 <<< ((1 : Int32) &&& 31)) + (1 : Int32))), .val (.int p3)] [(.int p3), (.int (p2 <<< ((1 : Int32) &&& 31))), (.ref p1)])) rfl (hb hby own_d27_38)
  have k5 : ∀ t, Steps p.tables e below (T4.setTop (mkF m 41 #[.val (.ref p1), .val (.int ((p2 <<< ((1 : Int32) &&& 31)) + (1 : Int32))), .val (.int p3)] [(.int (0 : Int32)), (.int p3), (.int (p2 <<< ((1 : Int32) &&& 31))), (.ref p1)])) t → Steps p.tables e below (s₁.setTop (entryFrame m #[(.ref p1), (.int p2), (.int p3)] 3)) t := fun t k => k3 t (st4 t k)
  have k6 : ∀ t, Steps p.tables e below (T4.setTop (mkF m 43 #[.val (.ref p1), .val (.int ((p2 <<< ((1 : Int32) &&& 31)) + (1 : Int32))), .val (.int p3)] [(.int ((p3 >>> ((0 : Int32) &&& 31)).toInt8.toInt32)), (.int (p2 <<< ((1 : Int32) &&& 31))), (.ref p1)])) t → Steps p.tables e below (s₁.setTop (entryFrame m #[(.ref p1), (.int p2), (.int p3)] 3)) t := by
    intro t k
    refine k5 t ?_
    show Steps p.tables e below (T4.setTop (mkF m 41 #[.val (.ref p1), .val (.int ((p2 <<< ((1 : Int32) &&& 31)) + (1 : Int32))), .val (.int p3)] [(.int (0 : Int32)), (.int p3), (.int (p2 <<< ((1 : Int32) &&& 31))), (.ref p1)])) _
    refine XS.ishr X4.here hx rfl (hb hby own_d27_41) rfl ?_
    show Steps p.tables e below (T4.setTop (mkF m 42 #[.val (.ref p1), .val (.int ((p2 <<< ((1 : Int32) &&& 31)) + (1 : Int32))), .val (.int p3)] [(.int (p3 >>> ((0 : Int32) &&& 31))), (.int (p2 <<< ((1 : Int32) &&& 31))), (.ref p1)])) _
    refine XS.i2b X4.here hx rfl (hb hby own_d27_42) rfl ?_
    exact k
  obtain ⟨T7, h7, X7, e7, W7, G7, st7⟩ := own_stB X4 hx hZ e4 P0 (j := (p2 <<< ((1 : Int32) &&& 31))) (own_shl1 hp2 (by omega)) (by omega) (g := (mkF m 43 #[.val (.ref p1), .val (.int ((p2 <<< ((1 : Int32) &&& 31)) + (1 : Int32))), .val (.int p3)] [(.int ((p3 >>> ((0 : Int32) &&& 31)).toInt8.toInt32)), (.int (p2 <<< ((1 : Int32) &&& 31))), (.ref p1)])) rfl rfl (hb hby own_d27_43)
  have N7 := Fr.snoc X7 N0 ge_p1
  have K7 : Keep h0 h7 [p1] := (Keep.refl h0 [p1]).wr W7 (Or.inl (List.mem_of_getElem? (i := 0) rfl))
  have Z7 : n0 ≤ h7.size := Nat.le_trans Z0 (Keep.of_wr W7).1
  have Xo7 := Xo.wr W7 ge_p1
  have k8 : ∀ t, Steps p.tables e below (T7.setTop (mkF m 44 #[.val (.ref p1), .val (.int ((p2 <<< ((1 : Int32) &&& 31)) + (1 : Int32))), .val (.int p3)] [])) t → Steps p.tables e below (s₁.setTop (entryFrame m #[(.ref p1), (.int p2), (.int p3)] 3)) t := fun t k => k6 t (st7 t k)
  have k9 : ∀ t, Steps p.tables e below (T7.setTop (mkF m 47 #[.val (.ref p1), .val (.int ((p2 <<< ((1 : Int32) &&& 31)) + (1 : Int32))), .val (.int p3)] [(.int p3), (.int ((p2 <<< ((1 : Int32) &&& 31)) + (1 : Int32))), (.ref p1)])) t → Steps p.tables e below (s₁.setTop (entryFrame m #[(.ref p1), (.int p2), (.int p3)] 3)) t := by
    intro t k
    refine k8 t ?_
    show Steps p.tables e below (T7.setTop (mkF m 44 #[.val (.ref p1), .val (.int ((p2 <<< ((1 : Int32) &&& 31)) + (1 : Int32))), .val (.int p3)] [])) _
    refine XS.aloadN X7.here hx rfl (hb hby own_d27_44) rfl rfl ?_
    show Steps p.tables e below (T7.setTop (mkF m 45 #[.val (.ref p1), .val (.int ((p2 <<< ((1 : Int32) &&& 31)) + (1 : Int32))), .val (.int p3)] [(.ref p1)])) _
    refine XS.iloadN X7.here hx rfl (hb hby own_d27_45) rfl ?_
    show Steps p.tables e below (T7.setTop (mkF m 46 #[.val (.ref p1), .val (.int ((p2 <<< ((1 : Int32) &&& 31)) + (1 : Int32))), .val (.int p3)] [(.int ((p2 <<< ((1 : Int32) &&& 31)) + (1 : Int32))), (.ref p1)])) _
    refine XS.iloadN X7.here hx rfl (hb hby own_d27_46) rfl ?_
    exact k
  obtain ⟨T10, X10, e10, st10⟩ := getS2 X7 hx hZ hown (host := "") (Or.inl (hw _ (List.mem_of_getElem? (i := 128) rfl))) Via.refl e7 (SL.ext Xo7.2) (g := (mkF m 47 #[.val (.ref p1), .val (.int ((p2 <<< ((1 : Int32) &&& 31)) + (1 : Int32))), .val (.int p3)] [(.int p3), (.int ((p2 <<< ((1 : Int32) &&& 31)) + (1 : Int32))), (.ref p1)])) rfl (hb hby own_d27_47)
  have k11 : ∀ t, Steps p.tables e below (T10.setTop (mkF m 50 #[.val (.ref p1), .val (.int ((p2 <<< ((1 : Int32) &&& 31)) + (1 : Int32))), .val (.int p3)] [(.int (8 : Int32)), (.int p3), (.int ((p2 <<< ((1 : Int32) &&& 31)) + (1 : Int32))), (.ref p1)])) t → Steps p.tables e below (s₁.setTop (entryFrame m #[(.ref p1), (.int p2), (.int p3)] 3)) t := fun t k => k9 t (st10 t k)
  have k12 : ∀ t, Steps p.tables e below (T10.setTop (mkF m 52 #[.val (.ref p1), .val (.int ((p2 <<< ((1 : Int32) &&& 31)) + (1 : Int32))), .val (.int p3)] [(.int ((p3 >>> ((8 : Int32) &&& 31)).toInt8.toInt32)), (.int ((p2 <<< ((1 : Int32) &&& 31)) + (1 : Int32))), (.ref p1)])) t → Steps p.tables e below (s₁.setTop (entryFrame m #[(.ref p1), (.int p2), (.int p3)] 3)) t := by
    intro t k
    refine k11 t ?_
    show Steps p.tables e below (T10.setTop (mkF m 50 #[.val (.ref p1), .val (.int ((p2 <<< ((1 : Int32) &&& 31)) + (1 : Int32))), .val (.int p3)] [(.int (8 : Int32)), (.int p3), (.int ((p2 <<< ((1 : Int32) &&& 31)) + (1 : Int32))), (.ref p1)])) _
    refine XS.ishr X10.here hx rfl (hb hby own_d27_50) rfl ?_
    show Steps p.tables e below (T10.setTop (mkF m 51 #[.val (.ref p1), .val (.int ((p2 <<< ((1 : Int32) &&& 31)) + (1 : Int32))), .val (.int p3)] [(.int (p3 >>> ((8 : Int32) &&& 31))), (.int ((p2 <<< ((1 : Int32) &&& 31)) + (1 : Int32))), (.ref p1)])) _
    refine XS.i2b X10.here hx rfl (hb hby own_d27_51) rfl ?_
    exact k
  obtain ⟨T13, h13, X13, e13, W13, G13, st13⟩ := own_stB X10 hx hZ e10 G7 (j := ((p2 <<< ((1 : Int32) &&& 31)) + (1 : Int32))) (own_inc (own_shl1 hp2 (by omega)) (by omega)) (by omega) (g := (mkF m 52 #[.val (.ref p1), .val (.int ((p2 <<< ((1 : Int32) &&& 31)) + (1 : Int32))), .val (.int p3)] [(.int ((p3 >>> ((8 : Int32) &&& 31)).toInt8.toInt32)), (.int ((p2 <<< ((1 : Int32) &&& 31)) + (1 : Int32))), (.ref p1)])) rfl rfl (hb hby own_d27_52)
  have N13 := Fr.snoc X13 N7 ge_p1
  have K13 : Keep h0 h13 [p1] := K7.wr W13 (Or.inl (List.mem_of_getElem? (i := 0) rfl))
  have Z13 : n0 ≤ h13.size := Nat.le_trans Z7 (Keep.of_wr W13).1
  have Xo13 := Xo7.wr W13 ge_p1
  have k14 : ∀ t, Steps p.tables e below (T13.setTop (mkF m 53 #[.val (.ref p1), .val (.int ((p2 <<< ((1 : Int32) &&& 31)) + (1 : Int32))), .val (.int p3)] [])) t → Steps p.tables e below (s₁.setTop (entryFrame m #[(.ref p1), (.int p2), (.int p3)] 3)) t := fun t k => k12 t (st13 t k)
  obtain ⟨fs, hr, hrun, hended, hW, hsame⟩ := X13.leave (v := none) (fun _ => rfl)
  refine ⟨_, _, k14 _ ?_, hrun, hended, _, _, rfl, ?_, ⟨_, rfl⟩, hW, hsame.mono (by decide) (by decide)⟩
  · exact X13.returnOut hx Bd.returns (hb hby own_d27_53) hr
  · show own_Qpc Z p1 p2 p3 nn bf ii h0 n0 _ T13.heap _
    rw [e13]
    exact ⟨rfl, N13, K13, G13⟩
theorem own_d28_0 : decode jdk_52_method_5_code 0 = .ok (.getstatic 44, 3) := by decide +kernel
theorem own_d28_3 : decode jdk_52_method_5_code 3 = .ok (.ifCond .ne 25, 3) := by decide +kernel
theorem own_d28_28 : decode jdk_52_method_5_code 28 = .ok (.iload_n 1, 1) := by decide +kernel
theorem own_d28_29 : decode jdk_52_method_5_code 29 = .ok (.iconst 1, 1) := by decide +kernel
theorem own_d28_30 : decode jdk_52_method_5_code 30 = .ok (.ishl, 1) := by decide +kernel
theorem own_d28_31 : decode jdk_52_method_5_code 31 = .ok (.istore_n 1, 1) := by decide +kernel
theorem own_d28_32 : decode jdk_52_method_5_code 32 = .ok (.aload_n 0, 1) := by decide +kernel
theorem own_d28_33 : decode jdk_52_method_5_code 33 = .ok (.iload_n 1, 1) := by decide +kernel
theorem own_d28_34 : decode jdk_52_method_5_code 34 = .ok (.iinc 1 1, 3) := by decide +kernel
theorem own_d28_37 : decode jdk_52_method_5_code 37 = .ok (.baload, 1) := by decide +kernel
theorem own_d28_38 : decode jdk_52_method_5_code 38 = .ok (.sipush 255, 3) := by decide +kernel
theorem own_d28_41 : decode jdk_52_method_5_code 41 = .ok (.iand, 1) := by decide +kernel
theorem own_d28_42 : decode jdk_52_method_5_code 42 = .ok (.getstatic 59, 3) := by decide +kernel
theorem own_d28_45 : decode jdk_52_method_5_code 45 = .ok (.ishl, 1) := by decide +kernel
theorem own_d28_46 : decode jdk_52_method_5_code 46 = .ok (.aload_n 0, 1) := by decide +kernel
theorem own_d28_47 : decode jdk_52_method_5_code 47 = .ok (.iload_n 1, 1) := by decide +kernel
theorem own_d28_48 : decode jdk_52_method_5_code 48 = .ok (.baload, 1) := by decide +kernel
theorem own_d28_49 : decode jdk_52_method_5_code 49 = .ok (.sipush 255, 3) := by decide +kernel
theorem own_d28_52 : decode jdk_52_method_5_code 52 = .ok (.iand, 1) := by decide +kernel
theorem own_d28_53 : decode jdk_52_method_5_code 53 = .ok (.getstatic 63, 3) := by decide +kernel
theorem own_d28_56 : decode jdk_52_method_5_code 56 = .ok (.ishl, 1) := by decide +kernel
theorem own_d28_57 : decode jdk_52_method_5_code 57 = .ok (.ior, 1) := by decide +kernel
theorem own_d28_58 : decode jdk_52_method_5_code 58 = .ok (.i2c, 1) := by decide +kernel
theorem own_d28_59 : decode jdk_52_method_5_code 59 = .ok (.ireturn, 1) := by decide +kernel
theorem own_efgc (m : MethodId) (x0 : Addr) (x1 : Int32) : entryFrame m #[(.ref x0), (.int x1)] 2 = mkF m 0 #[.val (.ref x0), .val (.int x1)] [] := by first | (simp [entryFrame, mkF, argsToLocals, Value.category]; done) | rfl
def own_Qgc (Z : State) (p1 : Addr) (p2 : Int32) (zb : Nat) (bf : Nat → Int32) (ii : Nat) (cv : Int32) (h0 : Heap) (n0 : Nat) (v : Option Value) (h : Heap) (L : List Loc) : Prop := v = some (.int cv) ∧ Fr n0 L ∧ h = h0
def own_Rgc : Room := { frames := 0, cells := 0, slots := 0, locals := 0 }
set_option maxRecDepth 65536 in
set_option maxHeartbeats 40000000 in
theorem own_rmgc (l : Launch) (Z : State) (a0 : Array Value) (hw : ∀ d ∈ tables_1, d.before a0 Z = true) (ws : List Jvm.Cond) (p1 : Addr) (p2 : Int32) (zb : Nat) (bf : Nat → Int32) (ii : Nat) (cv : Int32) (h0 : Heap) (n0 : Nat) (Z0 : n0 ≤ h0.size) (P0 : own_G Z h0 p1 .byte zb bf) (Xo : Old Z n0 h0) (hp2 : p2.toInt = (ii : Int)) (SA : Sta Z Z.heap "java/lang/StringUTF16" "$assertionsDisabled" "Z" (.int (1 : Int32))) (SH : Sta Z Z.heap "java/lang/StringUTF16" "HI_BYTE_SHIFT" "I" (.int (0 : Int32))) (SL : Sta Z Z.heap "java/lang/StringUTF16" "LO_BYTE_SHIFT" "I" (.int (8 : Int32))) (hi : 2 * ii + 1 < zb) (hz : zb ≤ 8) (hv0 : bf (2 * ii) = own_lo cv) (hv1 : bf (2 * ii + 1) = own_hi cv) (hcv : own_ch cv) :
    MetFree l (⟨"java/lang/StringUTF16", "getChar", "([BI)C"⟩ : MethodName) (head1 (Jvm.Cond.code (⟨"java/lang/StringUTF16", "getChar", "([BI)C"⟩ : MethodName) jdk_52_method_5_code 2 (some .char) :: ws) own_Rgc) (fun aa U => aa = #[(.ref p1), (.int p2)] ∧ Z.Warmed39 U.vm ∧ U.heap = h0) (fun _ _ _ _ _ => True) (fun _ U o U' => ∃ v L, o = .returned v ∧ own_Qgc Z p1 p2 zb bf ii cv h0 n0 v U'.heap L ∧ FrameEnd U o U' L own_Rgc.cells own_Rgc.slots) := by
  refine MetFree.of_bodySF (plainFor_of_name own_pn0) hisR ?_
  intro p e s m args below meth c s₁ Bd hml0 hP hK
  obtain ⟨rfl, hZ, hh⟩ := hP
  have hx := Bd.exec
  have hby := Bd.bytes
  have hml : c.maxLocals = 2 := hml0
  have hown : s.vm.findClass "java/lang/StringUTF16" = some m.cls := findClass_of_methodNamed Bd.named
  have hnm := (name_of_methodNamed Bd.named Bd.method).1
  have X0 : Stand p l e own_Rgc s m #[(.ref p1), (.int p2)] below meth c s₁ [] 0 0 := Stand.of_body Bd
  have e0 : s₁.heap = h0 := by rw [← hh, Bd.state]; rfl
  have N0 := Fr.nil n0
  have pre0 : ∀ t, Steps p.tables e below (s₁.setTop (mkF m 0 #[.val (.ref p1), .val (.int p2)] [])) t → Steps p.tables e below (s₁.setTop (entryFrame m #[(.ref p1), (.int p2)] 2)) t := fun t k => castTop (own_efgc m p1 p2) k
  obtain ⟨T1, X1, e1, st1⟩ := getS2 X0 hx hZ hown (host := "") (Or.inl (hw _ (List.mem_of_getElem? (i := 126) rfl))) Via.refl e0 (SA.ext Xo.2) (g := (mkF m 0 #[.val (.ref p1), .val (.int p2)] [])) rfl (hb hby own_d28_0)
  have k2 : ∀ t, Steps p.tables e below (T1.setTop (mkF m 3 #[.val (.ref p1), .val (.int p2)] [(.int (1 : Int32))])) t → Steps p.tables e below (s₁.setTop (entryFrame m #[(.ref p1), (.int p2)] 2)) t := fun t k => pre0 t (st1 t k)
  have k3 : ∀ t, Steps p.tables e below (T1.setTop (mkF m 42 #[.val (.ref p1), .val (.int ((p2 <<< ((1 : Int32) &&& 31)) + (1 : Int32)))] [(.int ((bf (2 * ii)) &&& (255 : Int32)))])) t → Steps p.tables e below (s₁.setTop (entryFrame m #[(.ref p1), (.int p2)] 2)) t := by
    intro t k
    refine k2 t ?_
    show Steps p.tables e below (T1.setTop (mkF m 3 #[.val (.ref p1), .val (.int p2)] [(.int (1 : Int32))])) _
    refine XS.ifYes X1.here hx rfl (pc0 := 3) (pc' := 28) rfl (hb hby own_d28_3) rfl ((if0 _ _).trans (feq (by decide : ¬ ((1 : Int32) = (0 : Int32)))).2) (by decide) (by decide) ?_
    show Steps p.tables e below (T1.setTop (mkF m 28 #[.val (.ref p1), .val (.int p2)] [])) _
    refine XS.iloadN X1.here hx rfl (hb hby own_d28_28) rfl ?_
    show Steps p.tables e below (T1.setTop (mkF m 29 #[.val (.ref p1), .val (.int p2)] [(.int p2)])) _
    refine XS.iconst X1.here hx rfl (hb hby own_d28_29) ?_
    show Steps p.tables e below (T1.setTop (mkF m 30 #[.val (.ref p1), .val (.int p2)] [(.int (1 : Int32)), (.int p2)])) _
    refine XS.ishl X1.here hx rfl (hb hby own_d28_30) rfl ?_
    show Steps p.tables e below (T1.setTop (mkF m 31 #[.val (.ref p1), .val (.int p2)] [(.int (p2 <<< ((1 : Int32) &&& 31)))])) _
    refine XS.istoreN X1.here hx rfl (hb hby own_d28_31) rfl (l' := #[.val (.ref p1), .val (.int (p2 <<< ((1 : Int32) &&& 31)))]) rfl ?_
    show Steps p.tables e below (T1.setTop (mkF m 32 #[.val (.ref p1), .val (.int (p2 <<< ((1 : Int32) &&& 31)))] [])) _
    refine XS.aloadN X1.here hx rfl (hb hby own_d28_32) rfl rfl ?_
    show Steps p.tables e below (T1.setTop (mkF m 33 #[.val (.ref p1), .val (.int (p2 <<< ((1 : Int32) &&& 31)))] [(.ref p1)])) _
    refine XS.iloadN X1.here hx rfl (hb hby own_d28_33) rfl ?_
    show Steps p.tables e below (T1.setTop (mkF m 34 #[.val (.ref p1), .val (.int (p2 <<< ((1 : Int32) &&& 31)))] [(.int (p2 <<< ((1 : Int32) &&& 31))), (.ref p1)])) _
    refine XS.iinc X1.here hx rfl (hb hby own_d28_34) rfl (l' := #[.val (.ref p1), .val (.int ((p2 <<< ((1 : Int32) &&& 31)) + (1 : Int32)))]) rfl ?_
    show Steps p.tables e below (T1.setTop (mkF m 37 #[.val (.ref p1), .val (.int ((p2 <<< ((1 : Int32) &&& 31)) + (1 : Int32)))] [(.int (p2 <<< ((1 : Int32) &&& 31))), (.ref p1)])) _
    refine own_ldB X1 hx hZ e1 P0 (j := (p2 <<< ((1 : Int32) &&& 31))) (own_shl1 hp2 (by omega)) (by omega) (g := (mkF m 37 #[.val (.ref p1), .val (.int ((p2 <<< ((1 : Int32) &&& 31)) + (1 : Int32)))] [(.int (p2 <<< ((1 : Int32) &&& 31))), (.ref p1)])) rfl rfl (hb hby own_d28_37) ?_
    show Steps p.tables e below (T1.setTop (mkF m 38 #[.val (.ref p1), .val (.int ((p2 <<< ((1 : Int32) &&& 31)) + (1 : Int32)))] [(.int (bf (2 * ii)))])) _
    refine XS.sipush X1.here hx rfl (hb hby own_d28_38) ?_
    show Steps p.tables e below (T1.setTop (mkF m 41 #[.val (.ref p1), .val (.int ((p2 <<< ((1 : Int32) &&& 31)) + (1 : Int32)))] [(.int (255 : Int32)), (.int (bf (2 * ii)))])) _
    refine XS.iand X1.here hx rfl (hb hby own_d28_41) rfl ?_
    exact k
  obtain ⟨T4, X4, e4, st4⟩ := getS2 X1 hx hZ hown (host := "") (Or.inl (hw _ (List.mem_of_getElem? (i := 127) rfl))) Via.refl e1 (SH.ext Xo.2) (g := (mkF m 42 #[.val (.ref p1), .val (.int ((p2 <<< ((1 : Int32) &&& 31)) + (1 : Int32)))] [(.int ((bf (2 * ii)) &&& (255 : Int32)))])) rfl (hb hby own_d28_42)
  have k5 : ∀ t, Steps p.tables e below (T4.setTop (mkF m 45 #[.val (.ref p1), .val (.int ((p2 <<< ((1 : Int32) &&& 31)) + (1 : Int32)))] [(.int (0 : Int32)), (.int ((bf (2 * ii)) &&& (255 : Int32)))])) t → Steps p.tables e below (s₁.setTop (entryFrame m #[(.ref p1), (.int p2)] 2)) t := fun t k => k3 t (st4 t k)
  have k6 : ∀ t, Steps p.tables e below (T4.setTop (mkF m 53 #[.val (.ref p1), .val (.int ((p2 <<< ((1 : Int32) &&& 31)) + (1 : Int32)))] [(.int ((bf ((2 * ii) + 1)) &&& (255 : Int32))), (.int (((bf (2 * ii)) &&& (255 : Int32)) <<< ((0 : Int32) &&& 31)))])) t → Steps p.tables e below (s₁.setTop (entryFrame m #[(.ref p1), (.int p2)] 2)) t := by
    intro t k
    refine k5 t ?_
    show Steps p.tables e below (T4.setTop (mkF m 45 #[.val (.ref p1), .val (.int ((p2 <<< ((1 : Int32) &&& 31)) + (1 : Int32)))] [(.int (0 : Int32)), (.int ((bf (2 * ii)) &&& (255 : Int32)))])) _
    refine XS.ishl X4.here hx rfl (hb hby own_d28_45) rfl ?_
    show Steps p.tables e below (T4.setTop (mkF m 46 #[.val (.ref p1), .val (.int ((p2 <<< ((1 : Int32) &&& 31)) + (1 : Int32)))] [(.int (((bf (2 * ii)) &&& (255 : Int32)) <<< ((0 : Int32) &&& 31)))])) _
    refine XS.aloadN X4.here hx rfl (hb hby own_d28_46) rfl rfl ?_
    show Steps p.tables e below (T4.setTop (mkF m 47 #[.val (.ref p1), .val (.int ((p2 <<< ((1 : Int32) &&& 31)) + (1 : Int32)))] [(.ref p1), (.int (((bf (2 * ii)) &&& (255 : Int32)) <<< ((0 : Int32) &&& 31)))])) _
    refine XS.iloadN X4.here hx rfl (hb hby own_d28_47) rfl ?_
    show Steps p.tables e below (T4.setTop (mkF m 48 #[.val (.ref p1), .val (.int ((p2 <<< ((1 : Int32) &&& 31)) + (1 : Int32)))] [(.int ((p2 <<< ((1 : Int32) &&& 31)) + (1 : Int32))), (.ref p1), (.int (((bf (2 * ii)) &&& (255 : Int32)) <<< ((0 : Int32) &&& 31)))])) _
    refine own_ldB X4 hx hZ e4 P0 (j := ((p2 <<< ((1 : Int32) &&& 31)) + (1 : Int32))) (own_inc (own_shl1 hp2 (by omega)) (by omega)) (by omega) (g := (mkF m 48 #[.val (.ref p1), .val (.int ((p2 <<< ((1 : Int32) &&& 31)) + (1 : Int32)))] [(.int ((p2 <<< ((1 : Int32) &&& 31)) + (1 : Int32))), (.ref p1), (.int (((bf (2 * ii)) &&& (255 : Int32)) <<< ((0 : Int32) &&& 31)))])) rfl rfl (hb hby own_d28_48) ?_
    show Steps p.tables e below (T4.setTop (mkF m 49 #[.val (.ref p1), .val (.int ((p2 <<< ((1 : Int32) &&& 31)) + (1 : Int32)))] [(.int (bf ((2 * ii) + 1))), (.int (((bf (2 * ii)) &&& (255 : Int32)) <<< ((0 : Int32) &&& 31)))])) _
    refine XS.sipush X4.here hx rfl (hb hby own_d28_49) ?_
    show Steps p.tables e below (T4.setTop (mkF m 52 #[.val (.ref p1), .val (.int ((p2 <<< ((1 : Int32) &&& 31)) + (1 : Int32)))] [(.int (255 : Int32)), (.int (bf ((2 * ii) + 1))), (.int (((bf (2 * ii)) &&& (255 : Int32)) <<< ((0 : Int32) &&& 31)))])) _
    refine XS.iand X4.here hx rfl (hb hby own_d28_52) rfl ?_
    exact k
  obtain ⟨T7, X7, e7, st7⟩ := getS2 X4 hx hZ hown (host := "") (Or.inl (hw _ (List.mem_of_getElem? (i := 128) rfl))) Via.refl e4 (SL.ext Xo.2) (g := (mkF m 53 #[.val (.ref p1), .val (.int ((p2 <<< ((1 : Int32) &&& 31)) + (1 : Int32)))] [(.int ((bf ((2 * ii) + 1)) &&& (255 : Int32))), (.int (((bf (2 * ii)) &&& (255 : Int32)) <<< ((0 : Int32) &&& 31)))])) rfl (hb hby own_d28_53)
  have k8 : ∀ t, Steps p.tables e below (T7.setTop (mkF m 56 #[.val (.ref p1), .val (.int ((p2 <<< ((1 : Int32) &&& 31)) + (1 : Int32)))] [(.int (8 : Int32)), (.int ((bf ((2 * ii) + 1)) &&& (255 : Int32))), (.int (((bf (2 * ii)) &&& (255 : Int32)) <<< ((0 : Int32) &&& 31)))])) t → Steps p.tables e below (s₁.setTop (entryFrame m #[(.ref p1), (.int p2)] 2)) t := fun t k => k6 t (st7 t k)
  have k9 : ∀ t, Steps p.tables e below (T7.setTop (mkF m 59 #[.val (.ref p1), .val (.int ((p2 <<< ((1 : Int32) &&& 31)) + (1 : Int32)))] [(.int (((((bf (2 * ii)) &&& (255 : Int32)) <<< ((0 : Int32) &&& 31)) ||| (((bf ((2 * ii) + 1)) &&& (255 : Int32)) <<< ((8 : Int32) &&& 31))).toUInt32.toUInt16.toUInt32.toInt32))])) t → Steps p.tables e below (s₁.setTop (entryFrame m #[(.ref p1), (.int p2)] 2)) t := by
    intro t k
    refine k8 t ?_
    show Steps p.tables e below (T7.setTop (mkF m 56 #[.val (.ref p1), .val (.int ((p2 <<< ((1 : Int32) &&& 31)) + (1 : Int32)))] [(.int (8 : Int32)), (.int ((bf ((2 * ii) + 1)) &&& (255 : Int32))), (.int (((bf (2 * ii)) &&& (255 : Int32)) <<< ((0 : Int32) &&& 31)))])) _
    refine XS.ishl X7.here hx rfl (hb hby own_d28_56) rfl ?_
    show Steps p.tables e below (T7.setTop (mkF m 57 #[.val (.ref p1), .val (.int ((p2 <<< ((1 : Int32) &&& 31)) + (1 : Int32)))] [(.int (((bf ((2 * ii) + 1)) &&& (255 : Int32)) <<< ((8 : Int32) &&& 31))), (.int (((bf (2 * ii)) &&& (255 : Int32)) <<< ((0 : Int32) &&& 31)))])) _
    refine XS.ior X7.here hx rfl (hb hby own_d28_57) rfl ?_
    show Steps p.tables e below (T7.setTop (mkF m 58 #[.val (.ref p1), .val (.int ((p2 <<< ((1 : Int32) &&& 31)) + (1 : Int32)))] [(.int ((((bf (2 * ii)) &&& (255 : Int32)) <<< ((0 : Int32) &&& 31)) ||| (((bf ((2 * ii) + 1)) &&& (255 : Int32)) <<< ((8 : Int32) &&& 31))))])) _
    refine XS.i2c X7.here hx rfl (hb hby own_d28_58) rfl ?_
    exact k
  obtain ⟨fs, hr, hrun, hended, hW, hsame⟩ := X7.leave (v := (some (.int (nar .char (((((bf (2 * ii)) &&& (255 : Int32)) <<< ((0 : Int32) &&& 31)) ||| (((bf ((2 * ii) + 1)) &&& (255 : Int32)) <<< ((8 : Int32) &&& 31))).toUInt32.toUInt16.toUInt32.toInt32))))) (fun h => by rw [Bd.returns] at h; cases h)
  refine ⟨_, _, k9 _ ?_, hrun, hended, _, _, rfl, ?_, ⟨_, rfl⟩, hW, hsame.mono (by decide) (by decide)⟩
  · exact retN X7 hx (t := .char) Bd.returns (by simp) (hb hby own_d28_59) hr
  · show own_Qgc Z p1 p2 zb bf ii cv h0 n0 _ T7.heap _
    exact ⟨(congrArg (fun z => some (Value.int z)) (own_gcv hv0 hv1 hcv)), N0, e7⟩
theorem own_d24_0 : decode jdk_52_method_14_code 0 = .ok (.iload_n 2, 1) := by decide +kernel
theorem own_d24_1 : decode jdk_52_method_14_code 1 = .ok (.invokestatic 107, 3) := by decide +kernel
theorem own_d24_4 : decode jdk_52_method_14_code 4 = .ok (.astore_n 3, 1) := by decide +kernel
theorem own_d24_5 : decode jdk_52_method_14_code 5 = .ok (.iconst 0, 1) := by decide +kernel
theorem own_d24_6 : decode jdk_52_method_14_code 6 = .ok (.istore 4, 2) := by decide +kernel
theorem own_d24_8 : decode jdk_52_method_14_code 8 = .ok (.iload 4, 2) := by decide +kernel
theorem own_d24_10 : decode jdk_52_method_14_code 10 = .ok (.iload_n 2, 1) := by decide +kernel
theorem own_d24_11 : decode jdk_52_method_14_code 11 = .ok (.if_icmp .ge 21, 3) := by decide +kernel
theorem own_d24_14 : decode jdk_52_method_14_code 14 = .ok (.aload_n 3, 1) := by decide +kernel
theorem own_d24_15 : decode jdk_52_method_14_code 15 = .ok (.iload 4, 2) := by decide +kernel
theorem own_d24_17 : decode jdk_52_method_14_code 17 = .ok (.aload_n 0, 1) := by decide +kernel
theorem own_d24_18 : decode jdk_52_method_14_code 18 = .ok (.iload_n 1, 1) := by decide +kernel
theorem own_d24_19 : decode jdk_52_method_14_code 19 = .ok (.caload, 1) := by decide +kernel
theorem own_d24_20 : decode jdk_52_method_14_code 20 = .ok (.invokestatic 111, 3) := by decide +kernel
theorem own_d24_23 : decode jdk_52_method_14_code 23 = .ok (.iinc 1 1, 3) := by decide +kernel
theorem own_d24_26 : decode jdk_52_method_14_code 26 = .ok (.iinc 4 1, 3) := by decide +kernel
theorem own_d24_29 : decode jdk_52_method_14_code 29 = .ok (.goto (-21), 3) := by decide +kernel
theorem own_d24_32 : decode jdk_52_method_14_code 32 = .ok (.aload_n 3, 1) := by decide +kernel
theorem own_d24_33 : decode jdk_52_method_14_code 33 = .ok (.areturn, 1) := by decide +kernel
theorem own_pd1 : parseMethodDescriptor "(I)[B" = some ⟨[.int], some (.array .byte)⟩ := by decide +kernel
theorem own_pd2 : parseMethodDescriptor "([BII)V" = some ⟨[(.array .byte), .int, .int], none⟩ := by decide +kernel
theorem own_eftb (m : MethodId) (x0 : Addr) (x1 : Int32) (x2 : Int32) : entryFrame m #[(.ref x0), (.int x1), (.int x2)] 5 = mkF m 0 #[.val (.ref x0), .val (.int x1), .val (.int x2), .unset, .unset] [] := by first | (simp [entryFrame, mkF, argsToLocals, Value.category]; done) | rfl
def own_Qtb (Z : State) (p1 : Addr) (p2 : Int32) (p3 : Int32) (zc : Nat) (cf : Nat → Int32) (of_ : Nat) (nn : Nat) (h0 : Heap) (n0 : Nat) (v : Option Value) (h : Heap) (L : List Loc) : Prop := ∃ (b : Addr), v = some (.ref b) ∧ Fr n0 L ∧ Keep h0 h [] ∧ h0.size ≤ b ∧ own_G Z h b .byte (2 * nn) (own_u16 cf of_)
def own_Rtb : Room := { frames := 2, cells := 1, slots := 8, locals := 24 }
set_option maxRecDepth 65536 in
set_option maxHeartbeats 40000000 in
theorem own_rmtb (l : Launch) (Z : State) (a0 : Array Value) (hw : ∀ d ∈ tables_1, d.before a0 Z = true) (ws : List Jvm.Cond) (p1 : Addr) (p2 : Int32) (p3 : Int32) (zc : Nat) (cf : Nat → Int32) (of_ : Nat) (nn : Nat) (h0 : Heap) (n0 : Nat) (Z0 : n0 ≤ h0.size) (P0 : own_G Z h0 p1 .char zc cf) (Xo : Old Z n0 h0) (hp2 : p2.toInt = (of_ : Int)) (hp3 : p3.toInt = (nn : Int)) (SA : Sta Z Z.heap "java/lang/StringUTF16" "$assertionsDisabled" "Z" (.int (1 : Int32))) (SH : Sta Z Z.heap "java/lang/StringUTF16" "HI_BYTE_SHIFT" "I" (.int (0 : Int32))) (SL : Sta Z Z.heap "java/lang/StringUTF16" "LO_BYTE_SHIFT" "I" (.int (8 : Int32))) (hbo : of_ + nn ≤ zc) (hz : zc ≤ 1000000) (hn : nn ≤ 4) :
    MetFree l (⟨"java/lang/StringUTF16", "toBytes", "([CII)[B"⟩ : MethodName) (head1 (Jvm.Cond.code (⟨"java/lang/StringUTF16", "toBytes", "([CII)[B"⟩ : MethodName) jdk_52_method_14_code 5 (some (.array .byte)) :: ws) own_Rtb) (fun aa U => aa = #[(.ref p1), (.int p2), (.int p3)] ∧ Z.Warmed39 U.vm ∧ U.heap = h0) (fun _ _ _ _ _ => True) (fun _ U o U' => ∃ v L, o = .returned v ∧ own_Qtb Z p1 p2 p3 zc cf of_ nn h0 n0 v U'.heap L ∧ FrameEnd U o U' L own_Rtb.cells own_Rtb.slots) := by
  refine MetFree.of_bodySF (plainFor_of_name own_pn0) hisR ?_
  intro p e s m args below meth c s₁ Bd hml0 hP hK
  obtain ⟨rfl, hZ, hh⟩ := hP
  have hx := Bd.exec
  have hby := Bd.bytes
  have hml : c.maxLocals = 5 := hml0
  have hown : s.vm.findClass "java/lang/StringUTF16" = some m.cls := findClass_of_methodNamed Bd.named
  have hnm := (name_of_methodNamed Bd.named Bd.method).1
  have X0 : Stand p l e own_Rtb s m #[(.ref p1), (.int p2), (.int p3)] below meth c s₁ [] 0 0 := Stand.of_body Bd
  have e0 : s₁.heap = h0 := by rw [← hh, Bd.state]; rfl
  have N0 := Fr.nil n0
  have pre0 : ∀ t, Steps p.tables e below (s₁.setTop (mkF m 0 #[.val (.ref p1), .val (.int p2), .val (.int p3), .unset, .unset] [])) t → Steps p.tables e below (s₁.setTop (entryFrame m #[(.ref p1), (.int p2), (.int p3)] 5)) t := fun t k => castTop (own_eftb m p1 p2 p3) k
  have k1 : ∀ t, Steps p.tables e below (s₁.setTop (mkF m 1 #[.val (.ref p1), .val (.int p2), .val (.int p3), .unset, .unset] [(.int p3)])) t → Steps p.tables e below (s₁.setTop (entryFrame m #[(.ref p1), (.int p2), (.int p3)] 5)) t := by
    intro t k
    refine pre0 t ?_
    show Steps p.tables e below (s₁.setTop (mkF m 0 #[.val (.ref p1), .val (.int p2), .val (.int p3), .unset, .unset] [])) _
    refine XS.iloadN X0.here hx rfl (hb hby own_d24_0) rfl ?_
    exact k
  obtain ⟨_, _, ⟨T2, L2, k2c, n2⟩, -, X2, ⟨Lc2, hQ2, l2, y2, z2⟩, st2⟩ := Jvm.LawKit.callS X0 hx (y := (⟨"java/lang/StringUTF16", "newBytesFor", "(I)[B"⟩ : MethodName)) hown (mvT hZ (hw _ (List.mem_of_getElem? (i := 116) rfl))) (mvT hZ (hw _ (List.mem_of_getElem? (i := 117) rfl))) (mvT hZ (hw _ (List.mem_of_getElem? (i := 85) rfl))) (mvT hZ (hw _ (List.mem_of_getElem? (i := 118) rfl))) (by decide) (backOf (W := 0) (own_rmnf l Z a0 hw [] p3 nn h0 n0 Z0 hp3 (by omega)) hZ (hw _ (List.mem_of_getElem? (i := 118) rfl)) (hw _ (List.mem_of_getElem? (i := 85) rfl)) (by decide) (by decide)) (g := (mkF m 1 #[.val (.ref p1), .val (.int p2), .val (.int p3), .unset, .unset] [(.int p3)])) rfl (by rw [hml]; rfl) (argsL := [(.int p3)]) (rest := []) (lenOf own_pd1 rfl) rfl (by show 2 * 0 + _ ≤ _; exact Nat.le_of_eq rfl) (hb hby own_d24_1) (fun _ _ => ⟨rfl, e0, (by decide : 0 + 1 ≤ _), (by decide : 0 + 8 ≤ _)⟩)
  dsimp only [Pt.U, Pt.locs, Pt.cells, Pt.slots] at X2 l2 y2 z2 st2 hQ2
  subst l2 y2 z2
  obtain ⟨rb_2, rfl, N2q, Kq2, gz2_b, fq2_0⟩ := hQ2
  have N2 := Fr.app N0 N2q
  have ge2_b : n0 ≤ rb_2 := Nat.le_trans Z0 gz2_b
  have bo2_b : h0.size ≤ rb_2 := Nat.le_trans (Keep.refl h0 []).1 gz2_b
  have ne3 : p1 ≠ rb_2 := Nat.ne_of_lt (Nat.lt_of_lt_of_le P0.lt gz2_b)
  have f4 := P0.keep Kq2 List.not_mem_nil
  have Z2 : n0 ≤ T2.heap.size := Nat.le_trans Z0 Kq2.1
  have K2 : Keep h0 T2.heap [] := (Keep.refl h0 []).trans Kq2 (fun x hx => nomatch hx)
  have Xo2 := Xo.keep Kq2 all0
  have k5 : ∀ t, Steps p.tables e below (T2.setTop (mkF m 4 #[.val (.ref p1), .val (.int p2), .val (.int p3), .unset, .unset] [(.ref rb_2)])) t → Steps p.tables e below (s₁.setTop (entryFrame m #[(.ref p1), (.int p2), (.int p3)] 5)) t := fun t k => k1 t (st2 t k)
  have k6 : ∀ t, Steps p.tables e below (T2.setTop (mkF m 8 #[.val (.ref p1), .val (.int p2), .val (.int p3), .val (.ref rb_2), .val (.int (0 : Int32))] [])) t → Steps p.tables e below (s₁.setTop (entryFrame m #[(.ref p1), (.int p2), (.int p3)] 5)) t := by
    intro t k
    refine k5 t ?_
    show Steps p.tables e below (T2.setTop (mkF m 4 #[.val (.ref p1), .val (.int p2), .val (.int p3), .unset, .unset] [(.ref rb_2)])) _
    refine XS.astoreN X2.here hx rfl (hb hby own_d24_4) rfl rfl (l' := #[.val (.ref p1), .val (.int p2), .val (.int p3), .val (.ref rb_2), .unset]) rfl ?_
    show Steps p.tables e below (T2.setTop (mkF m 5 #[.val (.ref p1), .val (.int p2), .val (.int p3), .val (.ref rb_2), .unset] [])) _
    refine XS.iconst X2.here hx rfl (hb hby own_d24_5) ?_
    show Steps p.tables e below (T2.setTop (mkF m 6 #[.val (.ref p1), .val (.int p2), .val (.int p3), .val (.ref rb_2), .unset] [(.int (0 : Int32))])) _
    refine XS.istore X2.here hx rfl (hb hby own_d24_6) rfl (l' := #[.val (.ref p1), .val (.int p2), .val (.int p3), .val (.ref rb_2), .val (.int (0 : Int32))]) rfl ?_
    exact k
  refine own_ind (fun dd => ∃ (jj : Nat) (i1 : Int32) (i4 : Int32) (gf : Nat → Int32) (Tl7 : State) (Ll7 : List Loc) (hl7 : Heap), jj + dd = nn ∧ i1.toInt = ((of_ + jj : Nat) : Int) ∧ i4.toInt = (jj : Int) ∧ (∀ i, i < 2 * jj → gf i = own_u16 cf of_ i) ∧ Stand p l e own_Rtb s m #[(.ref p1), (.int p2), (.int p3)] below meth c Tl7 Ll7 1 8 ∧ Tl7.heap = hl7 ∧ Fr n0 Ll7 ∧ Keep h0 hl7 [] ∧ n0 ≤ hl7.size ∧ Old Z n0 hl7 ∧ own_G Z hl7 p1 .char zc cf ∧ own_G Z hl7 rb_2 .byte (2 * nn) gf ∧ ∀ t, Steps p.tables e below (Tl7.setTop (mkF m 8 #[.val (.ref p1), .val (.int i1), .val (.int p3), .val (.ref rb_2), .val (.int i4)] [])) t → Steps p.tables e below (s₁.setTop (entryFrame m #[(.ref p1), (.int p2), (.int p3)] 5)) t) ?_ ?_ (nn) ⟨0, p2, (0 : Int32), own_zero, _, _, _, (by omega), (by omega), rfl, fun i hi => absurd hi (by omega), X2, rfl, N2, K2, Z2, Xo2, f4, fq2_0, k6⟩
  · rintro ⟨jj, i1, i4, gf, Tl7, Ll7, hl7, ivj, iv1, iv4, ivg, Xl7, el7, Nl7, Kl7, Zl7, Ol7, Fl7_0, Fl7_1, kl7⟩
    have k8 : ∀ t, Steps p.tables e below (Tl7.setTop (mkF m 33 #[.val (.ref p1), .val (.int i1), .val (.int p3), .val (.ref rb_2), .val (.int i4)] [(.ref rb_2)])) t → Steps p.tables e below (s₁.setTop (entryFrame m #[(.ref p1), (.int p2), (.int p3)] 5)) t := by
      intro t k
      refine kl7 t ?_
      show Steps p.tables e below (Tl7.setTop (mkF m 8 #[.val (.ref p1), .val (.int i1), .val (.int p3), .val (.ref rb_2), .val (.int i4)] [])) _
      refine XS.iload Xl7.here hx rfl (hb hby own_d24_8) rfl ?_
      show Steps p.tables e below (Tl7.setTop (mkF m 10 #[.val (.ref p1), .val (.int i1), .val (.int p3), .val (.ref rb_2), .val (.int i4)] [(.int i4)])) _
      refine XS.iloadN Xl7.here hx rfl (hb hby own_d24_10) rfl ?_
      show Steps p.tables e below (Tl7.setTop (mkF m 11 #[.val (.ref p1), .val (.int i1), .val (.int p3), .val (.ref rb_2), .val (.int i4)] [(.int p3), (.int i4)])) _
      refine XS.icmpYes Xl7.here hx rfl (pc0 := 11) (pc' := 32) rfl (hb hby own_d24_11) rfl (flt (own_nlt iv4 hp3 (by omega))).2.1 (by decide) (by decide) ?_
      show Steps p.tables e below (Tl7.setTop (mkF m 32 #[.val (.ref p1), .val (.int i1), .val (.int p3), .val (.ref rb_2), .val (.int i4)] [])) _
      refine XS.aloadN Xl7.here hx rfl (hb hby own_d24_32) rfl rfl ?_
      exact k
    obtain ⟨fs, hr, hrun, hended, hW, hsame⟩ := Xl7.leave (v := (some (.ref rb_2))) (fun h => by rw [Bd.returns] at h; cases h)
    refine ⟨_, _, k8 _ ?_, hrun, hended, _, _, rfl, ?_, ⟨_, rfl⟩, hW, hsame.mono (by decide) (by decide)⟩
    · exact retOut Xl7 hx Bd.returns rfl (Or.inr (Or.inr (Or.inr (Or.inr ⟨rfl, rfl, rfl⟩)))) (hb hby own_d24_33) hr
    · show own_Qtb Z p1 p2 p3 zc cf of_ nn h0 n0 _ Tl7.heap _
      rw [el7]
      exact ⟨rb_2, rfl, Nl7, Kl7, bo2_b, (Fl7_1.congr (fun i hi => ivg i (by omega)))⟩
  · rintro dd ⟨jj, i1, i4, gf, Tl7, Ll7, hl7, ivj, iv1, iv4, ivg, Xl7, el7, Nl7, Kl7, Zl7, Ol7, Fl7_0, Fl7_1, kl7⟩ ih
    have k9 : ∀ t, Steps p.tables e below (Tl7.setTop (mkF m 20 #[.val (.ref p1), .val (.int i1), .val (.int p3), .val (.ref rb_2), .val (.int i4)] [(.int (cf (of_ + jj))), (.int i4), (.ref rb_2)])) t → Steps p.tables e below (s₁.setTop (entryFrame m #[(.ref p1), (.int p2), (.int p3)] 5)) t := by
      intro t k
      refine kl7 t ?_
      show Steps p.tables e below (Tl7.setTop (mkF m 8 #[.val (.ref p1), .val (.int i1), .val (.int p3), .val (.ref rb_2), .val (.int i4)] [])) _
      refine XS.iload Xl7.here hx rfl (hb hby own_d24_8) rfl ?_
      show Steps p.tables e below (Tl7.setTop (mkF m 10 #[.val (.ref p1), .val (.int i1), .val (.int p3), .val (.ref rb_2), .val (.int i4)] [(.int i4)])) _
      refine XS.iloadN Xl7.here hx rfl (hb hby own_d24_10) rfl ?_
      show Steps p.tables e below (Tl7.setTop (mkF m 11 #[.val (.ref p1), .val (.int i1), .val (.int p3), .val (.ref rb_2), .val (.int i4)] [(.int p3), (.int i4)])) _
      refine XS.icmpNo Xl7.here hx rfl (hb hby own_d24_11) rfl (tlt (own_lt iv4 hp3 (by omega))).2.1 ?_
      show Steps p.tables e below (Tl7.setTop (mkF m 14 #[.val (.ref p1), .val (.int i1), .val (.int p3), .val (.ref rb_2), .val (.int i4)] [])) _
      refine XS.aloadN Xl7.here hx rfl (hb hby own_d24_14) rfl rfl ?_
      show Steps p.tables e below (Tl7.setTop (mkF m 15 #[.val (.ref p1), .val (.int i1), .val (.int p3), .val (.ref rb_2), .val (.int i4)] [(.ref rb_2)])) _
      refine XS.iload Xl7.here hx rfl (hb hby own_d24_15) rfl ?_
      show Steps p.tables e below (Tl7.setTop (mkF m 17 #[.val (.ref p1), .val (.int i1), .val (.int p3), .val (.ref rb_2), .val (.int i4)] [(.int i4), (.ref rb_2)])) _
      refine XS.aloadN Xl7.here hx rfl (hb hby own_d24_17) rfl rfl ?_
      show Steps p.tables e below (Tl7.setTop (mkF m 18 #[.val (.ref p1), .val (.int i1), .val (.int p3), .val (.ref rb_2), .val (.int i4)] [(.ref p1), (.int i4), (.ref rb_2)])) _
      refine XS.iloadN Xl7.here hx rfl (hb hby own_d24_18) rfl ?_
      show Steps p.tables e below (Tl7.setTop (mkF m 19 #[.val (.ref p1), .val (.int i1), .val (.int p3), .val (.ref rb_2), .val (.int i4)] [(.int i1), (.ref p1), (.int i4), (.ref rb_2)])) _
      refine own_ldC Xl7 hx hZ el7 Fl7_0 (j := i1) iv1 (by omega) (g := (mkF m 19 #[.val (.ref p1), .val (.int i1), .val (.int p3), .val (.ref rb_2), .val (.int i4)] [(.int i1), (.ref p1), (.int i4), (.ref rb_2)])) rfl rfl (hb hby own_d24_19) ?_
      exact k
    obtain ⟨_, _, ⟨T10, L10, k10c, n10⟩, -, X10, ⟨Lc10, hQ10, l10, y10, z10⟩, st10⟩ := Jvm.LawKit.callS Xl7 hx (y := (⟨"java/lang/StringUTF16", "putChar", "([BII)V"⟩ : MethodName)) hown (mvT hZ (hw _ (List.mem_of_getElem? (i := 123) rfl))) (mvT hZ (hw _ (List.mem_of_getElem? (i := 124) rfl))) (mvT hZ (hw _ (List.mem_of_getElem? (i := 85) rfl))) (mvT hZ (hw _ (List.mem_of_getElem? (i := 125) rfl))) (by decide) (backOf (W := 0) (own_rmpc l Z a0 hw [] rb_2 i4 (cf (of_ + jj)) nn gf jj hl7 n0 Zl7 Fl7_1 ge2_b Ol7 iv4 SA SH SL (by omega) (by omega)) hZ (hw _ (List.mem_of_getElem? (i := 125) rfl)) (hw _ (List.mem_of_getElem? (i := 85) rfl)) (by decide) (by decide)) (g := (mkF m 20 #[.val (.ref p1), .val (.int i1), .val (.int p3), .val (.ref rb_2), .val (.int i4)] [(.int (cf (of_ + jj))), (.int i4), (.ref rb_2)])) rfl (by rw [hml]; rfl) (argsL := [(.ref rb_2), (.int i4), (.int (cf (of_ + jj)))]) (rest := []) (lenOf own_pd2 rfl) rfl (by show 2 * 0 + _ ≤ _; exact Nat.le_of_eq rfl) (hb hby own_d24_20) (fun _ _ => ⟨rfl, el7, (by decide : 1 + 0 ≤ _), (by decide : 8 + 0 ≤ _)⟩)
    dsimp only [Pt.U, Pt.locs, Pt.cells, Pt.slots] at X10 l10 y10 z10 st10 hQ10
    subst l10 y10 z10
    obtain ⟨rfl, N10q, Kq10, fq10_0⟩ := hQ10
    have N10 := Fr.app Nl7 N10q
    have f11 := Fl7_0.keep Kq10 (List.not_mem_cons_of_ne_of_not_mem ne3 List.not_mem_nil)
    have Z10 : n0 ≤ T10.heap.size := Nat.le_trans Zl7 Kq10.1
    have K10 : Keep h0 T10.heap [] := Kl7.trans Kq10 (fun x hx => by rcases List.mem_cons.mp hx with rfl | hx; exact Or.inr bo2_b; exact nomatch hx)
    have Xo10 := Ol7.keep Kq10 (allS ge2_b all0)
    have k12 : ∀ t, Steps p.tables e below (T10.setTop (mkF m 23 #[.val (.ref p1), .val (.int i1), .val (.int p3), .val (.ref rb_2), .val (.int i4)] [])) t → Steps p.tables e below (s₁.setTop (entryFrame m #[(.ref p1), (.int p2), (.int p3)] 5)) t := fun t k => k9 t (st10 t k)
    have k13 : ∀ t, Steps p.tables e below (T10.setTop (mkF m 8 #[.val (.ref p1), .val (.int (i1 + (1 : Int32))), .val (.int p3), .val (.ref rb_2), .val (.int (i4 + (1 : Int32)))] [])) t → Steps p.tables e below (s₁.setTop (entryFrame m #[(.ref p1), (.int p2), (.int p3)] 5)) t := by
      intro t k
      refine k12 t ?_
      show Steps p.tables e below (T10.setTop (mkF m 23 #[.val (.ref p1), .val (.int i1), .val (.int p3), .val (.ref rb_2), .val (.int i4)] [])) _
      refine XS.iinc X10.here hx rfl (hb hby own_d24_23) rfl (l' := #[.val (.ref p1), .val (.int (i1 + (1 : Int32))), .val (.int p3), .val (.ref rb_2), .val (.int i4)]) rfl ?_
      show Steps p.tables e below (T10.setTop (mkF m 26 #[.val (.ref p1), .val (.int (i1 + (1 : Int32))), .val (.int p3), .val (.ref rb_2), .val (.int i4)] [])) _
      refine XS.iinc X10.here hx rfl (hb hby own_d24_26) rfl (l' := #[.val (.ref p1), .val (.int (i1 + (1 : Int32))), .val (.int p3), .val (.ref rb_2), .val (.int (i4 + (1 : Int32)))]) rfl ?_
      show Steps p.tables e below (T10.setTop (mkF m 29 #[.val (.ref p1), .val (.int (i1 + (1 : Int32))), .val (.int p3), .val (.ref rb_2), .val (.int (i4 + (1 : Int32)))] [])) _
      refine XS.goto X10.here hx rfl (pc0 := 29) (pc' := 8) rfl (hb hby own_d24_29) (by decide) (by decide) ?_
      exact k
    exact ih ⟨(jj + 1), (i1 + (1 : Int32)), (i4 + (1 : Int32)), _, _, _, _, (by omega), (by have z := own_inc iv1 (by omega); omega), (own_inc iv4 (by omega)), (own_u16s ivg), X10, rfl, N10, K10, Z10, Xo10, f11, fq10_0, k13⟩
theorem own_d17_0 : decode jdk_52_method_21_code 0 = .ok (.iconst 0, 1) := by decide +kernel
theorem own_d17_1 : decode jdk_52_method_21_code 1 = .ok (.istore 5, 2) := by decide +kernel
theorem own_d17_3 : decode jdk_52_method_21_code 3 = .ok (.iload 5, 2) := by decide +kernel
theorem own_d17_5 : decode jdk_52_method_21_code 5 = .ok (.iload 4, 2) := by decide +kernel
theorem own_d17_7 : decode jdk_52_method_21_code 7 = .ok (.if_icmp .ge 37, 3) := by decide +kernel
theorem own_d17_10 : decode jdk_52_method_21_code 10 = .ok (.aload_n 0, 1) := by decide +kernel
theorem own_d17_11 : decode jdk_52_method_21_code 11 = .ok (.iload_n 1, 1) := by decide +kernel
theorem own_d17_12 : decode jdk_52_method_21_code 12 = .ok (.caload, 1) := by decide +kernel
theorem own_d17_13 : decode jdk_52_method_21_code 13 = .ok (.istore 6, 2) := by decide +kernel
theorem own_d17_15 : decode jdk_52_method_21_code 15 = .ok (.iload 6, 2) := by decide +kernel
theorem own_d17_17 : decode jdk_52_method_21_code 17 = .ok (.sipush 255, 3) := by decide +kernel
theorem own_d17_20 : decode jdk_52_method_21_code 20 = .ok (.if_icmp .le 6, 3) := by decide +kernel
theorem own_d17_23 : decode jdk_52_method_21_code 23 = .ok (.iload 5, 2) := by decide +kernel
theorem own_d17_25 : decode jdk_52_method_21_code 25 = .ok (.ireturn, 1) := by decide +kernel
theorem own_d17_26 : decode jdk_52_method_21_code 26 = .ok (.aload_n 2, 1) := by decide +kernel
theorem own_d17_27 : decode jdk_52_method_21_code 27 = .ok (.iload_n 3, 1) := by decide +kernel
theorem own_d17_28 : decode jdk_52_method_21_code 28 = .ok (.iload 6, 2) := by decide +kernel
theorem own_d17_30 : decode jdk_52_method_21_code 30 = .ok (.i2b, 1) := by decide +kernel
theorem own_d17_31 : decode jdk_52_method_21_code 31 = .ok (.bastore, 1) := by decide +kernel
theorem own_d17_32 : decode jdk_52_method_21_code 32 = .ok (.iinc 1 1, 3) := by decide +kernel
theorem own_d17_35 : decode jdk_52_method_21_code 35 = .ok (.iinc 3 1, 3) := by decide +kernel
theorem own_d17_38 : decode jdk_52_method_21_code 38 = .ok (.iinc 5 1, 3) := by decide +kernel
theorem own_d17_41 : decode jdk_52_method_21_code 41 = .ok (.goto (-38), 3) := by decide +kernel
theorem own_d17_44 : decode jdk_52_method_21_code 44 = .ok (.iload 4, 2) := by decide +kernel
theorem own_d17_46 : decode jdk_52_method_21_code 46 = .ok (.ireturn, 1) := by decide +kernel
theorem own_efc5 (m : MethodId) (x0 : Addr) (x1 : Int32) (x2 : Addr) (x4 : Int32) : entryFrame m #[(.ref x0), (.int x1), (.ref x2), (.int (0 : Int32)), (.int x4)] 7 = mkF m 0 #[.val (.ref x0), .val (.int x1), .val (.ref x2), .val (.int (0 : Int32)), .val (.int x4), .unset, .unset] [] := by first | (simp [entryFrame, mkF, argsToLocals, Value.category]; done) | rfl
def own_Qc5 (Z : State) (p1 : Addr) (p2 : Int32) (p3 : Addr) (p5 : Int32) (zc : Nat) (cf : Nat → Int32) (zb : Nat) (bf : Nat → Int32) (of_ : Nat) (nn : Nat) (h0 : Heap) (n0 : Nat) (v : Option Value) (h : Heap) (L : List Loc) : Prop := ∃ (r : Int32) (gf : Nat → Int32), v = some (.int r) ∧ Fr n0 L ∧ Keep h0 h [p3] ∧ own_G Z h p3 .byte zb gf ∧ ((r = p5 ∧ (∀ i, i < nn → ¬ ((255 : Int32) < cf (of_ + i))) ∧ (∀ i, i < nn → gf i = own_b8 cf of_ i)) ∨ (∃ j, j < nn ∧ r.toInt = (j : Int) ∧ (255 : Int32) < cf (of_ + j)))
def own_Rc5 : Room := { frames := 0, cells := 0, slots := 0, locals := 0 }
set_option maxRecDepth 65536 in
set_option maxHeartbeats 40000000 in
theorem own_rmc5 (l : Launch) (Z : State) (a0 : Array Value) (hw : ∀ d ∈ tables_1, d.before a0 Z = true) (ws : List Jvm.Cond) (p1 : Addr) (p2 : Int32) (p3 : Addr) (p5 : Int32) (zc : Nat) (cf : Nat → Int32) (zb : Nat) (bf : Nat → Int32) (of_ : Nat) (nn : Nat) (h0 : Heap) (n0 : Nat) (Z0 : n0 ≤ h0.size) (P0 : own_G Z h0 p1 .char zc cf) (P1 : own_G Z h0 p3 .byte zb bf) (ge_p3 : n0 ≤ p3) (ne_p1_p3 : p1 ≠ p3) (hp2 : p2.toInt = (of_ : Int)) (hp5 : p5.toInt = (nn : Int)) (hbo : of_ + nn ≤ zc) (hz : zc ≤ 1000000) (hn : nn ≤ 4) (hzb : nn ≤ zb) :
    MetFree l (⟨"java/lang/StringUTF16", "compress", "([CI[BII)I"⟩ : MethodName) (head1 (Jvm.Cond.code (⟨"java/lang/StringUTF16", "compress", "([CI[BII)I"⟩ : MethodName) jdk_52_method_21_code 7 (some .int) :: ws) own_Rc5) (fun aa U => aa = #[(.ref p1), (.int p2), (.ref p3), (.int (0 : Int32)), (.int p5)] ∧ Z.Warmed39 U.vm ∧ U.heap = h0) (fun _ _ _ _ _ => True) (fun _ U o U' => ∃ v L, o = .returned v ∧ own_Qc5 Z p1 p2 p3 p5 zc cf zb bf of_ nn h0 n0 v U'.heap L ∧ FrameEnd U o U' L own_Rc5.cells own_Rc5.slots) := by
  refine MetFree.of_bodySF (plainFor_of_name own_pn0) hisR ?_
  intro p e s m args below meth c s₁ Bd hml0 hP hK
  obtain ⟨rfl, hZ, hh⟩ := hP
  have hx := Bd.exec
  have hby := Bd.bytes
  have hml : c.maxLocals = 7 := hml0
  have hown : s.vm.findClass "java/lang/StringUTF16" = some m.cls := findClass_of_methodNamed Bd.named
  have hnm := (name_of_methodNamed Bd.named Bd.method).1
  have X0 : Stand p l e own_Rc5 s m #[(.ref p1), (.int p2), (.ref p3), (.int (0 : Int32)), (.int p5)] below meth c s₁ [] 0 0 := Stand.of_body Bd
  have e0 : s₁.heap = h0 := by rw [← hh, Bd.state]; rfl
  have N0 := Fr.nil n0
  have pre0 : ∀ t, Steps p.tables e below (s₁.setTop (mkF m 0 #[.val (.ref p1), .val (.int p2), .val (.ref p3), .val (.int (0 : Int32)), .val (.int p5), .unset, .unset] [])) t → Steps p.tables e below (s₁.setTop (entryFrame m #[(.ref p1), (.int p2), (.ref p3), (.int (0 : Int32)), (.int p5)] 7)) t := fun t k => castTop (own_efc5 m p1 p2 p3 p5) k
  have k1 : ∀ t, Steps p.tables e below (s₁.setTop (mkF m 3 #[.val (.ref p1), .val (.int p2), .val (.ref p3), .val (.int (0 : Int32)), .val (.int p5), .val (.int (0 : Int32)), .unset] [])) t → Steps p.tables e below (s₁.setTop (entryFrame m #[(.ref p1), (.int p2), (.ref p3), (.int (0 : Int32)), (.int p5)] 7)) t := by
    intro t k
    refine pre0 t ?_
    show Steps p.tables e below (s₁.setTop (mkF m 0 #[.val (.ref p1), .val (.int p2), .val (.ref p3), .val (.int (0 : Int32)), .val (.int p5), .unset, .unset] [])) _
    refine XS.iconst X0.here hx rfl (hb hby own_d17_0) ?_
    show Steps p.tables e below (s₁.setTop (mkF m 1 #[.val (.ref p1), .val (.int p2), .val (.ref p3), .val (.int (0 : Int32)), .val (.int p5), .unset, .unset] [(.int (0 : Int32))])) _
    refine XS.istore X0.here hx rfl (hb hby own_d17_1) rfl (l' := #[.val (.ref p1), .val (.int p2), .val (.ref p3), .val (.int (0 : Int32)), .val (.int p5), .val (.int (0 : Int32)), .unset]) rfl ?_
    exact k
  refine own_ind (fun dd => ∃ (jj : Nat) (i1 : Int32) (i3 : Int32) (i5 : Int32) (q6 : Slot) (gf : Nat → Int32) (Tl2 : State) (Ll2 : List Loc) (hl2 : Heap), jj + dd = nn ∧ i1.toInt = ((of_ + jj : Nat) : Int) ∧ i3.toInt = (jj : Int) ∧ i5.toInt = (jj : Int) ∧ (q6 = .unset ∨ ∃ x6, q6 = .val (.int x6)) ∧ (∀ i, i < jj → ¬ ((255 : Int32) < cf (of_ + i)) ∧ gf i = own_b8 cf of_ i) ∧ Stand p l e own_Rc5 s m #[(.ref p1), (.int p2), (.ref p3), (.int (0 : Int32)), (.int p5)] below meth c Tl2 Ll2 0 0 ∧ Tl2.heap = hl2 ∧ Fr n0 Ll2 ∧ Keep h0 hl2 [p3] ∧ n0 ≤ hl2.size ∧ own_G Z hl2 p1 .char zc cf ∧ own_G Z hl2 p3 .byte zb gf ∧ ∀ t, Steps p.tables e below (Tl2.setTop (mkF m 3 #[.val (.ref p1), .val (.int i1), .val (.ref p3), .val (.int i3), .val (.int p5), .val (.int i5), q6] [])) t → Steps p.tables e below (s₁.setTop (entryFrame m #[(.ref p1), (.int p2), (.ref p3), (.int (0 : Int32)), (.int p5)] 7)) t) ?_ ?_ (nn) ⟨0, p2, (0 : Int32), (0 : Int32), .unset, bf, _, _, _, (by omega), (by omega), rfl, rfl, Or.inl rfl, fun i hi => absurd hi (by omega), X0, e0, N0, (Keep.refl h0 [p3]), Z0, P0, P1, k1⟩
  · rintro ⟨jj, i1, i3, i5, q6, gf, Tl2, Ll2, hl2, ivj, iv1, iv3, iv5, iv6, ivg, Xl2, el2, Nl2, Kl2, Zl2, Fl2_0, Fl2_1, kl2⟩
    have k3 : ∀ t, Steps p.tables e below (Tl2.setTop (mkF m 46 #[.val (.ref p1), .val (.int i1), .val (.ref p3), .val (.int i3), .val (.int p5), .val (.int i5), q6] [(.int p5)])) t → Steps p.tables e below (s₁.setTop (entryFrame m #[(.ref p1), (.int p2), (.ref p3), (.int (0 : Int32)), (.int p5)] 7)) t := by
      intro t k
      refine kl2 t ?_
      show Steps p.tables e below (Tl2.setTop (mkF m 3 #[.val (.ref p1), .val (.int i1), .val (.ref p3), .val (.int i3), .val (.int p5), .val (.int i5), q6] [])) _
      refine XS.iload Xl2.here hx rfl (hb hby own_d17_3) rfl ?_
      show Steps p.tables e below (Tl2.setTop (mkF m 5 #[.val (.ref p1), .val (.int i1), .val (.ref p3), .val (.int i3), .val (.int p5), .val (.int i5), q6] [(.int i5)])) _
      refine XS.iload Xl2.here hx rfl (hb hby own_d17_5) rfl ?_
      show Steps p.tables e below (Tl2.setTop (mkF m 7 #[.val (.ref p1), .val (.int i1), .val (.ref p3), .val (.int i3), .val (.int p5), .val (.int i5), q6] [(.int p5), (.int i5)])) _
      refine XS.icmpYes Xl2.here hx rfl (pc0 := 7) (pc' := 44) rfl (hb hby own_d17_7) rfl (flt (own_nlt iv5 hp5 (by omega))).2.1 (by decide) (by decide) ?_
      show Steps p.tables e below (Tl2.setTop (mkF m 44 #[.val (.ref p1), .val (.int i1), .val (.ref p3), .val (.int i3), .val (.int p5), .val (.int i5), q6] [])) _
      refine XS.iload Xl2.here hx rfl (hb hby own_d17_44) rfl ?_
      exact k
    obtain ⟨fs, hr, hrun, hended, hW, hsame⟩ := Xl2.leave (v := (some (.int p5))) (fun h => by rw [Bd.returns] at h; cases h)
    refine ⟨_, _, k3 _ ?_, hrun, hended, _, _, rfl, ?_, ⟨_, rfl⟩, hW, hsame.mono (by decide) (by decide)⟩
    · exact retI Xl2 hx Bd.returns (hb hby own_d17_46) hr
    · show own_Qc5 Z p1 p2 p3 p5 zc cf zb bf of_ nn h0 n0 _ Tl2.heap _
      rw [el2]
      exact ⟨p5, gf, rfl, Nl2, Kl2, Fl2_1, Or.inl ⟨rfl, fun i hi => (ivg i (by omega)).1, fun i hi => (ivg i (by omega)).2⟩⟩
  · rintro dd ⟨jj, i1, i3, i5, q6, gf, Tl2, Ll2, hl2, ivj, iv1, iv3, iv5, iv6, ivg, Xl2, el2, Nl2, Kl2, Zl2, Fl2_0, Fl2_1, kl2⟩ ih
    have k4 : ∀ t, Steps p.tables e below (Tl2.setTop (mkF m 10 #[.val (.ref p1), .val (.int i1), .val (.ref p3), .val (.int i3), .val (.int p5), .val (.int i5), q6] [])) t → Steps p.tables e below (s₁.setTop (entryFrame m #[(.ref p1), (.int p2), (.ref p3), (.int (0 : Int32)), (.int p5)] 7)) t := by
      intro t k
      refine kl2 t ?_
      show Steps p.tables e below (Tl2.setTop (mkF m 3 #[.val (.ref p1), .val (.int i1), .val (.ref p3), .val (.int i3), .val (.int p5), .val (.int i5), q6] [])) _
      refine XS.iload Xl2.here hx rfl (hb hby own_d17_3) rfl ?_
      show Steps p.tables e below (Tl2.setTop (mkF m 5 #[.val (.ref p1), .val (.int i1), .val (.ref p3), .val (.int i3), .val (.int p5), .val (.int i5), q6] [(.int i5)])) _
      refine XS.iload Xl2.here hx rfl (hb hby own_d17_5) rfl ?_
      show Steps p.tables e below (Tl2.setTop (mkF m 7 #[.val (.ref p1), .val (.int i1), .val (.ref p3), .val (.int i3), .val (.int p5), .val (.int i5), q6] [(.int p5), (.int i5)])) _
      refine XS.icmpNo Xl2.here hx rfl (hb hby own_d17_7) rfl (tlt (own_lt iv5 hp5 (by omega))).2.1 ?_
      exact k
    rcases iv6 with rfl | ⟨x6, rfl⟩
    · skip
      have k5 : ∀ t, Steps p.tables e below (Tl2.setTop (mkF m 20 #[.val (.ref p1), .val (.int i1), .val (.ref p3), .val (.int i3), .val (.int p5), .val (.int i5), .val (.int (cf (of_ + jj)))] [(.int (255 : Int32)), (.int (cf (of_ + jj)))])) t → Steps p.tables e below (s₁.setTop (entryFrame m #[(.ref p1), (.int p2), (.ref p3), (.int (0 : Int32)), (.int p5)] 7)) t := by
        intro t k
        refine k4 t ?_
        show Steps p.tables e below (Tl2.setTop (mkF m 10 #[.val (.ref p1), .val (.int i1), .val (.ref p3), .val (.int i3), .val (.int p5), .val (.int i5), .unset] [])) _
        refine XS.aloadN Xl2.here hx rfl (hb hby own_d17_10) rfl rfl ?_
        show Steps p.tables e below (Tl2.setTop (mkF m 11 #[.val (.ref p1), .val (.int i1), .val (.ref p3), .val (.int i3), .val (.int p5), .val (.int i5), .unset] [(.ref p1)])) _
        refine XS.iloadN Xl2.here hx rfl (hb hby own_d17_11) rfl ?_
        show Steps p.tables e below (Tl2.setTop (mkF m 12 #[.val (.ref p1), .val (.int i1), .val (.ref p3), .val (.int i3), .val (.int p5), .val (.int i5), .unset] [(.int i1), (.ref p1)])) _
        refine own_ldC Xl2 hx hZ el2 Fl2_0 (j := i1) iv1 (by omega) (g := (mkF m 12 #[.val (.ref p1), .val (.int i1), .val (.ref p3), .val (.int i3), .val (.int p5), .val (.int i5), .unset] [(.int i1), (.ref p1)])) rfl rfl (hb hby own_d17_12) ?_
        show Steps p.tables e below (Tl2.setTop (mkF m 13 #[.val (.ref p1), .val (.int i1), .val (.ref p3), .val (.int i3), .val (.int p5), .val (.int i5), .unset] [(.int (cf (of_ + jj)))])) _
        refine XS.istore Xl2.here hx rfl (hb hby own_d17_13) rfl (l' := #[.val (.ref p1), .val (.int i1), .val (.ref p3), .val (.int i3), .val (.int p5), .val (.int i5), .val (.int (cf (of_ + jj)))]) rfl ?_
        show Steps p.tables e below (Tl2.setTop (mkF m 15 #[.val (.ref p1), .val (.int i1), .val (.ref p3), .val (.int i3), .val (.int p5), .val (.int i5), .val (.int (cf (of_ + jj)))] [])) _
        refine XS.iload Xl2.here hx rfl (hb hby own_d17_15) rfl ?_
        show Steps p.tables e below (Tl2.setTop (mkF m 17 #[.val (.ref p1), .val (.int i1), .val (.ref p3), .val (.int i3), .val (.int p5), .val (.int i5), .val (.int (cf (of_ + jj)))] [(.int (cf (of_ + jj)))])) _
        refine XS.sipush Xl2.here hx rfl (hb hby own_d17_17) ?_
        exact k
      by_cases hc20_6 : (255 : Int32) < (cf (of_ + jj))
      · have k7 : ∀ t, Steps p.tables e below (Tl2.setTop (mkF m 25 #[.val (.ref p1), .val (.int i1), .val (.ref p3), .val (.int i3), .val (.int p5), .val (.int i5), .val (.int (cf (of_ + jj)))] [(.int i5)])) t → Steps p.tables e below (s₁.setTop (entryFrame m #[(.ref p1), (.int p2), (.ref p3), (.int (0 : Int32)), (.int p5)] 7)) t := by
          intro t k
          refine k5 t ?_
          show Steps p.tables e below (Tl2.setTop (mkF m 20 #[.val (.ref p1), .val (.int i1), .val (.ref p3), .val (.int i3), .val (.int p5), .val (.int i5), .val (.int (cf (of_ + jj)))] [(.int (255 : Int32)), (.int (cf (of_ + jj)))])) _
          refine XS.icmpNo Xl2.here hx rfl (hb hby own_d17_20) rfl (tlt hc20_6).2.2.2 ?_
          show Steps p.tables e below (Tl2.setTop (mkF m 23 #[.val (.ref p1), .val (.int i1), .val (.ref p3), .val (.int i3), .val (.int p5), .val (.int i5), .val (.int (cf (of_ + jj)))] [])) _
          refine XS.iload Xl2.here hx rfl (hb hby own_d17_23) rfl ?_
          exact k
        obtain ⟨fs, hr, hrun, hended, hW, hsame⟩ := Xl2.leave (v := (some (.int i5))) (fun h => by rw [Bd.returns] at h; cases h)
        refine ⟨_, _, k7 _ ?_, hrun, hended, _, _, rfl, ?_, ⟨_, rfl⟩, hW, hsame.mono (by decide) (by decide)⟩
        · exact retI Xl2 hx Bd.returns (hb hby own_d17_25) hr
        · show own_Qc5 Z p1 p2 p3 p5 zc cf zb bf of_ nn h0 n0 _ Tl2.heap _
          rw [el2]
          exact ⟨i5, gf, rfl, Nl2, Kl2, Fl2_1, Or.inr ⟨jj, by omega, iv5, hc20_6⟩⟩
      · have k8 : ∀ t, Steps p.tables e below (Tl2.setTop (mkF m 31 #[.val (.ref p1), .val (.int i1), .val (.ref p3), .val (.int i3), .val (.int p5), .val (.int i5), .val (.int (cf (of_ + jj)))] [(.int ((cf (of_ + jj)).toInt8.toInt32)), (.int i3), (.ref p3)])) t → Steps p.tables e below (s₁.setTop (entryFrame m #[(.ref p1), (.int p2), (.ref p3), (.int (0 : Int32)), (.int p5)] 7)) t := by
          intro t k
          refine k5 t ?_
          show Steps p.tables e below (Tl2.setTop (mkF m 20 #[.val (.ref p1), .val (.int i1), .val (.ref p3), .val (.int i3), .val (.int p5), .val (.int i5), .val (.int (cf (of_ + jj)))] [(.int (255 : Int32)), (.int (cf (of_ + jj)))])) _
          refine XS.icmpYes Xl2.here hx rfl (pc0 := 20) (pc' := 26) rfl (hb hby own_d17_20) rfl (flt hc20_6).2.2.2 (by decide) (by decide) ?_
          show Steps p.tables e below (Tl2.setTop (mkF m 26 #[.val (.ref p1), .val (.int i1), .val (.ref p3), .val (.int i3), .val (.int p5), .val (.int i5), .val (.int (cf (of_ + jj)))] [])) _
          refine XS.aloadN Xl2.here hx rfl (hb hby own_d17_26) rfl rfl ?_
          show Steps p.tables e below (Tl2.setTop (mkF m 27 #[.val (.ref p1), .val (.int i1), .val (.ref p3), .val (.int i3), .val (.int p5), .val (.int i5), .val (.int (cf (of_ + jj)))] [(.ref p3)])) _
          refine XS.iloadN Xl2.here hx rfl (hb hby own_d17_27) rfl ?_
          show Steps p.tables e below (Tl2.setTop (mkF m 28 #[.val (.ref p1), .val (.int i1), .val (.ref p3), .val (.int i3), .val (.int p5), .val (.int i5), .val (.int (cf (of_ + jj)))] [(.int i3), (.ref p3)])) _
          refine XS.iload Xl2.here hx rfl (hb hby own_d17_28) rfl ?_
          show Steps p.tables e below (Tl2.setTop (mkF m 30 #[.val (.ref p1), .val (.int i1), .val (.ref p3), .val (.int i3), .val (.int p5), .val (.int i5), .val (.int (cf (of_ + jj)))] [(.int (cf (of_ + jj))), (.int i3), (.ref p3)])) _
          refine XS.i2b Xl2.here hx rfl (hb hby own_d17_30) rfl ?_
          exact k
        obtain ⟨T9, h9, X9, e9, W9, G9, st9⟩ := own_stB Xl2 hx hZ el2 Fl2_1 (j := i3) iv3 (by omega) (g := (mkF m 31 #[.val (.ref p1), .val (.int i1), .val (.ref p3), .val (.int i3), .val (.int p5), .val (.int i5), .val (.int (cf (of_ + jj)))] [(.int ((cf (of_ + jj)).toInt8.toInt32)), (.int i3), (.ref p3)])) rfl rfl (hb hby own_d17_31)
        have f10 := Fl2_0.other W9 ne_p1_p3
        have N9 := Fr.snoc X9 Nl2 ge_p3
        have K9 : Keep h0 h9 [p3] := Kl2.wr W9 (Or.inl (List.mem_of_getElem? (i := 0) rfl))
        have Z9 : n0 ≤ h9.size := Nat.le_trans Zl2 (Keep.of_wr W9).1
        have k11 : ∀ t, Steps p.tables e below (T9.setTop (mkF m 32 #[.val (.ref p1), .val (.int i1), .val (.ref p3), .val (.int i3), .val (.int p5), .val (.int i5), .val (.int (cf (of_ + jj)))] [])) t → Steps p.tables e below (s₁.setTop (entryFrame m #[(.ref p1), (.int p2), (.ref p3), (.int (0 : Int32)), (.int p5)] 7)) t := fun t k => k8 t (st9 t k)
        have k12 : ∀ t, Steps p.tables e below (T9.setTop (mkF m 3 #[.val (.ref p1), .val (.int (i1 + (1 : Int32))), .val (.ref p3), .val (.int (i3 + (1 : Int32))), .val (.int p5), .val (.int (i5 + (1 : Int32))), .val (.int (cf (of_ + jj)))] [])) t → Steps p.tables e below (s₁.setTop (entryFrame m #[(.ref p1), (.int p2), (.ref p3), (.int (0 : Int32)), (.int p5)] 7)) t := by
          intro t k
          refine k11 t ?_
          show Steps p.tables e below (T9.setTop (mkF m 32 #[.val (.ref p1), .val (.int i1), .val (.ref p3), .val (.int i3), .val (.int p5), .val (.int i5), .val (.int (cf (of_ + jj)))] [])) _
          refine XS.iinc X9.here hx rfl (hb hby own_d17_32) rfl (l' := #[.val (.ref p1), .val (.int (i1 + (1 : Int32))), .val (.ref p3), .val (.int i3), .val (.int p5), .val (.int i5), .val (.int (cf (of_ + jj)))]) rfl ?_
          show Steps p.tables e below (T9.setTop (mkF m 35 #[.val (.ref p1), .val (.int (i1 + (1 : Int32))), .val (.ref p3), .val (.int i3), .val (.int p5), .val (.int i5), .val (.int (cf (of_ + jj)))] [])) _
          refine XS.iinc X9.here hx rfl (hb hby own_d17_35) rfl (l' := #[.val (.ref p1), .val (.int (i1 + (1 : Int32))), .val (.ref p3), .val (.int (i3 + (1 : Int32))), .val (.int p5), .val (.int i5), .val (.int (cf (of_ + jj)))]) rfl ?_
          show Steps p.tables e below (T9.setTop (mkF m 38 #[.val (.ref p1), .val (.int (i1 + (1 : Int32))), .val (.ref p3), .val (.int (i3 + (1 : Int32))), .val (.int p5), .val (.int i5), .val (.int (cf (of_ + jj)))] [])) _
          refine XS.iinc X9.here hx rfl (hb hby own_d17_38) rfl (l' := #[.val (.ref p1), .val (.int (i1 + (1 : Int32))), .val (.ref p3), .val (.int (i3 + (1 : Int32))), .val (.int p5), .val (.int (i5 + (1 : Int32))), .val (.int (cf (of_ + jj)))]) rfl ?_
          show Steps p.tables e below (T9.setTop (mkF m 41 #[.val (.ref p1), .val (.int (i1 + (1 : Int32))), .val (.ref p3), .val (.int (i3 + (1 : Int32))), .val (.int p5), .val (.int (i5 + (1 : Int32))), .val (.int (cf (of_ + jj)))] [])) _
          refine XS.goto X9.here hx rfl (pc0 := 41) (pc' := 3) rfl (hb hby own_d17_41) (by decide) (by decide) ?_
          exact k
        exact ih ⟨(jj + 1), (i1 + (1 : Int32)), (i3 + (1 : Int32)), (i5 + (1 : Int32)), _, _, _, _, _, (by omega), (by have z := own_inc iv1 (by omega); omega), (own_inc iv3 (by omega)), (own_inc iv5 (by omega)), Or.inr ⟨_, rfl⟩, (own_b8s ivg hc20_6), X9, e9, N9, K9, Z9, f10, G9, k12⟩
    · skip
      have k13 : ∀ t, Steps p.tables e below (Tl2.setTop (mkF m 20 #[.val (.ref p1), .val (.int i1), .val (.ref p3), .val (.int i3), .val (.int p5), .val (.int i5), .val (.int (cf (of_ + jj)))] [(.int (255 : Int32)), (.int (cf (of_ + jj)))])) t → Steps p.tables e below (s₁.setTop (entryFrame m #[(.ref p1), (.int p2), (.ref p3), (.int (0 : Int32)), (.int p5)] 7)) t := by
        intro t k
        refine k4 t ?_
        show Steps p.tables e below (Tl2.setTop (mkF m 10 #[.val (.ref p1), .val (.int i1), .val (.ref p3), .val (.int i3), .val (.int p5), .val (.int i5), .val (.int x6)] [])) _
        refine XS.aloadN Xl2.here hx rfl (hb hby own_d17_10) rfl rfl ?_
        show Steps p.tables e below (Tl2.setTop (mkF m 11 #[.val (.ref p1), .val (.int i1), .val (.ref p3), .val (.int i3), .val (.int p5), .val (.int i5), .val (.int x6)] [(.ref p1)])) _
        refine XS.iloadN Xl2.here hx rfl (hb hby own_d17_11) rfl ?_
        show Steps p.tables e below (Tl2.setTop (mkF m 12 #[.val (.ref p1), .val (.int i1), .val (.ref p3), .val (.int i3), .val (.int p5), .val (.int i5), .val (.int x6)] [(.int i1), (.ref p1)])) _
        refine own_ldC Xl2 hx hZ el2 Fl2_0 (j := i1) iv1 (by omega) (g := (mkF m 12 #[.val (.ref p1), .val (.int i1), .val (.ref p3), .val (.int i3), .val (.int p5), .val (.int i5), .val (.int x6)] [(.int i1), (.ref p1)])) rfl rfl (hb hby own_d17_12) ?_
        show Steps p.tables e below (Tl2.setTop (mkF m 13 #[.val (.ref p1), .val (.int i1), .val (.ref p3), .val (.int i3), .val (.int p5), .val (.int i5), .val (.int x6)] [(.int (cf (of_ + jj)))])) _
        refine XS.istore Xl2.here hx rfl (hb hby own_d17_13) rfl (l' := #[.val (.ref p1), .val (.int i1), .val (.ref p3), .val (.int i3), .val (.int p5), .val (.int i5), .val (.int (cf (of_ + jj)))]) rfl ?_
        show Steps p.tables e below (Tl2.setTop (mkF m 15 #[.val (.ref p1), .val (.int i1), .val (.ref p3), .val (.int i3), .val (.int p5), .val (.int i5), .val (.int (cf (of_ + jj)))] [])) _
        refine XS.iload Xl2.here hx rfl (hb hby own_d17_15) rfl ?_
        show Steps p.tables e below (Tl2.setTop (mkF m 17 #[.val (.ref p1), .val (.int i1), .val (.ref p3), .val (.int i3), .val (.int p5), .val (.int i5), .val (.int (cf (of_ + jj)))] [(.int (cf (of_ + jj)))])) _
        refine XS.sipush Xl2.here hx rfl (hb hby own_d17_17) ?_
        exact k
      by_cases hc20_14 : (255 : Int32) < (cf (of_ + jj))
      · have k15 : ∀ t, Steps p.tables e below (Tl2.setTop (mkF m 25 #[.val (.ref p1), .val (.int i1), .val (.ref p3), .val (.int i3), .val (.int p5), .val (.int i5), .val (.int (cf (of_ + jj)))] [(.int i5)])) t → Steps p.tables e below (s₁.setTop (entryFrame m #[(.ref p1), (.int p2), (.ref p3), (.int (0 : Int32)), (.int p5)] 7)) t := by
          intro t k
          refine k13 t ?_
          show Steps p.tables e below (Tl2.setTop (mkF m 20 #[.val (.ref p1), .val (.int i1), .val (.ref p3), .val (.int i3), .val (.int p5), .val (.int i5), .val (.int (cf (of_ + jj)))] [(.int (255 : Int32)), (.int (cf (of_ + jj)))])) _
          refine XS.icmpNo Xl2.here hx rfl (hb hby own_d17_20) rfl (tlt hc20_14).2.2.2 ?_
          show Steps p.tables e below (Tl2.setTop (mkF m 23 #[.val (.ref p1), .val (.int i1), .val (.ref p3), .val (.int i3), .val (.int p5), .val (.int i5), .val (.int (cf (of_ + jj)))] [])) _
          refine XS.iload Xl2.here hx rfl (hb hby own_d17_23) rfl ?_
          exact k
        obtain ⟨fs, hr, hrun, hended, hW, hsame⟩ := Xl2.leave (v := (some (.int i5))) (fun h => by rw [Bd.returns] at h; cases h)
        refine ⟨_, _, k15 _ ?_, hrun, hended, _, _, rfl, ?_, ⟨_, rfl⟩, hW, hsame.mono (by decide) (by decide)⟩
        · exact retI Xl2 hx Bd.returns (hb hby own_d17_25) hr
        · show own_Qc5 Z p1 p2 p3 p5 zc cf zb bf of_ nn h0 n0 _ Tl2.heap _
          rw [el2]
          exact ⟨i5, gf, rfl, Nl2, Kl2, Fl2_1, Or.inr ⟨jj, by omega, iv5, hc20_14⟩⟩
      · have k16 : ∀ t, Steps p.tables e below (Tl2.setTop (mkF m 31 #[.val (.ref p1), .val (.int i1), .val (.ref p3), .val (.int i3), .val (.int p5), .val (.int i5), .val (.int (cf (of_ + jj)))] [(.int ((cf (of_ + jj)).toInt8.toInt32)), (.int i3), (.ref p3)])) t → Steps p.tables e below (s₁.setTop (entryFrame m #[(.ref p1), (.int p2), (.ref p3), (.int (0 : Int32)), (.int p5)] 7)) t := by
          intro t k
          refine k13 t ?_
          show Steps p.tables e below (Tl2.setTop (mkF m 20 #[.val (.ref p1), .val (.int i1), .val (.ref p3), .val (.int i3), .val (.int p5), .val (.int i5), .val (.int (cf (of_ + jj)))] [(.int (255 : Int32)), (.int (cf (of_ + jj)))])) _
          refine XS.icmpYes Xl2.here hx rfl (pc0 := 20) (pc' := 26) rfl (hb hby own_d17_20) rfl (flt hc20_14).2.2.2 (by decide) (by decide) ?_
          show Steps p.tables e below (Tl2.setTop (mkF m 26 #[.val (.ref p1), .val (.int i1), .val (.ref p3), .val (.int i3), .val (.int p5), .val (.int i5), .val (.int (cf (of_ + jj)))] [])) _
          refine XS.aloadN Xl2.here hx rfl (hb hby own_d17_26) rfl rfl ?_
          show Steps p.tables e below (Tl2.setTop (mkF m 27 #[.val (.ref p1), .val (.int i1), .val (.ref p3), .val (.int i3), .val (.int p5), .val (.int i5), .val (.int (cf (of_ + jj)))] [(.ref p3)])) _
          refine XS.iloadN Xl2.here hx rfl (hb hby own_d17_27) rfl ?_
          show Steps p.tables e below (Tl2.setTop (mkF m 28 #[.val (.ref p1), .val (.int i1), .val (.ref p3), .val (.int i3), .val (.int p5), .val (.int i5), .val (.int (cf (of_ + jj)))] [(.int i3), (.ref p3)])) _
          refine XS.iload Xl2.here hx rfl (hb hby own_d17_28) rfl ?_
          show Steps p.tables e below (Tl2.setTop (mkF m 30 #[.val (.ref p1), .val (.int i1), .val (.ref p3), .val (.int i3), .val (.int p5), .val (.int i5), .val (.int (cf (of_ + jj)))] [(.int (cf (of_ + jj))), (.int i3), (.ref p3)])) _
          refine XS.i2b Xl2.here hx rfl (hb hby own_d17_30) rfl ?_
          exact k
        obtain ⟨T17, h17, X17, e17, W17, G17, st17⟩ := own_stB Xl2 hx hZ el2 Fl2_1 (j := i3) iv3 (by omega) (g := (mkF m 31 #[.val (.ref p1), .val (.int i1), .val (.ref p3), .val (.int i3), .val (.int p5), .val (.int i5), .val (.int (cf (of_ + jj)))] [(.int ((cf (of_ + jj)).toInt8.toInt32)), (.int i3), (.ref p3)])) rfl rfl (hb hby own_d17_31)
        have f18 := Fl2_0.other W17 ne_p1_p3
        have N17 := Fr.snoc X17 Nl2 ge_p3
        have K17 : Keep h0 h17 [p3] := Kl2.wr W17 (Or.inl (List.mem_of_getElem? (i := 0) rfl))
        have Z17 : n0 ≤ h17.size := Nat.le_trans Zl2 (Keep.of_wr W17).1
        have k19 : ∀ t, Steps p.tables e below (T17.setTop (mkF m 32 #[.val (.ref p1), .val (.int i1), .val (.ref p3), .val (.int i3), .val (.int p5), .val (.int i5), .val (.int (cf (of_ + jj)))] [])) t → Steps p.tables e below (s₁.setTop (entryFrame m #[(.ref p1), (.int p2), (.ref p3), (.int (0 : Int32)), (.int p5)] 7)) t := fun t k => k16 t (st17 t k)
        have k20 : ∀ t, Steps p.tables e below (T17.setTop (mkF m 3 #[.val (.ref p1), .val (.int (i1 + (1 : Int32))), .val (.ref p3), .val (.int (i3 + (1 : Int32))), .val (.int p5), .val (.int (i5 + (1 : Int32))), .val (.int (cf (of_ + jj)))] [])) t → Steps p.tables e below (s₁.setTop (entryFrame m #[(.ref p1), (.int p2), (.ref p3), (.int (0 : Int32)), (.int p5)] 7)) t := by
          intro t k
          refine k19 t ?_
          show Steps p.tables e below (T17.setTop (mkF m 32 #[.val (.ref p1), .val (.int i1), .val (.ref p3), .val (.int i3), .val (.int p5), .val (.int i5), .val (.int (cf (of_ + jj)))] [])) _
          refine XS.iinc X17.here hx rfl (hb hby own_d17_32) rfl (l' := #[.val (.ref p1), .val (.int (i1 + (1 : Int32))), .val (.ref p3), .val (.int i3), .val (.int p5), .val (.int i5), .val (.int (cf (of_ + jj)))]) rfl ?_
          show Steps p.tables e below (T17.setTop (mkF m 35 #[.val (.ref p1), .val (.int (i1 + (1 : Int32))), .val (.ref p3), .val (.int i3), .val (.int p5), .val (.int i5), .val (.int (cf (of_ + jj)))] [])) _
          refine XS.iinc X17.here hx rfl (hb hby own_d17_35) rfl (l' := #[.val (.ref p1), .val (.int (i1 + (1 : Int32))), .val (.ref p3), .val (.int (i3 + (1 : Int32))), .val (.int p5), .val (.int i5), .val (.int (cf (of_ + jj)))]) rfl ?_
          show Steps p.tables e below (T17.setTop (mkF m 38 #[.val (.ref p1), .val (.int (i1 + (1 : Int32))), .val (.ref p3), .val (.int (i3 + (1 : Int32))), .val (.int p5), .val (.int i5), .val (.int (cf (of_ + jj)))] [])) _
          refine XS.iinc X17.here hx rfl (hb hby own_d17_38) rfl (l' := #[.val (.ref p1), .val (.int (i1 + (1 : Int32))), .val (.ref p3), .val (.int (i3 + (1 : Int32))), .val (.int p5), .val (.int (i5 + (1 : Int32))), .val (.int (cf (of_ + jj)))]) rfl ?_
          show Steps p.tables e below (T17.setTop (mkF m 41 #[.val (.ref p1), .val (.int (i1 + (1 : Int32))), .val (.ref p3), .val (.int (i3 + (1 : Int32))), .val (.int p5), .val (.int (i5 + (1 : Int32))), .val (.int (cf (of_ + jj)))] [])) _
          refine XS.goto X17.here hx rfl (pc0 := 41) (pc' := 3) rfl (hb hby own_d17_41) (by decide) (by decide) ?_
          exact k
        exact ih ⟨(jj + 1), (i1 + (1 : Int32)), (i3 + (1 : Int32)), (i5 + (1 : Int32)), _, _, _, _, _, (by omega), (by have z := own_inc iv1 (by omega); omega), (own_inc iv3 (by omega)), (own_inc iv5 (by omega)), Or.inr ⟨_, rfl⟩, (own_b8s ivg hc20_14), X17, e17, N17, K17, Z17, f18, G17, k20⟩
theorem own_d16_0 : decode jdk_52_method_16_code 0 = .ok (.iload_n 2, 1) := by decide +kernel
theorem own_d16_1 : decode jdk_52_method_16_code 1 = .ok (.newarray .byte, 2) := by decide +kernel
theorem own_d16_3 : decode jdk_52_method_16_code 3 = .ok (.astore_n 3, 1) := by decide +kernel
theorem own_d16_4 : decode jdk_52_method_16_code 4 = .ok (.aload_n 0, 1) := by decide +kernel
theorem own_d16_5 : decode jdk_52_method_16_code 5 = .ok (.iload_n 1, 1) := by decide +kernel
theorem own_d16_6 : decode jdk_52_method_16_code 6 = .ok (.aload_n 3, 1) := by decide +kernel
theorem own_d16_7 : decode jdk_52_method_16_code 7 = .ok (.iconst 0, 1) := by decide +kernel
theorem own_d16_8 : decode jdk_52_method_16_code 8 = .ok (.iload_n 2, 1) := by decide +kernel
theorem own_d16_9 : decode jdk_52_method_16_code 9 = .ok (.invokestatic 115, 3) := by decide +kernel
theorem own_d16_12 : decode jdk_52_method_16_code 12 = .ok (.istore 4, 2) := by decide +kernel
theorem own_d16_14 : decode jdk_52_method_16_code 14 = .ok (.iload 4, 2) := by decide +kernel
theorem own_d16_16 : decode jdk_52_method_16_code 16 = .ok (.iload_n 2, 1) := by decide +kernel
theorem own_d16_17 : decode jdk_52_method_16_code 17 = .ok (.if_icmp .eq 40, 3) := by decide +kernel
theorem own_d16_20 : decode jdk_52_method_16_code 20 = .ok (.aload_n 0, 1) := by decide +kernel
theorem own_d16_21 : decode jdk_52_method_16_code 21 = .ok (.iload_n 1, 1) := by decide +kernel
theorem own_d16_22 : decode jdk_52_method_16_code 22 = .ok (.iload_n 2, 1) := by decide +kernel
theorem own_d16_23 : decode jdk_52_method_16_code 23 = .ok (.invokestatic 119, 3) := by decide +kernel
theorem own_d16_26 : decode jdk_52_method_16_code 26 = .ok (.astore 5, 2) := by decide +kernel
theorem own_d16_28 : decode jdk_52_method_16_code 28 = .ok (.aload 5, 2) := by decide +kernel
theorem own_d16_30 : decode jdk_52_method_16_code 30 = .ok (.iload 4, 2) := by decide +kernel
theorem own_d16_32 : decode jdk_52_method_16_code 32 = .ok (.invokestatic 71, 3) := by decide +kernel
theorem own_d16_35 : decode jdk_52_method_16_code 35 = .ok (.sipush 255, 3) := by decide +kernel
theorem own_d16_38 : decode jdk_52_method_16_code 38 = .ok (.if_icmp .gt 16, 3) := by decide +kernel
theorem own_d16_54 : decode jdk_52_method_16_code 54 = .ok (.aload 5, 2) := by decide +kernel
theorem own_d16_56 : decode jdk_52_method_16_code 56 = .ok (.areturn, 1) := by decide +kernel
theorem own_d16_57 : decode jdk_52_method_16_code 57 = .ok (.aload_n 3, 1) := by decide +kernel
theorem own_d16_58 : decode jdk_52_method_16_code 58 = .ok (.areturn, 1) := by decide +kernel
theorem own_pd3 : parseMethodDescriptor "([CI[BII)I" = some ⟨[(.array .char), .int, (.array .byte), .int, .int], some .int⟩ := by decide +kernel
theorem own_pd4 : parseMethodDescriptor "([CII)[B" = some ⟨[(.array .char), .int, .int], some (.array .byte)⟩ := by decide +kernel
theorem own_pd5 : parseMethodDescriptor "([BI)C" = some ⟨[(.array .byte), .int], some .char⟩ := by decide +kernel
theorem own_efc4 (m : MethodId) (x0 : Addr) (x1 : Int32) (x2 : Int32) : entryFrame m #[(.ref x0), (.int x1), (.int x2)] 6 = mkF m 0 #[.val (.ref x0), .val (.int x1), .val (.int x2), .unset, .unset, .unset] [] := by first | (simp [entryFrame, mkF, argsToLocals, Value.category]; done) | rfl
def own_Qc4 (Z : State) (p1 : Addr) (p2 : Int32) (p3 : Int32) (zc : Nat) (cf : Nat → Int32) (of_ : Nat) (nn : Nat) (h0 : Heap) (n0 : Nat) (v : Option Value) (h : Heap) (L : List Loc) : Prop := ∃ (b : Addr) (cd : Int32), v = some (.ref b) ∧ Fr n0 L ∧ Keep h0 h [] ∧ h0.size ≤ b ∧ (own_By Z h b nn of_ cf cd)
def own_Rc4 : Room := { frames := 3, cells := 2, slots := 12, locals := 40 }
set_option maxRecDepth 65536 in
set_option maxHeartbeats 40000000 in
theorem own_rmc4 (l : Launch) (Z : State) (a0 : Array Value) (hw : ∀ d ∈ tables_1, d.before a0 Z = true) (ws : List Jvm.Cond) (p1 : Addr) (p2 : Int32) (p3 : Int32) (zc : Nat) (cf : Nat → Int32) (of_ : Nat) (nn : Nat) (h0 : Heap) (n0 : Nat) (Z0 : n0 ≤ h0.size) (P0 : own_G Z h0 p1 .char zc cf) (Xo : Old Z n0 h0) (hp2 : p2.toInt = (of_ : Int)) (hp3 : p3.toInt = (nn : Int)) (SA : Sta Z Z.heap "java/lang/StringUTF16" "$assertionsDisabled" "Z" (.int (1 : Int32))) (SH : Sta Z Z.heap "java/lang/StringUTF16" "HI_BYTE_SHIFT" "I" (.int (0 : Int32))) (SL : Sta Z Z.heap "java/lang/StringUTF16" "LO_BYTE_SHIFT" "I" (.int (8 : Int32))) (hbo : of_ + nn ≤ zc) (hz : zc ≤ 1000000) (hn : nn ≤ 4) (hch : ∀ i, i < nn → own_ch (cf (of_ + i))) :
    MetFree l (⟨"java/lang/StringUTF16", "compress", "([CII)[B"⟩ : MethodName) (head1 (Jvm.Cond.code (⟨"java/lang/StringUTF16", "compress", "([CII)[B"⟩ : MethodName) jdk_52_method_16_code 6 (some (.array .byte)) :: ws) own_Rc4) (fun aa U => aa = #[(.ref p1), (.int p2), (.int p3)] ∧ Z.Warmed39 U.vm ∧ U.heap = h0) (fun _ _ _ _ _ => True) (fun _ U o U' => ∃ v L, o = .returned v ∧ own_Qc4 Z p1 p2 p3 zc cf of_ nn h0 n0 v U'.heap L ∧ FrameEnd U o U' L own_Rc4.cells own_Rc4.slots) := by
  refine MetFree.of_bodySF (plainFor_of_name own_pn0) hisR ?_
  intro p e s m args below meth c s₁ Bd hml0 hP hK
  obtain ⟨rfl, hZ, hh⟩ := hP
  have hx := Bd.exec
  have hby := Bd.bytes
  have hml : c.maxLocals = 6 := hml0
  have hown : s.vm.findClass "java/lang/StringUTF16" = some m.cls := findClass_of_methodNamed Bd.named
  have hnm := (name_of_methodNamed Bd.named Bd.method).1
  have X0 : Stand p l e own_Rc4 s m #[(.ref p1), (.int p2), (.int p3)] below meth c s₁ [] 0 0 := Stand.of_body Bd
  have e0 : s₁.heap = h0 := by rw [← hh, Bd.state]; rfl
  have N0 := Fr.nil n0
  have pre0 : ∀ t, Steps p.tables e below (s₁.setTop (mkF m 0 #[.val (.ref p1), .val (.int p2), .val (.int p3), .unset, .unset, .unset] [])) t → Steps p.tables e below (s₁.setTop (entryFrame m #[(.ref p1), (.int p2), (.int p3)] 6)) t := fun t k => castTop (own_efc4 m p1 p2 p3) k
  have k1 : ∀ t, Steps p.tables e below (s₁.setTop (mkF m 1 #[.val (.ref p1), .val (.int p2), .val (.int p3), .unset, .unset, .unset] [(.int p3)])) t → Steps p.tables e below (s₁.setTop (entryFrame m #[(.ref p1), (.int p2), (.int p3)] 6)) t := by
    intro t k
    refine pre0 t ?_
    show Steps p.tables e below (s₁.setTop (mkF m 0 #[.val (.ref p1), .val (.int p2), .val (.int p3), .unset, .unset, .unset] [])) _
    refine XS.iloadN X0.here hx rfl (hb hby own_d16_0) rfl ?_
    exact k
  obtain ⟨T2, h2, X2, e2, E2, A2, st2⟩ := own_newB X0 hx hZ (hw _ (List.mem_of_getElem? (i := 47) rfl)) e0 (g := (mkF m 1 #[.val (.ref p1), .val (.int p2), .val (.int p3), .unset, .unset, .unset] [(.int p3)])) rfl (hb hby own_d16_1) rfl (n := nn) hp3 (cap := 4) (by omega) (by decide) (by decide) (by decide)
  obtain ⟨b2, g2⟩ : ∃ z, z = h0.size := ⟨_, rfl⟩
  rw [← g2] at A2 st2
  have ge2 : n0 ≤ b2 := Nat.le_trans Z0 (Nat.le_of_eq g2.symm)
  have bo2 : h0.size ≤ b2 := Nat.le_trans (Keep.refl h0 []).1 (Nat.le_of_eq g2.symm)
  have ne3 : p1 ≠ b2 := Nat.ne_of_lt (Nat.lt_of_lt_of_le P0.lt (Nat.le_of_eq g2.symm))
  have Z2 : n0 ≤ h2.size := Nat.le_trans Z0 E2.1
  have K2 : Keep h0 h2 [] := (Keep.refl h0 []).ext E2
  have Xo2 := Xo.ext E2
  have f4 := P0.ext E2
  have k5 : ∀ t, Steps p.tables e below (T2.setTop (mkF m 3 #[.val (.ref p1), .val (.int p2), .val (.int p3), .unset, .unset, .unset] [(.ref b2)])) t → Steps p.tables e below (s₁.setTop (entryFrame m #[(.ref p1), (.int p2), (.int p3)] 6)) t := fun t k => k1 t (st2 t k)
  have k6 : ∀ t, Steps p.tables e below (T2.setTop (mkF m 9 #[.val (.ref p1), .val (.int p2), .val (.int p3), .val (.ref b2), .unset, .unset] [(.int p3), (.int (0 : Int32)), (.ref b2), (.int p2), (.ref p1)])) t → Steps p.tables e below (s₁.setTop (entryFrame m #[(.ref p1), (.int p2), (.int p3)] 6)) t := by
    intro t k
    refine k5 t ?_
    show Steps p.tables e below (T2.setTop (mkF m 3 #[.val (.ref p1), .val (.int p2), .val (.int p3), .unset, .unset, .unset] [(.ref b2)])) _
    refine XS.astoreN X2.here hx rfl (hb hby own_d16_3) rfl rfl (l' := #[.val (.ref p1), .val (.int p2), .val (.int p3), .val (.ref b2), .unset, .unset]) rfl ?_
    show Steps p.tables e below (T2.setTop (mkF m 4 #[.val (.ref p1), .val (.int p2), .val (.int p3), .val (.ref b2), .unset, .unset] [])) _
    refine XS.aloadN X2.here hx rfl (hb hby own_d16_4) rfl rfl ?_
    show Steps p.tables e below (T2.setTop (mkF m 5 #[.val (.ref p1), .val (.int p2), .val (.int p3), .val (.ref b2), .unset, .unset] [(.ref p1)])) _
    refine XS.iloadN X2.here hx rfl (hb hby own_d16_5) rfl ?_
    show Steps p.tables e below (T2.setTop (mkF m 6 #[.val (.ref p1), .val (.int p2), .val (.int p3), .val (.ref b2), .unset, .unset] [(.int p2), (.ref p1)])) _
    refine XS.aloadN X2.here hx rfl (hb hby own_d16_6) rfl rfl ?_
    show Steps p.tables e below (T2.setTop (mkF m 7 #[.val (.ref p1), .val (.int p2), .val (.int p3), .val (.ref b2), .unset, .unset] [(.ref b2), (.int p2), (.ref p1)])) _
    refine XS.iconst X2.here hx rfl (hb hby own_d16_7) ?_
    show Steps p.tables e below (T2.setTop (mkF m 8 #[.val (.ref p1), .val (.int p2), .val (.int p3), .val (.ref b2), .unset, .unset] [(.int (0 : Int32)), (.ref b2), (.int p2), (.ref p1)])) _
    refine XS.iloadN X2.here hx rfl (hb hby own_d16_8) rfl ?_
    exact k
  obtain ⟨_, _, ⟨T7, L7, k7c, n7⟩, -, X7, ⟨Lc7, hQ7, l7, y7, z7⟩, st7⟩ := Jvm.LawKit.callS X2 hx (y := (⟨"java/lang/StringUTF16", "compress", "([CI[BII)I"⟩ : MethodName)) hown (mvT hZ (hw _ (List.mem_of_getElem? (i := 87) rfl))) (mvT hZ (hw _ (List.mem_of_getElem? (i := 88) rfl))) (mvT hZ (hw _ (List.mem_of_getElem? (i := 85) rfl))) (mvT hZ (hw _ (List.mem_of_getElem? (i := 89) rfl))) (by decide) (backOf (W := 0) (own_rmc5 l Z a0 hw [] p1 p2 b2 p3 zc cf nn own_zero of_ nn h2 n0 Z2 f4 A2 ge2 ne3 hp2 hp3 (by omega) (by omega) (by omega) (by omega)) hZ (hw _ (List.mem_of_getElem? (i := 89) rfl)) (hw _ (List.mem_of_getElem? (i := 85) rfl)) (by decide) (by decide)) (g := (mkF m 9 #[.val (.ref p1), .val (.int p2), .val (.int p3), .val (.ref b2), .unset, .unset] [(.int p3), (.int (0 : Int32)), (.ref b2), (.int p2), (.ref p1)])) rfl (by rw [hml]; rfl) (argsL := [(.ref p1), (.int p2), (.ref b2), (.int (0 : Int32)), (.int p3)]) (rest := []) (lenOf own_pd3 rfl) rfl (by show 2 * 0 + _ ≤ _; exact Nat.le_of_eq rfl) (hb hby own_d16_9) (fun _ _ => ⟨rfl, e2, (by decide : 1 + 0 ≤ _), (by decide : 4 + 0 ≤ _)⟩)
  dsimp only [Pt.U, Pt.locs, Pt.cells, Pt.slots] at X7 l7 y7 z7 st7 hQ7
  subst l7 y7 z7
  obtain ⟨r_7, gf_7, rfl, N7q, Kq7, fq7_0, hq7_hr⟩ := hQ7
  have N7 := Fr.app N0 N7q
  have f8 := f4.keep Kq7 (List.not_mem_cons_of_ne_of_not_mem ne3 List.not_mem_nil)
  have Z7 : n0 ≤ T7.heap.size := Nat.le_trans Z2 Kq7.1
  have K7 : Keep h0 T7.heap [] := K2.trans Kq7 (fun x hx => by rcases List.mem_cons.mp hx with rfl | hx; exact Or.inr bo2; exact nomatch hx)
  have Xo7 := Xo2.keep Kq7 (allS ge2 all0)
  have k9 : ∀ t, Steps p.tables e below (T7.setTop (mkF m 12 #[.val (.ref p1), .val (.int p2), .val (.int p3), .val (.ref b2), .unset, .unset] [(.int r_7)])) t → Steps p.tables e below (s₁.setTop (entryFrame m #[(.ref p1), (.int p2), (.int p3)] 6)) t := fun t k => k6 t (st7 t k)
  rcases hq7_hr with ⟨hra, hrb, hrc⟩ | ⟨jr, hrj, hrb, hrc⟩
  · skip
    have k10 : ∀ t, Steps p.tables e below (T7.setTop (mkF m 58 #[.val (.ref p1), .val (.int p2), .val (.int p3), .val (.ref b2), .val (.int r_7), .unset] [(.ref b2)])) t → Steps p.tables e below (s₁.setTop (entryFrame m #[(.ref p1), (.int p2), (.int p3)] 6)) t := by
      intro t k
      refine k9 t ?_
      show Steps p.tables e below (T7.setTop (mkF m 12 #[.val (.ref p1), .val (.int p2), .val (.int p3), .val (.ref b2), .unset, .unset] [(.int r_7)])) _
      refine XS.istore X7.here hx rfl (hb hby own_d16_12) rfl (l' := #[.val (.ref p1), .val (.int p2), .val (.int p3), .val (.ref b2), .val (.int r_7), .unset]) rfl ?_
      show Steps p.tables e below (T7.setTop (mkF m 14 #[.val (.ref p1), .val (.int p2), .val (.int p3), .val (.ref b2), .val (.int r_7), .unset] [])) _
      refine XS.iload X7.here hx rfl (hb hby own_d16_14) rfl ?_
      show Steps p.tables e below (T7.setTop (mkF m 16 #[.val (.ref p1), .val (.int p2), .val (.int p3), .val (.ref b2), .val (.int r_7), .unset] [(.int r_7)])) _
      refine XS.iloadN X7.here hx rfl (hb hby own_d16_16) rfl ?_
      show Steps p.tables e below (T7.setTop (mkF m 17 #[.val (.ref p1), .val (.int p2), .val (.int p3), .val (.ref b2), .val (.int r_7), .unset] [(.int p3), (.int r_7)])) _
      refine XS.icmpYes X7.here hx rfl (pc0 := 17) (pc' := 57) rfl (hb hby own_d16_17) rfl (teq hra).1 (by decide) (by decide) ?_
      show Steps p.tables e below (T7.setTop (mkF m 57 #[.val (.ref p1), .val (.int p2), .val (.int p3), .val (.ref b2), .val (.int r_7), .unset] [])) _
      refine XS.aloadN X7.here hx rfl (hb hby own_d16_57) rfl rfl ?_
      exact k
    obtain ⟨fs, hr, hrun, hended, hW, hsame⟩ := X7.leave (v := (some (.ref b2))) (fun h => by rw [Bd.returns] at h; cases h)
    refine ⟨_, _, k10 _ ?_, hrun, hended, _, _, rfl, ?_, ⟨_, rfl⟩, hW, hsame.mono (by decide) (by decide)⟩
    · exact retOut X7 hx Bd.returns rfl (Or.inr (Or.inr (Or.inr (Or.inr ⟨rfl, rfl, rfl⟩)))) (hb hby own_d16_58) hr
    · show own_Qc4 Z p1 p2 p3 zc cf of_ nn h0 n0 _ T7.heap _
      exact ⟨b2, (0 : Int32), rfl, N7, K7, bo2, Or.inl ⟨rfl, hrb, fq7_0.congr hrc⟩⟩
  · skip
    have k11 : ∀ t, Steps p.tables e below (T7.setTop (mkF m 23 #[.val (.ref p1), .val (.int p2), .val (.int p3), .val (.ref b2), .val (.int r_7), .unset] [(.int p3), (.int p2), (.ref p1)])) t → Steps p.tables e below (s₁.setTop (entryFrame m #[(.ref p1), (.int p2), (.int p3)] 6)) t := by
      intro t k
      refine k9 t ?_
      show Steps p.tables e below (T7.setTop (mkF m 12 #[.val (.ref p1), .val (.int p2), .val (.int p3), .val (.ref b2), .unset, .unset] [(.int r_7)])) _
      refine XS.istore X7.here hx rfl (hb hby own_d16_12) rfl (l' := #[.val (.ref p1), .val (.int p2), .val (.int p3), .val (.ref b2), .val (.int r_7), .unset]) rfl ?_
      show Steps p.tables e below (T7.setTop (mkF m 14 #[.val (.ref p1), .val (.int p2), .val (.int p3), .val (.ref b2), .val (.int r_7), .unset] [])) _
      refine XS.iload X7.here hx rfl (hb hby own_d16_14) rfl ?_
      show Steps p.tables e below (T7.setTop (mkF m 16 #[.val (.ref p1), .val (.int p2), .val (.int p3), .val (.ref b2), .val (.int r_7), .unset] [(.int r_7)])) _
      refine XS.iloadN X7.here hx rfl (hb hby own_d16_16) rfl ?_
      show Steps p.tables e below (T7.setTop (mkF m 17 #[.val (.ref p1), .val (.int p2), .val (.int p3), .val (.ref b2), .val (.int r_7), .unset] [(.int p3), (.int r_7)])) _
      refine XS.icmpNo X7.here hx rfl (hb hby own_d16_17) rfl (feq (own_nej hrb hp3 hrj)).1 ?_
      show Steps p.tables e below (T7.setTop (mkF m 20 #[.val (.ref p1), .val (.int p2), .val (.int p3), .val (.ref b2), .val (.int r_7), .unset] [])) _
      refine XS.aloadN X7.here hx rfl (hb hby own_d16_20) rfl rfl ?_
      show Steps p.tables e below (T7.setTop (mkF m 21 #[.val (.ref p1), .val (.int p2), .val (.int p3), .val (.ref b2), .val (.int r_7), .unset] [(.ref p1)])) _
      refine XS.iloadN X7.here hx rfl (hb hby own_d16_21) rfl ?_
      show Steps p.tables e below (T7.setTop (mkF m 22 #[.val (.ref p1), .val (.int p2), .val (.int p3), .val (.ref b2), .val (.int r_7), .unset] [(.int p2), (.ref p1)])) _
      refine XS.iloadN X7.here hx rfl (hb hby own_d16_22) rfl ?_
      exact k
    obtain ⟨_, _, ⟨T12, L12, k12c, n12⟩, -, X12, ⟨Lc12, hQ12, l12, y12, z12⟩, st12⟩ := Jvm.LawKit.callS X7 hx (y := (⟨"java/lang/StringUTF16", "toBytes", "([CII)[B"⟩ : MethodName)) hown (mvT hZ (hw _ (List.mem_of_getElem? (i := 113) rfl))) (mvT hZ (hw _ (List.mem_of_getElem? (i := 114) rfl))) (mvT hZ (hw _ (List.mem_of_getElem? (i := 85) rfl))) (mvT hZ (hw _ (List.mem_of_getElem? (i := 115) rfl))) (by decide) (backOf (W := 0) (own_rmtb l Z a0 hw [] p1 p2 p3 zc cf of_ nn T7.heap n0 Z7 f8 Xo7 hp2 hp3 SA SH SL (by omega) (by omega) (by omega)) hZ (hw _ (List.mem_of_getElem? (i := 115) rfl)) (hw _ (List.mem_of_getElem? (i := 85) rfl)) (by decide) (by decide)) (g := (mkF m 23 #[.val (.ref p1), .val (.int p2), .val (.int p3), .val (.ref b2), .val (.int r_7), .unset] [(.int p3), (.int p2), (.ref p1)])) rfl (by rw [hml]; rfl) (argsL := [(.ref p1), (.int p2), (.int p3)]) (rest := []) (lenOf own_pd4 rfl) rfl (by show 2 * 0 + _ ≤ _; exact Nat.le_of_eq rfl) (hb hby own_d16_23) (fun _ _ => ⟨rfl, rfl, (by decide : 1 + 1 ≤ _), (by decide : 4 + 8 ≤ _)⟩)
    dsimp only [Pt.U, Pt.locs, Pt.cells, Pt.slots] at X12 l12 y12 z12 st12 hQ12
    subst l12 y12 z12
    obtain ⟨rb_12, rfl, N12q, Kq12, gz12_b, fq12_0⟩ := hQ12
    have N12 := Fr.app N7 N12q
    have ge12_b : n0 ≤ rb_12 := Nat.le_trans Z7 gz12_b
    have bo12_b : h0.size ≤ rb_12 := Nat.le_trans K7.1 gz12_b
    have ne13 : b2 ≠ rb_12 := Nat.ne_of_lt (Nat.lt_of_lt_of_le fq7_0.lt gz12_b)
    have ne14 : p1 ≠ rb_12 := Nat.ne_of_lt (Nat.lt_of_lt_of_le f8.lt gz12_b)
    have f15 := f8.keep Kq12 List.not_mem_nil
    have f16 := fq7_0.keep Kq12 List.not_mem_nil
    have Z12 : n0 ≤ T12.heap.size := Nat.le_trans Z7 Kq12.1
    have K12 : Keep h0 T12.heap [] := K7.trans Kq12 (fun x hx => nomatch hx)
    have Xo12 := Xo7.keep Kq12 all0
    have k17 : ∀ t, Steps p.tables e below (T12.setTop (mkF m 26 #[.val (.ref p1), .val (.int p2), .val (.int p3), .val (.ref b2), .val (.int r_7), .unset] [(.ref rb_12)])) t → Steps p.tables e below (s₁.setTop (entryFrame m #[(.ref p1), (.int p2), (.int p3)] 6)) t := fun t k => k11 t (st12 t k)
    have k18 : ∀ t, Steps p.tables e below (T12.setTop (mkF m 32 #[.val (.ref p1), .val (.int p2), .val (.int p3), .val (.ref b2), .val (.int r_7), .val (.ref rb_12)] [(.int r_7), (.ref rb_12)])) t → Steps p.tables e below (s₁.setTop (entryFrame m #[(.ref p1), (.int p2), (.int p3)] 6)) t := by
      intro t k
      refine k17 t ?_
      show Steps p.tables e below (T12.setTop (mkF m 26 #[.val (.ref p1), .val (.int p2), .val (.int p3), .val (.ref b2), .val (.int r_7), .unset] [(.ref rb_12)])) _
      refine XS.astore X12.here hx rfl (hb hby own_d16_26) rfl rfl (l' := #[.val (.ref p1), .val (.int p2), .val (.int p3), .val (.ref b2), .val (.int r_7), .val (.ref rb_12)]) rfl ?_
      show Steps p.tables e below (T12.setTop (mkF m 28 #[.val (.ref p1), .val (.int p2), .val (.int p3), .val (.ref b2), .val (.int r_7), .val (.ref rb_12)] [])) _
      refine XS.aload X12.here hx rfl (hb hby own_d16_28) rfl rfl ?_
      show Steps p.tables e below (T12.setTop (mkF m 30 #[.val (.ref p1), .val (.int p2), .val (.int p3), .val (.ref b2), .val (.int r_7), .val (.ref rb_12)] [(.ref rb_12)])) _
      refine XS.iload X12.here hx rfl (hb hby own_d16_30) rfl ?_
      exact k
    obtain ⟨_, _, ⟨T19, L19, k19c, n19⟩, -, X19, ⟨Lc19, hQ19, l19, y19, z19⟩, st19⟩ := Jvm.LawKit.callS X12 hx (y := (⟨"java/lang/StringUTF16", "getChar", "([BI)C"⟩ : MethodName)) hown (mvT hZ (hw _ (List.mem_of_getElem? (i := 129) rfl))) (mvT hZ (hw _ (List.mem_of_getElem? (i := 130) rfl))) (mvT hZ (hw _ (List.mem_of_getElem? (i := 85) rfl))) (mvT hZ (hw _ (List.mem_of_getElem? (i := 131) rfl))) (by decide) (backOf (W := 0) (own_rmgc l Z a0 hw [] rb_12 r_7 (2 * nn) (own_u16 cf of_) jr (cf (of_ + jr)) T12.heap n0 Z12 fq12_0 Xo12 hrb SA SH SL (by omega) (by omega) (own_u0 cf of_ jr) (own_u1 cf of_ jr) (hch jr (by omega))) hZ (hw _ (List.mem_of_getElem? (i := 131) rfl)) (hw _ (List.mem_of_getElem? (i := 85) rfl)) (by decide) (by decide)) (g := (mkF m 32 #[.val (.ref p1), .val (.int p2), .val (.int p3), .val (.ref b2), .val (.int r_7), .val (.ref rb_12)] [(.int r_7), (.ref rb_12)])) rfl (by rw [hml]; rfl) (argsL := [(.ref rb_12), (.int r_7)]) (rest := []) (lenOf own_pd5 rfl) rfl (by show 2 * 0 + _ ≤ _; exact Nat.le_of_eq rfl) (hb hby own_d16_32) (fun _ _ => ⟨rfl, rfl, (by decide : 2 + 0 ≤ _), (by decide : 12 + 0 ≤ _)⟩)
    dsimp only [Pt.U, Pt.locs, Pt.cells, Pt.slots] at X19 l19 y19 z19 st19 hQ19
    subst l19 y19 z19
    obtain ⟨rfl, N19q, e19⟩ := hQ19
    have N19 := Fr.app N12 N19q
    have k20 : ∀ t, Steps p.tables e below (T19.setTop (mkF m 35 #[.val (.ref p1), .val (.int p2), .val (.int p3), .val (.ref b2), .val (.int r_7), .val (.ref rb_12)] [(.int (cf (of_ + jr)))])) t → Steps p.tables e below (s₁.setTop (entryFrame m #[(.ref p1), (.int p2), (.int p3)] 6)) t := fun t k => k18 t (st19 t k)
    have k21 : ∀ t, Steps p.tables e below (T19.setTop (mkF m 56 #[.val (.ref p1), .val (.int p2), .val (.int p3), .val (.ref b2), .val (.int r_7), .val (.ref rb_12)] [(.ref rb_12)])) t → Steps p.tables e below (s₁.setTop (entryFrame m #[(.ref p1), (.int p2), (.int p3)] 6)) t := by
      intro t k
      refine k20 t ?_
      show Steps p.tables e below (T19.setTop (mkF m 35 #[.val (.ref p1), .val (.int p2), .val (.int p3), .val (.ref b2), .val (.int r_7), .val (.ref rb_12)] [(.int (cf (of_ + jr)))])) _
      refine XS.sipush X19.here hx rfl (hb hby own_d16_35) ?_
      show Steps p.tables e below (T19.setTop (mkF m 38 #[.val (.ref p1), .val (.int p2), .val (.int p3), .val (.ref b2), .val (.int r_7), .val (.ref rb_12)] [(.int (255 : Int32)), (.int (cf (of_ + jr)))])) _
      refine XS.icmpYes X19.here hx rfl (pc0 := 38) (pc' := 54) rfl (hb hby own_d16_38) rfl (tlt hrc).2.2.1 (by decide) (by decide) ?_
      show Steps p.tables e below (T19.setTop (mkF m 54 #[.val (.ref p1), .val (.int p2), .val (.int p3), .val (.ref b2), .val (.int r_7), .val (.ref rb_12)] [])) _
      refine XS.aload X19.here hx rfl (hb hby own_d16_54) rfl rfl ?_
      exact k
    obtain ⟨fs, hr, hrun, hended, hW, hsame⟩ := X19.leave (v := (some (.ref rb_12))) (fun h => by rw [Bd.returns] at h; cases h)
    refine ⟨_, _, k21 _ ?_, hrun, hended, _, _, rfl, ?_, ⟨_, rfl⟩, hW, hsame.mono (by decide) (by decide)⟩
    · exact retOut X19 hx Bd.returns rfl (Or.inr (Or.inr (Or.inr (Or.inr ⟨rfl, rfl, rfl⟩)))) (hb hby own_d16_56) hr
    · show own_Qc4 Z p1 p2 p3 zc cf of_ nn h0 n0 _ T19.heap _
      rw [e19]
      exact ⟨rb_12, (1 : Int32), rfl, N19, K12, bo12_b, Or.inr ⟨rfl, ⟨jr, hrj, hrc⟩, fq12_0⟩⟩
theorem own_d18_0 : decode jdk_52_method_15_code 0 = .ok (.iload_n 1, 1) := by decide +kernel
theorem own_d18_1 : decode jdk_52_method_15_code 1 = .ok (.aload_n 0, 1) := by decide +kernel
theorem own_d18_2 : decode jdk_52_method_15_code 2 = .ok (.arraylength, 1) := by decide +kernel
theorem own_d18_3 : decode jdk_52_method_15_code 3 = .ok (.isub, 1) := by decide +kernel
theorem own_d18_4 : decode jdk_52_method_15_code 4 = .ok (.bipush 31, 2) := by decide +kernel
theorem own_d18_6 : decode jdk_52_method_15_code 6 = .ok (.iushr, 1) := by decide +kernel
theorem own_d18_7 : decode jdk_52_method_15_code 7 = .ok (.i2b, 1) := by decide +kernel
theorem own_d18_8 : decode jdk_52_method_15_code 8 = .ok (.ireturn, 1) := by decide +kernel
theorem own_efcl1 (m : MethodId) (x0 : Addr) (x1 : Int32) : entryFrame m #[(.ref x0), (.int x1)] 2 = mkF m 0 #[.val (.ref x0), .val (.int x1)] [] := by first | (simp [entryFrame, mkF, argsToLocals, Value.category]; done) | rfl
def own_Qcl1 (Z : State) (p1 : Addr) (p2 : Int32) (bf : Nat → Int32) (nn : Nat) (h0 : Heap) (n0 : Nat) (v : Option Value) (h : Heap) (L : List Loc) : Prop := v = some (.int (1 : Int32)) ∧ Fr n0 L ∧ h = h0
def own_Rcl1 : Room := { frames := 0, cells := 0, slots := 0, locals := 0 }
set_option maxRecDepth 65536 in
set_option maxHeartbeats 40000000 in
theorem own_rmcl1 (l : Launch) (Z : State) (a0 : Array Value) (hw : ∀ d ∈ tables_1, d.before a0 Z = true) (ws : List Jvm.Cond) (p1 : Addr) (p2 : Int32) (bf : Nat → Int32) (nn : Nat) (h0 : Heap) (n0 : Nat) (Z0 : n0 ≤ h0.size) (P0 : own_G Z h0 p1 .byte (2 * nn) bf) (hp2 : p2.toInt = (nn : Int)) (hn : nn ≤ 4) (hn0 : 0 < nn) :
    MetFree l (⟨"java/lang/StringUTF16", "coderFromArrayLen", "([BI)B"⟩ : MethodName) (head1 (Jvm.Cond.code (⟨"java/lang/StringUTF16", "coderFromArrayLen", "([BI)B"⟩ : MethodName) jdk_52_method_15_code 2 (some .byte) :: ws) own_Rcl1) (fun aa U => aa = #[(.ref p1), (.int p2)] ∧ Z.Warmed39 U.vm ∧ U.heap = h0) (fun _ _ _ _ _ => True) (fun _ U o U' => ∃ v L, o = .returned v ∧ own_Qcl1 Z p1 p2 bf nn h0 n0 v U'.heap L ∧ FrameEnd U o U' L own_Rcl1.cells own_Rcl1.slots) := by
  refine MetFree.of_bodySF (plainFor_of_name own_pn0) hisR ?_
  intro p e s m args below meth c s₁ Bd hml0 hP hK
  obtain ⟨rfl, hZ, hh⟩ := hP
  have hx := Bd.exec
  have hby := Bd.bytes
  have hml : c.maxLocals = 2 := hml0
  have hown : s.vm.findClass "java/lang/StringUTF16" = some m.cls := findClass_of_methodNamed Bd.named
  have hnm := (name_of_methodNamed Bd.named Bd.method).1
  have X0 : Stand p l e own_Rcl1 s m #[(.ref p1), (.int p2)] below meth c s₁ [] 0 0 := Stand.of_body Bd
  have e0 : s₁.heap = h0 := by rw [← hh, Bd.state]; rfl
  have N0 := Fr.nil n0
  have pre0 : ∀ t, Steps p.tables e below (s₁.setTop (mkF m 0 #[.val (.ref p1), .val (.int p2)] [])) t → Steps p.tables e below (s₁.setTop (entryFrame m #[(.ref p1), (.int p2)] 2)) t := fun t k => castTop (own_efcl1 m p1 p2) k
  have k1 : ∀ t, Steps p.tables e below (s₁.setTop (mkF m 8 #[.val (.ref p1), .val (.int p2)] [(.int ((((p2 - (Nat.toInt32 (2 * nn))).toUInt32 >>> ((31 : Int32) &&& 31).toUInt32).toInt32).toInt8.toInt32))])) t → Steps p.tables e below (s₁.setTop (entryFrame m #[(.ref p1), (.int p2)] 2)) t := by
    intro t k
    refine pre0 t ?_
    show Steps p.tables e below (s₁.setTop (mkF m 0 #[.val (.ref p1), .val (.int p2)] [])) _
    refine XS.iloadN X0.here hx rfl (hb hby own_d18_0) rfl ?_
    show Steps p.tables e below (s₁.setTop (mkF m 1 #[.val (.ref p1), .val (.int p2)] [(.int p2)])) _
    refine XS.aloadN X0.here hx rfl (hb hby own_d18_1) rfl rfl ?_
    show Steps p.tables e below (s₁.setTop (mkF m 2 #[.val (.ref p1), .val (.int p2)] [(.ref p1), (.int p2)])) _
    refine own_len X0 hx hZ e0 P0 (g := (mkF m 2 #[.val (.ref p1), .val (.int p2)] [(.ref p1), (.int p2)])) rfl rfl (hb hby own_d18_2) ?_
    show Steps p.tables e below (s₁.setTop (mkF m 3 #[.val (.ref p1), .val (.int p2)] [(.int (Nat.toInt32 (2 * nn))), (.int p2)])) _
    refine XS.isub X0.here hx rfl (hb hby own_d18_3) rfl ?_
    show Steps p.tables e below (s₁.setTop (mkF m 4 #[.val (.ref p1), .val (.int p2)] [(.int (p2 - (Nat.toInt32 (2 * nn))))])) _
    refine XS.bipush X0.here hx rfl (hb hby own_d18_4) ?_
    show Steps p.tables e below (s₁.setTop (mkF m 6 #[.val (.ref p1), .val (.int p2)] [(.int (31 : Int32)), (.int (p2 - (Nat.toInt32 (2 * nn))))])) _
    refine XS.iushr X0.here hx rfl (hb hby own_d18_6) rfl ?_
    show Steps p.tables e below (s₁.setTop (mkF m 7 #[.val (.ref p1), .val (.int p2)] [(.int (((p2 - (Nat.toInt32 (2 * nn))).toUInt32 >>> ((31 : Int32) &&& 31).toUInt32).toInt32))])) _
    refine XS.i2b X0.here hx rfl (hb hby own_d18_7) rfl ?_
    exact k
  obtain ⟨fs, hr, hrun, hended, hW, hsame⟩ := X0.leave (v := (some (.int (nar .byte ((((p2 - (Nat.toInt32 (2 * nn))).toUInt32 >>> ((31 : Int32) &&& 31).toUInt32).toInt32).toInt8.toInt32))))) (fun h => by rw [Bd.returns] at h; cases h)
  refine ⟨_, _, k1 _ ?_, hrun, hended, _, _, rfl, ?_, ⟨_, rfl⟩, hW, hsame.mono (by decide) (by decide)⟩
  · exact retN X0 hx (t := .byte) Bd.returns (by simp) (hb hby own_d18_8) hr
  · show own_Qcl1 Z p1 p2 bf nn h0 n0 _ s₁.heap _
    exact ⟨(congrArg (fun z => some (Value.int z)) (own_cf1 hp2 (by omega) hn0)), N0, e0⟩
theorem own_efcl0 (m : MethodId) (x0 : Addr) (x1 : Int32) : entryFrame m #[(.ref x0), (.int x1)] 2 = mkF m 0 #[.val (.ref x0), .val (.int x1)] [] := by first | (simp [entryFrame, mkF, argsToLocals, Value.category]; done) | rfl
def own_Qcl0 (Z : State) (p1 : Addr) (p2 : Int32) (bf : Nat → Int32) (nn : Nat) (h0 : Heap) (n0 : Nat) (v : Option Value) (h : Heap) (L : List Loc) : Prop := v = some (.int (0 : Int32)) ∧ Fr n0 L ∧ h = h0
def own_Rcl0 : Room := { frames := 0, cells := 0, slots := 0, locals := 0 }
set_option maxRecDepth 65536 in
set_option maxHeartbeats 40000000 in
theorem own_rmcl0 (l : Launch) (Z : State) (a0 : Array Value) (hw : ∀ d ∈ tables_1, d.before a0 Z = true) (ws : List Jvm.Cond) (p1 : Addr) (p2 : Int32) (bf : Nat → Int32) (nn : Nat) (h0 : Heap) (n0 : Nat) (Z0 : n0 ≤ h0.size) (P0 : own_G Z h0 p1 .byte nn bf) (hp2 : p2.toInt = (nn : Int)) (hn : nn ≤ 4) :
    MetFree l (⟨"java/lang/StringUTF16", "coderFromArrayLen", "([BI)B"⟩ : MethodName) (head1 (Jvm.Cond.code (⟨"java/lang/StringUTF16", "coderFromArrayLen", "([BI)B"⟩ : MethodName) jdk_52_method_15_code 2 (some .byte) :: ws) own_Rcl0) (fun aa U => aa = #[(.ref p1), (.int p2)] ∧ Z.Warmed39 U.vm ∧ U.heap = h0) (fun _ _ _ _ _ => True) (fun _ U o U' => ∃ v L, o = .returned v ∧ own_Qcl0 Z p1 p2 bf nn h0 n0 v U'.heap L ∧ FrameEnd U o U' L own_Rcl0.cells own_Rcl0.slots) := by
  refine MetFree.of_bodySF (plainFor_of_name own_pn0) hisR ?_
  intro p e s m args below meth c s₁ Bd hml0 hP hK
  obtain ⟨rfl, hZ, hh⟩ := hP
  have hx := Bd.exec
  have hby := Bd.bytes
  have hml : c.maxLocals = 2 := hml0
  have hown : s.vm.findClass "java/lang/StringUTF16" = some m.cls := findClass_of_methodNamed Bd.named
  have hnm := (name_of_methodNamed Bd.named Bd.method).1
  have X0 : Stand p l e own_Rcl0 s m #[(.ref p1), (.int p2)] below meth c s₁ [] 0 0 := Stand.of_body Bd
  have e0 : s₁.heap = h0 := by rw [← hh, Bd.state]; rfl
  have N0 := Fr.nil n0
  have pre0 : ∀ t, Steps p.tables e below (s₁.setTop (mkF m 0 #[.val (.ref p1), .val (.int p2)] [])) t → Steps p.tables e below (s₁.setTop (entryFrame m #[(.ref p1), (.int p2)] 2)) t := fun t k => castTop (own_efcl0 m p1 p2) k
  have k1 : ∀ t, Steps p.tables e below (s₁.setTop (mkF m 8 #[.val (.ref p1), .val (.int p2)] [(.int ((((p2 - (Nat.toInt32 nn)).toUInt32 >>> ((31 : Int32) &&& 31).toUInt32).toInt32).toInt8.toInt32))])) t → Steps p.tables e below (s₁.setTop (entryFrame m #[(.ref p1), (.int p2)] 2)) t := by
    intro t k
    refine pre0 t ?_
    show Steps p.tables e below (s₁.setTop (mkF m 0 #[.val (.ref p1), .val (.int p2)] [])) _
    refine XS.iloadN X0.here hx rfl (hb hby own_d18_0) rfl ?_
    show Steps p.tables e below (s₁.setTop (mkF m 1 #[.val (.ref p1), .val (.int p2)] [(.int p2)])) _
    refine XS.aloadN X0.here hx rfl (hb hby own_d18_1) rfl rfl ?_
    show Steps p.tables e below (s₁.setTop (mkF m 2 #[.val (.ref p1), .val (.int p2)] [(.ref p1), (.int p2)])) _
    refine own_len X0 hx hZ e0 P0 (g := (mkF m 2 #[.val (.ref p1), .val (.int p2)] [(.ref p1), (.int p2)])) rfl rfl (hb hby own_d18_2) ?_
    show Steps p.tables e below (s₁.setTop (mkF m 3 #[.val (.ref p1), .val (.int p2)] [(.int (Nat.toInt32 nn)), (.int p2)])) _
    refine XS.isub X0.here hx rfl (hb hby own_d18_3) rfl ?_
    show Steps p.tables e below (s₁.setTop (mkF m 4 #[.val (.ref p1), .val (.int p2)] [(.int (p2 - (Nat.toInt32 nn)))])) _
    refine XS.bipush X0.here hx rfl (hb hby own_d18_4) ?_
    show Steps p.tables e below (s₁.setTop (mkF m 6 #[.val (.ref p1), .val (.int p2)] [(.int (31 : Int32)), (.int (p2 - (Nat.toInt32 nn)))])) _
    refine XS.iushr X0.here hx rfl (hb hby own_d18_6) rfl ?_
    show Steps p.tables e below (s₁.setTop (mkF m 7 #[.val (.ref p1), .val (.int p2)] [(.int (((p2 - (Nat.toInt32 nn)).toUInt32 >>> ((31 : Int32) &&& 31).toUInt32).toInt32))])) _
    refine XS.i2b X0.here hx rfl (hb hby own_d18_7) rfl ?_
    exact k
  obtain ⟨fs, hr, hrun, hended, hW, hsame⟩ := X0.leave (v := (some (.int (nar .byte ((((p2 - (Nat.toInt32 nn)).toUInt32 >>> ((31 : Int32) &&& 31).toUInt32).toInt32).toInt8.toInt32))))) (fun h => by rw [Bd.returns] at h; cases h)
  refine ⟨_, _, k1 _ ?_, hrun, hended, _, _, rfl, ?_, ⟨_, rfl⟩, hW, hsame.mono (by decide) (by decide)⟩
  · exact retN X0 hx (t := .byte) Bd.returns (by simp) (hb hby own_d18_8) hr
  · show own_Qcl0 Z p1 p2 bf nn h0 n0 _ s₁.heap _
    exact ⟨(congrArg (fun z => some (Value.int z)) (own_cf0 hp2 (by omega))), N0, e0⟩
theorem own_d9_0 : decode jdk_42_method_149_code 0 = .ok (.aload_n 0, 1) := by decide +kernel
theorem own_d9_1 : decode jdk_42_method_149_code 1 = .ok (.invokespecial 1, 3) := by decide +kernel
theorem own_d9_4 : decode jdk_42_method_149_code 4 = .ok (.iload_n 3, 1) := by decide +kernel
theorem own_d9_5 : decode jdk_42_method_149_code 5 = .ok (.ifCond .ne 22, 3) := by decide +kernel
theorem own_d9_27 : decode jdk_42_method_149_code 27 = .ok (.getstatic 38, 3) := by decide +kernel
theorem own_d9_30 : decode jdk_42_method_149_code 30 = .ok (.ifCond .eq 28, 3) := by decide +kernel
theorem own_d9_33 : decode jdk_42_method_149_code 33 = .ok (.aload_n 1, 1) := by decide +kernel
theorem own_d9_34 : decode jdk_42_method_149_code 34 = .ok (.iload_n 2, 1) := by decide +kernel
theorem own_d9_35 : decode jdk_42_method_149_code 35 = .ok (.iload_n 3, 1) := by decide +kernel
theorem own_d9_36 : decode jdk_42_method_149_code 36 = .ok (.invokestatic 177, 3) := by decide +kernel
theorem own_d9_39 : decode jdk_42_method_149_code 39 = .ok (.astore 5, 2) := by decide +kernel
theorem own_d9_41 : decode jdk_42_method_149_code 41 = .ok (.aload_n 0, 1) := by decide +kernel
theorem own_d9_42 : decode jdk_42_method_149_code 42 = .ok (.aload 5, 2) := by decide +kernel
theorem own_d9_44 : decode jdk_42_method_149_code 44 = .ok (.iload_n 3, 1) := by decide +kernel
theorem own_d9_45 : decode jdk_42_method_149_code 45 = .ok (.invokestatic 47, 3) := by decide +kernel
theorem own_d9_48 : decode jdk_42_method_149_code 48 = .ok (.putfield 15, 3) := by decide +kernel
theorem own_d9_51 : decode jdk_42_method_149_code 51 = .ok (.aload_n 0, 1) := by decide +kernel
theorem own_d9_52 : decode jdk_42_method_149_code 52 = .ok (.aload 5, 2) := by decide +kernel
theorem own_d9_54 : decode jdk_42_method_149_code 54 = .ok (.putfield 9, 3) := by decide +kernel
theorem own_d9_57 : decode jdk_42_method_149_code 57 = .ok (.return_, 1) := by decide +kernel
theorem own_pd6 : parseMethodDescriptor "([BI)B" = some ⟨[(.array .byte), .int], some .byte⟩ := by decide +kernel
theorem own_pn1 : plainName "java/lang/String" = true := by first | (simp [plainName, overriddenIn]; done) | decide +kernel
theorem own_efs2 (m : MethodId) (x0 : Addr) (x1 : Addr) (x2 : Int32) (x3 : Int32) : entryFrame m #[(.ref x0), (.ref x1), (.int x2), (.int x3), .null] 6 = mkF m 0 #[.val (.ref x0), .val (.ref x1), .val (.int x2), .val (.int x3), .val .null, .unset] [] := by first | (simp [entryFrame, mkF, argsToLocals, Value.category]; done) | rfl
def own_Qs2 (Z : State) (a : Addr) (p1 : Addr) (p2 : Int32) (p3 : Int32) (u1 : Value) (u2 : Value) (zc : Nat) (cf : Nat → Int32) (of_ : Nat) (nn : Nat) (cs : Int32) (h0 : Heap) (n0 : Nat) (v : Option Value) (h : Heap) (L : List Loc) : Prop := v = none ∧ Fr n0 L ∧ Keep h0 h [a] ∧ own_Str Z h a nn of_ cf
def own_Rs2 : Room := { frames := 4, cells := 2, slots := 12, locals := 57 }
set_option maxRecDepth 65536 in
set_option maxHeartbeats 40000000 in
theorem own_rms2 (l : Launch) (Z : State) (a0 : Array Value) (hw : ∀ d ∈ tables_1, d.before a0 Z = true) (ws : List Jvm.Cond) (a : Addr) (p1 : Addr) (p2 : Int32) (p3 : Int32) (u1 : Value) (u2 : Value) (zc : Nat) (cf : Nat → Int32) (of_ : Nat) (nn : Nat) (cs : Int32) (h0 : Heap) (n0 : Nat) (Z0 : n0 ≤ h0.size) (P0 : Exa Z h0 a "java/lang/String") (P1 : Fld Z h0 a "java/lang/String" "value" "[B" u1) (P2 : Fld Z h0 a "java/lang/String" "coder" "B" u2) (P3 : own_G Z h0 p1 .char zc cf) (ge_a : n0 ≤ a) (ne_p1_a : p1 ≠ a) (Xo : Old Z n0 h0) (hp2 : p2.toInt = (of_ : Int)) (hp3 : p3.toInt = (nn : Int)) (SC : Sta Z Z.heap "java/lang/String" "COMPACT_STRINGS" "Z" (.int cs)) (SA : Sta Z Z.heap "java/lang/StringUTF16" "$assertionsDisabled" "Z" (.int (1 : Int32))) (SH : Sta Z Z.heap "java/lang/StringUTF16" "HI_BYTE_SHIFT" "I" (.int (0 : Int32))) (SL : Sta Z Z.heap "java/lang/StringUTF16" "LO_BYTE_SHIFT" "I" (.int (8 : Int32))) (hcs : ¬ (cs = (0 : Int32))) (hbo : of_ + nn ≤ zc) (hz : zc ≤ 1000000) (hn : nn ≤ 4) (hch : ∀ i, i < nn → own_ch (cf (of_ + i))) (hn0 : 0 < nn) :
    MetFree l (⟨"java/lang/String", "<init>", "([CIILjava/lang/Void;)V"⟩ : MethodName) (head1 (Jvm.Cond.code (⟨"java/lang/String", "<init>", "([CIILjava/lang/Void;)V"⟩ : MethodName) jdk_42_method_149_code 6 none :: ws) own_Rs2) (fun aa U => aa = #[(.ref a), (.ref p1), (.int p2), (.int p3), .null] ∧ Z.Warmed39 U.vm ∧ U.heap = h0) (fun _ _ _ _ _ => True) (fun _ U o U' => ∃ v L, o = .returned v ∧ own_Qs2 Z a p1 p2 p3 u1 u2 zc cf of_ nn cs h0 n0 v U'.heap L ∧ FrameEnd U o U' L own_Rs2.cells own_Rs2.slots) := by
  refine MetFree.of_bodySF (plainFor_of_name own_pn1) hisR ?_
  intro p e s m args below meth c s₁ Bd hml0 hP hK
  obtain ⟨rfl, hZ, hh⟩ := hP
  have hx := Bd.exec
  have hby := Bd.bytes
  have hml : c.maxLocals = 6 := hml0
  have hown : s.vm.findClass "java/lang/String" = some m.cls := findClass_of_methodNamed Bd.named
  have hnm := (name_of_methodNamed Bd.named Bd.method).1
  have X0 : Stand p l e own_Rs2 s m #[(.ref a), (.ref p1), (.int p2), (.int p3), .null] below meth c s₁ [] 0 0 := Stand.of_body Bd
  have e0 : s₁.heap = h0 := by rw [← hh, Bd.state]; rfl
  have N0 := Fr.nil n0
  have pre0 : ∀ t, Steps p.tables e below (s₁.setTop (mkF m 0 #[.val (.ref a), .val (.ref p1), .val (.int p2), .val (.int p3), .val .null, .unset] [])) t → Steps p.tables e below (s₁.setTop (entryFrame m #[(.ref a), (.ref p1), (.int p2), (.int p3), .null] 6)) t := fun t k => castTop (own_efs2 m a p1 p2 p3) k
  have k1 : ∀ t, Steps p.tables e below (s₁.setTop (mkF m 1 #[.val (.ref a), .val (.ref p1), .val (.int p2), .val (.int p3), .val .null, .unset] [(.ref a)])) t → Steps p.tables e below (s₁.setTop (entryFrame m #[(.ref a), (.ref p1), (.int p2), (.int p3), .null] 6)) t := by
    intro t k
    refine pre0 t ?_
    show Steps p.tables e below (s₁.setTop (mkF m 0 #[.val (.ref a), .val (.ref p1), .val (.int p2), .val (.int p3), .val .null, .unset] [])) _
    refine XS.aloadN X0.here hx rfl (hb hby own_d9_0) rfl rfl ?_
    exact k
  obtain ⟨T2, X2, e2, st2⟩ := initO X0 hx hZ hown (hw _ (List.mem_of_getElem? (i := 45) rfl)) (hw _ (List.mem_of_getElem? (i := 8) rfl)) (hw _ (List.mem_of_getElem? (i := 9) rfl)) e0 (g := (mkF m 1 #[.val (.ref a), .val (.ref p1), .val (.int p2), .val (.int p3), .val .null, .unset] [(.ref a)])) rfl (by rw [hml]; rfl) rfl (hb hby own_d9_1) (by decide) (W := 0) (by show 2 * 0 + _ ≤ _; exact Nat.le_of_eq rfl) (by decide)
  have k3 : ∀ t, Steps p.tables e below (T2.setTop (mkF m 4 #[.val (.ref a), .val (.ref p1), .val (.int p2), .val (.int p3), .val .null, .unset] [])) t → Steps p.tables e below (s₁.setTop (entryFrame m #[(.ref a), (.ref p1), (.int p2), (.int p3), .null] 6)) t := fun t k => k1 t (st2 t k)
  have k4 : ∀ t, Steps p.tables e below (T2.setTop (mkF m 27 #[.val (.ref a), .val (.ref p1), .val (.int p2), .val (.int p3), .val .null, .unset] [])) t → Steps p.tables e below (s₁.setTop (entryFrame m #[(.ref a), (.ref p1), (.int p2), (.int p3), .null] 6)) t := by
    intro t k
    refine k3 t ?_
    show Steps p.tables e below (T2.setTop (mkF m 4 #[.val (.ref a), .val (.ref p1), .val (.int p2), .val (.int p3), .val .null, .unset] [])) _
    refine XS.iloadN X2.here hx rfl (hb hby own_d9_4) rfl ?_
    show Steps p.tables e below (T2.setTop (mkF m 5 #[.val (.ref a), .val (.ref p1), .val (.int p2), .val (.int p3), .val .null, .unset] [(.int p3)])) _
    refine XS.ifYes X2.here hx rfl (pc0 := 5) (pc' := 27) rfl (hb hby own_d9_5) rfl ((if0 _ _).trans (feq (own_ne0 hp3 hn0)).2) (by decide) (by decide) ?_
    exact k
  obtain ⟨T5, X5, e5, st5⟩ := getS2 X2 hx hZ hown (host := "") (Or.inl (hw _ (List.mem_of_getElem? (i := 64) rfl))) Via.refl e2 (SC.ext Xo.2) (g := (mkF m 27 #[.val (.ref a), .val (.ref p1), .val (.int p2), .val (.int p3), .val .null, .unset] [])) rfl (hb hby own_d9_27)
  have k6 : ∀ t, Steps p.tables e below (T5.setTop (mkF m 30 #[.val (.ref a), .val (.ref p1), .val (.int p2), .val (.int p3), .val .null, .unset] [(.int cs)])) t → Steps p.tables e below (s₁.setTop (entryFrame m #[(.ref a), (.ref p1), (.int p2), (.int p3), .null] 6)) t := fun t k => k4 t (st5 t k)
  have k7 : ∀ t, Steps p.tables e below (T5.setTop (mkF m 36 #[.val (.ref a), .val (.ref p1), .val (.int p2), .val (.int p3), .val .null, .unset] [(.int p3), (.int p2), (.ref p1)])) t → Steps p.tables e below (s₁.setTop (entryFrame m #[(.ref a), (.ref p1), (.int p2), (.int p3), .null] 6)) t := by
    intro t k
    refine k6 t ?_
    show Steps p.tables e below (T5.setTop (mkF m 30 #[.val (.ref a), .val (.ref p1), .val (.int p2), .val (.int p3), .val .null, .unset] [(.int cs)])) _
    refine XS.ifNo X5.here hx rfl (hb hby own_d9_30) rfl ((if0 _ _).trans (feq hcs).1) ?_
    show Steps p.tables e below (T5.setTop (mkF m 33 #[.val (.ref a), .val (.ref p1), .val (.int p2), .val (.int p3), .val .null, .unset] [])) _
    refine XS.aloadN X5.here hx rfl (hb hby own_d9_33) rfl rfl ?_
    show Steps p.tables e below (T5.setTop (mkF m 34 #[.val (.ref a), .val (.ref p1), .val (.int p2), .val (.int p3), .val .null, .unset] [(.ref p1)])) _
    refine XS.iloadN X5.here hx rfl (hb hby own_d9_34) rfl ?_
    show Steps p.tables e below (T5.setTop (mkF m 35 #[.val (.ref a), .val (.ref p1), .val (.int p2), .val (.int p3), .val .null, .unset] [(.int p2), (.ref p1)])) _
    refine XS.iloadN X5.here hx rfl (hb hby own_d9_35) rfl ?_
    exact k
  obtain ⟨_, _, ⟨T8, L8, k8c, n8⟩, -, X8, ⟨Lc8, hQ8, l8, y8, z8⟩, st8⟩ := Jvm.LawKit.callS X5 hx (y := (⟨"java/lang/StringUTF16", "compress", "([CII)[B"⟩ : MethodName)) hown (mvT hZ (hw _ (List.mem_of_getElem? (i := 83) rfl))) (mvT hZ (hw _ (List.mem_of_getElem? (i := 84) rfl))) (mvT hZ (hw _ (List.mem_of_getElem? (i := 85) rfl))) (mvT hZ (hw _ (List.mem_of_getElem? (i := 86) rfl))) (by decide) (backOf (W := 0) (own_rmc4 l Z a0 hw [] p1 p2 p3 zc cf of_ nn h0 n0 Z0 P3 Xo hp2 hp3 SA SH SL (by omega) (by omega) (by omega) hch) hZ (hw _ (List.mem_of_getElem? (i := 86) rfl)) (hw _ (List.mem_of_getElem? (i := 85) rfl)) (by decide) (by decide)) (g := (mkF m 36 #[.val (.ref a), .val (.ref p1), .val (.int p2), .val (.int p3), .val .null, .unset] [(.int p3), (.int p2), (.ref p1)])) rfl (by rw [hml]; rfl) (argsL := [(.ref p1), (.int p2), (.int p3)]) (rest := []) (lenOf own_pd4 rfl) rfl (by show 2 * 0 + _ ≤ _; exact Nat.le_of_eq rfl) (hb hby own_d9_36) (fun _ _ => ⟨rfl, e5, (by decide : 0 + 2 ≤ _), (by decide : 0 + 12 ≤ _)⟩)
  dsimp only [Pt.U, Pt.locs, Pt.cells, Pt.slots] at X8 l8 y8 z8 st8 hQ8
  subst l8 y8 z8
  obtain ⟨rb_8, cd_8, rfl, N8q, Kq8, gz8_b, hq8_hB⟩ := hQ8
  have N8 := Fr.app N0 N8q
  have ge8_b : n0 ≤ rb_8 := Nat.le_trans Z0 gz8_b
  have bo8_b : h0.size ≤ rb_8 := Nat.le_trans (Keep.refl h0 [a]).1 gz8_b
  have ne9 : a ≠ rb_8 := Nat.ne_of_lt (Nat.lt_of_lt_of_le P0.lt gz8_b)
  have ne10 : p1 ≠ rb_8 := Nat.ne_of_lt (Nat.lt_of_lt_of_le P3.lt gz8_b)
  have f11 := P0.keep Kq8
  have f12 := P1.keep Kq8 List.not_mem_nil
  have f13 := P2.keep Kq8 List.not_mem_nil
  have f14 := P3.keep Kq8 List.not_mem_nil
  have Z8 : n0 ≤ T8.heap.size := Nat.le_trans Z0 Kq8.1
  have K8 : Keep h0 T8.heap [a] := (Keep.refl h0 [a]).trans Kq8 (fun x hx => nomatch hx)
  have Xo8 := Xo.keep Kq8 all0
  have k15 : ∀ t, Steps p.tables e below (T8.setTop (mkF m 39 #[.val (.ref a), .val (.ref p1), .val (.int p2), .val (.int p3), .val .null, .unset] [(.ref rb_8)])) t → Steps p.tables e below (s₁.setTop (entryFrame m #[(.ref a), (.ref p1), (.int p2), (.int p3), .null] 6)) t := fun t k => k7 t (st8 t k)
  rcases hq8_hB with ⟨hcd, hall, hGb⟩ | ⟨hcd, hall, hGb⟩
  · skip
    have k16 : ∀ t, Steps p.tables e below (T8.setTop (mkF m 45 #[.val (.ref a), .val (.ref p1), .val (.int p2), .val (.int p3), .val .null, .val (.ref rb_8)] [(.int p3), (.ref rb_8), (.ref a)])) t → Steps p.tables e below (s₁.setTop (entryFrame m #[(.ref a), (.ref p1), (.int p2), (.int p3), .null] 6)) t := by
      intro t k
      refine k15 t ?_
      show Steps p.tables e below (T8.setTop (mkF m 39 #[.val (.ref a), .val (.ref p1), .val (.int p2), .val (.int p3), .val .null, .unset] [(.ref rb_8)])) _
      refine XS.astore X8.here hx rfl (hb hby own_d9_39) rfl rfl (l' := #[.val (.ref a), .val (.ref p1), .val (.int p2), .val (.int p3), .val .null, .val (.ref rb_8)]) rfl ?_
      show Steps p.tables e below (T8.setTop (mkF m 41 #[.val (.ref a), .val (.ref p1), .val (.int p2), .val (.int p3), .val .null, .val (.ref rb_8)] [])) _
      refine XS.aloadN X8.here hx rfl (hb hby own_d9_41) rfl rfl ?_
      show Steps p.tables e below (T8.setTop (mkF m 42 #[.val (.ref a), .val (.ref p1), .val (.int p2), .val (.int p3), .val .null, .val (.ref rb_8)] [(.ref a)])) _
      refine XS.aload X8.here hx rfl (hb hby own_d9_42) rfl rfl ?_
      show Steps p.tables e below (T8.setTop (mkF m 44 #[.val (.ref a), .val (.ref p1), .val (.int p2), .val (.int p3), .val .null, .val (.ref rb_8)] [(.ref rb_8), (.ref a)])) _
      refine XS.iloadN X8.here hx rfl (hb hby own_d9_44) rfl ?_
      exact k
    obtain ⟨_, _, ⟨T17, L17, k17c, n17⟩, -, X17, ⟨Lc17, hQ17, l17, y17, z17⟩, st17⟩ := Jvm.LawKit.callS X8 hx (y := (⟨"java/lang/StringUTF16", "coderFromArrayLen", "([BI)B"⟩ : MethodName)) hown (mvT hZ (hw _ (List.mem_of_getElem? (i := 90) rfl))) (mvT hZ (hw _ (List.mem_of_getElem? (i := 91) rfl))) (mvT hZ (hw _ (List.mem_of_getElem? (i := 85) rfl))) (mvT hZ (hw _ (List.mem_of_getElem? (i := 92) rfl))) (by decide) (backOf (W := 1) (own_rmcl0 l Z a0 hw [] rb_8 p3 (own_b8 cf of_) nn T8.heap n0 Z8 hGb hp3 (by omega)) hZ (hw _ (List.mem_of_getElem? (i := 92) rfl)) (hw _ (List.mem_of_getElem? (i := 85) rfl)) (by decide) (by decide)) (g := (mkF m 45 #[.val (.ref a), .val (.ref p1), .val (.int p2), .val (.int p3), .val .null, .val (.ref rb_8)] [(.int p3), (.ref rb_8), (.ref a)])) rfl (by rw [hml]; rfl) (argsL := [(.ref rb_8), (.int p3)]) (rest := [(.ref a)]) (lenOf own_pd6 rfl) rfl (by show 2 * 0 + _ ≤ _; exact Nat.le_of_eq rfl) (hb hby own_d9_45) (fun _ _ => ⟨rfl, rfl, (by decide : 2 + 0 ≤ _), (by decide : 12 + 0 ≤ _)⟩)
    dsimp only [Pt.U, Pt.locs, Pt.cells, Pt.slots] at X17 l17 y17 z17 st17 hQ17
    subst l17 y17 z17
    obtain ⟨rfl, N17q, e17⟩ := hQ17
    have N17 := Fr.app N8 N17q
    have k18 : ∀ t, Steps p.tables e below (T17.setTop (mkF m 48 #[.val (.ref a), .val (.ref p1), .val (.int p2), .val (.int p3), .val .null, .val (.ref rb_8)] [(.int (0 : Int32)), (.ref a)])) t → Steps p.tables e below (s₁.setTop (entryFrame m #[(.ref a), (.ref p1), (.int p2), (.int p3), .null] 6)) t := fun t k => k16 t (st17 t k)
    obtain ⟨T19, h19, X19, e19, W19, st19⟩ := putFN X17 hx hZ hown (hw _ (List.mem_of_getElem? (i := 53) rfl)) Via.refl e17 f13 f11 (Or.inr ⟨(hw _ (List.mem_of_getElem? (i := 49) rfl)), rfl, hnm⟩) (hw _ (List.mem_of_getElem? (i := 25) rfl)) (ty := .byte) (v' := (.int (nar .byte (0 : Int32)))) (by decide) rfl (fits_nar_byte _) (g := (mkF m 48 #[.val (.ref a), .val (.ref p1), .val (.int p2), .val (.int p3), .val .null, .val (.ref rb_8)] [(.int (0 : Int32)), (.ref a)])) rfl rfl (hb hby own_d9_48)
    have f20 := f11.wr W19
    have f21 := f12.other W19 (Or.inr (slot_ne (Or.inr (hw _ (List.mem_of_getElem? (i := 48) rfl))) (Or.inr (hw _ (List.mem_of_getElem? (i := 49) rfl))) (by decide) (t := (.array .byte)) (t' := .byte) (by decide) (by decide)))
    have f22 := f14.other W19 ne_p1_a
    have f23 := hGb.other W19 (Ne.symm ne9)
    have f24 := f13.same W19
    have N19 := Fr.snoc X19 N17 ge_a
    have K19 : Keep h0 h19 [a] := K8.wr W19 (Or.inl (List.mem_of_getElem? (i := 0) rfl))
    have Z19 : n0 ≤ h19.size := Nat.le_trans Z8 (Keep.of_wr W19).1
    have Xo19 := Xo8.wr W19 ge_a
    have k25 : ∀ t, Steps p.tables e below (T19.setTop (mkF m 51 #[.val (.ref a), .val (.ref p1), .val (.int p2), .val (.int p3), .val .null, .val (.ref rb_8)] [])) t → Steps p.tables e below (s₁.setTop (entryFrame m #[(.ref a), (.ref p1), (.int p2), (.int p3), .null] 6)) t := fun t k => k18 t (st19 t k)
    have k26 : ∀ t, Steps p.tables e below (T19.setTop (mkF m 54 #[.val (.ref a), .val (.ref p1), .val (.int p2), .val (.int p3), .val .null, .val (.ref rb_8)] [(.ref rb_8), (.ref a)])) t → Steps p.tables e below (s₁.setTop (entryFrame m #[(.ref a), (.ref p1), (.int p2), (.int p3), .null] 6)) t := by
      intro t k
      refine k25 t ?_
      show Steps p.tables e below (T19.setTop (mkF m 51 #[.val (.ref a), .val (.ref p1), .val (.int p2), .val (.int p3), .val .null, .val (.ref rb_8)] [])) _
      refine XS.aloadN X19.here hx rfl (hb hby own_d9_51) rfl rfl ?_
      show Steps p.tables e below (T19.setTop (mkF m 52 #[.val (.ref a), .val (.ref p1), .val (.int p2), .val (.int p3), .val .null, .val (.ref rb_8)] [(.ref a)])) _
      refine XS.aload X19.here hx rfl (hb hby own_d9_52) rfl rfl ?_
      exact k
    obtain ⟨T27, h27, X27, e27, W27, st27⟩ := putF X19 hx hZ hown (host := "") (Or.inl (hw _ (List.mem_of_getElem? (i := 52) rfl))) Via.refl e19 f21 f20 (Or.inr ⟨(hw _ (List.mem_of_getElem? (i := 48) rfl)), rfl, hnm⟩) (hw _ (List.mem_of_getElem? (i := 25) rfl)) (ty := (.array .byte)) (by decide) rfl rfl (g := (mkF m 54 #[.val (.ref a), .val (.ref p1), .val (.int p2), .val (.int p3), .val .null, .val (.ref rb_8)] [(.ref rb_8), (.ref a)])) rfl rfl (hb hby own_d9_54)
    have f28 := f20.wr W27
    have f29 := f24.other W27 (Or.inr (slot_ne (Or.inr (hw _ (List.mem_of_getElem? (i := 49) rfl))) (Or.inr (hw _ (List.mem_of_getElem? (i := 48) rfl))) (by decide) (t := .byte) (t' := (.array .byte)) (by decide) (by decide)))
    have f30 := f22.other W27 ne_p1_a
    have f31 := f23.other W27 (Ne.symm ne9)
    have f32 := f21.same W27
    have N27 := Fr.snoc X27 N19 ge_a
    have K27 : Keep h0 h27 [a] := K19.wr W27 (Or.inl (List.mem_of_getElem? (i := 0) rfl))
    have Z27 : n0 ≤ h27.size := Nat.le_trans Z19 (Keep.of_wr W27).1
    have Xo27 := Xo19.wr W27 ge_a
    have k33 : ∀ t, Steps p.tables e below (T27.setTop (mkF m 57 #[.val (.ref a), .val (.ref p1), .val (.int p2), .val (.int p3), .val .null, .val (.ref rb_8)] [])) t → Steps p.tables e below (s₁.setTop (entryFrame m #[(.ref a), (.ref p1), (.int p2), (.int p3), .null] 6)) t := fun t k => k26 t (st27 t k)
    obtain ⟨fs, hr, hrun, hended, hW, hsame⟩ := X27.leave (v := none) (fun _ => rfl)
    refine ⟨_, _, k33 _ ?_, hrun, hended, _, _, rfl, ?_, ⟨_, rfl⟩, hW, hsame.mono (by decide) (by decide)⟩
    · exact X27.returnOut hx Bd.returns (hb hby own_d9_57) hr
    · show own_Qs2 Z a p1 p2 p3 u1 u2 zc cf of_ nn cs h0 n0 _ T27.heap _
      rw [e27]
      exact ⟨rfl, N27, K27, ⟨f28, hn, hch, rb_8, (0 : Int32), f32, f29, Or.inl ⟨rfl, hall, f31⟩⟩⟩
  · skip
    have k34 : ∀ t, Steps p.tables e below (T8.setTop (mkF m 45 #[.val (.ref a), .val (.ref p1), .val (.int p2), .val (.int p3), .val .null, .val (.ref rb_8)] [(.int p3), (.ref rb_8), (.ref a)])) t → Steps p.tables e below (s₁.setTop (entryFrame m #[(.ref a), (.ref p1), (.int p2), (.int p3), .null] 6)) t := by
      intro t k
      refine k15 t ?_
      show Steps p.tables e below (T8.setTop (mkF m 39 #[.val (.ref a), .val (.ref p1), .val (.int p2), .val (.int p3), .val .null, .unset] [(.ref rb_8)])) _
      refine XS.astore X8.here hx rfl (hb hby own_d9_39) rfl rfl (l' := #[.val (.ref a), .val (.ref p1), .val (.int p2), .val (.int p3), .val .null, .val (.ref rb_8)]) rfl ?_
      show Steps p.tables e below (T8.setTop (mkF m 41 #[.val (.ref a), .val (.ref p1), .val (.int p2), .val (.int p3), .val .null, .val (.ref rb_8)] [])) _
      refine XS.aloadN X8.here hx rfl (hb hby own_d9_41) rfl rfl ?_
      show Steps p.tables e below (T8.setTop (mkF m 42 #[.val (.ref a), .val (.ref p1), .val (.int p2), .val (.int p3), .val .null, .val (.ref rb_8)] [(.ref a)])) _
      refine XS.aload X8.here hx rfl (hb hby own_d9_42) rfl rfl ?_
      show Steps p.tables e below (T8.setTop (mkF m 44 #[.val (.ref a), .val (.ref p1), .val (.int p2), .val (.int p3), .val .null, .val (.ref rb_8)] [(.ref rb_8), (.ref a)])) _
      refine XS.iloadN X8.here hx rfl (hb hby own_d9_44) rfl ?_
      exact k
    obtain ⟨_, _, ⟨T35, L35, k35c, n35⟩, -, X35, ⟨Lc35, hQ35, l35, y35, z35⟩, st35⟩ := Jvm.LawKit.callS X8 hx (y := (⟨"java/lang/StringUTF16", "coderFromArrayLen", "([BI)B"⟩ : MethodName)) hown (mvT hZ (hw _ (List.mem_of_getElem? (i := 90) rfl))) (mvT hZ (hw _ (List.mem_of_getElem? (i := 91) rfl))) (mvT hZ (hw _ (List.mem_of_getElem? (i := 85) rfl))) (mvT hZ (hw _ (List.mem_of_getElem? (i := 92) rfl))) (by decide) (backOf (W := 1) (own_rmcl1 l Z a0 hw [] rb_8 p3 (own_u16 cf of_) nn T8.heap n0 Z8 hGb hp3 (by omega) (by omega)) hZ (hw _ (List.mem_of_getElem? (i := 92) rfl)) (hw _ (List.mem_of_getElem? (i := 85) rfl)) (by decide) (by decide)) (g := (mkF m 45 #[.val (.ref a), .val (.ref p1), .val (.int p2), .val (.int p3), .val .null, .val (.ref rb_8)] [(.int p3), (.ref rb_8), (.ref a)])) rfl (by rw [hml]; rfl) (argsL := [(.ref rb_8), (.int p3)]) (rest := [(.ref a)]) (lenOf own_pd6 rfl) rfl (by show 2 * 0 + _ ≤ _; exact Nat.le_of_eq rfl) (hb hby own_d9_45) (fun _ _ => ⟨rfl, rfl, (by decide : 2 + 0 ≤ _), (by decide : 12 + 0 ≤ _)⟩)
    dsimp only [Pt.U, Pt.locs, Pt.cells, Pt.slots] at X35 l35 y35 z35 st35 hQ35
    subst l35 y35 z35
    obtain ⟨rfl, N35q, e35⟩ := hQ35
    have N35 := Fr.app N8 N35q
    have k36 : ∀ t, Steps p.tables e below (T35.setTop (mkF m 48 #[.val (.ref a), .val (.ref p1), .val (.int p2), .val (.int p3), .val .null, .val (.ref rb_8)] [(.int (1 : Int32)), (.ref a)])) t → Steps p.tables e below (s₁.setTop (entryFrame m #[(.ref a), (.ref p1), (.int p2), (.int p3), .null] 6)) t := fun t k => k34 t (st35 t k)
    obtain ⟨T37, h37, X37, e37, W37, st37⟩ := putFN X35 hx hZ hown (hw _ (List.mem_of_getElem? (i := 53) rfl)) Via.refl e35 f13 f11 (Or.inr ⟨(hw _ (List.mem_of_getElem? (i := 49) rfl)), rfl, hnm⟩) (hw _ (List.mem_of_getElem? (i := 25) rfl)) (ty := .byte) (v' := (.int (nar .byte (1 : Int32)))) (by decide) rfl (fits_nar_byte _) (g := (mkF m 48 #[.val (.ref a), .val (.ref p1), .val (.int p2), .val (.int p3), .val .null, .val (.ref rb_8)] [(.int (1 : Int32)), (.ref a)])) rfl rfl (hb hby own_d9_48)
    have f38 := f11.wr W37
    have f39 := f12.other W37 (Or.inr (slot_ne (Or.inr (hw _ (List.mem_of_getElem? (i := 48) rfl))) (Or.inr (hw _ (List.mem_of_getElem? (i := 49) rfl))) (by decide) (t := (.array .byte)) (t' := .byte) (by decide) (by decide)))
    have f40 := f14.other W37 ne_p1_a
    have f41 := hGb.other W37 (Ne.symm ne9)
    have f42 := f13.same W37
    have N37 := Fr.snoc X37 N35 ge_a
    have K37 : Keep h0 h37 [a] := K8.wr W37 (Or.inl (List.mem_of_getElem? (i := 0) rfl))
    have Z37 : n0 ≤ h37.size := Nat.le_trans Z8 (Keep.of_wr W37).1
    have Xo37 := Xo8.wr W37 ge_a
    have k43 : ∀ t, Steps p.tables e below (T37.setTop (mkF m 51 #[.val (.ref a), .val (.ref p1), .val (.int p2), .val (.int p3), .val .null, .val (.ref rb_8)] [])) t → Steps p.tables e below (s₁.setTop (entryFrame m #[(.ref a), (.ref p1), (.int p2), (.int p3), .null] 6)) t := fun t k => k36 t (st37 t k)
    have k44 : ∀ t, Steps p.tables e below (T37.setTop (mkF m 54 #[.val (.ref a), .val (.ref p1), .val (.int p2), .val (.int p3), .val .null, .val (.ref rb_8)] [(.ref rb_8), (.ref a)])) t → Steps p.tables e below (s₁.setTop (entryFrame m #[(.ref a), (.ref p1), (.int p2), (.int p3), .null] 6)) t := by
      intro t k
      refine k43 t ?_
      show Steps p.tables e below (T37.setTop (mkF m 51 #[.val (.ref a), .val (.ref p1), .val (.int p2), .val (.int p3), .val .null, .val (.ref rb_8)] [])) _
      refine XS.aloadN X37.here hx rfl (hb hby own_d9_51) rfl rfl ?_
      show Steps p.tables e below (T37.setTop (mkF m 52 #[.val (.ref a), .val (.ref p1), .val (.int p2), .val (.int p3), .val .null, .val (.ref rb_8)] [(.ref a)])) _
      refine XS.aload X37.here hx rfl (hb hby own_d9_52) rfl rfl ?_
      exact k
    obtain ⟨T45, h45, X45, e45, W45, st45⟩ := putF X37 hx hZ hown (host := "") (Or.inl (hw _ (List.mem_of_getElem? (i := 52) rfl))) Via.refl e37 f39 f38 (Or.inr ⟨(hw _ (List.mem_of_getElem? (i := 48) rfl)), rfl, hnm⟩) (hw _ (List.mem_of_getElem? (i := 25) rfl)) (ty := (.array .byte)) (by decide) rfl rfl (g := (mkF m 54 #[.val (.ref a), .val (.ref p1), .val (.int p2), .val (.int p3), .val .null, .val (.ref rb_8)] [(.ref rb_8), (.ref a)])) rfl rfl (hb hby own_d9_54)
    have f46 := f38.wr W45
    have f47 := f42.other W45 (Or.inr (slot_ne (Or.inr (hw _ (List.mem_of_getElem? (i := 49) rfl))) (Or.inr (hw _ (List.mem_of_getElem? (i := 48) rfl))) (by decide) (t := .byte) (t' := (.array .byte)) (by decide) (by decide)))
    have f48 := f40.other W45 ne_p1_a
    have f49 := f41.other W45 (Ne.symm ne9)
    have f50 := f39.same W45
    have N45 := Fr.snoc X45 N37 ge_a
    have K45 : Keep h0 h45 [a] := K37.wr W45 (Or.inl (List.mem_of_getElem? (i := 0) rfl))
    have Z45 : n0 ≤ h45.size := Nat.le_trans Z37 (Keep.of_wr W45).1
    have Xo45 := Xo37.wr W45 ge_a
    have k51 : ∀ t, Steps p.tables e below (T45.setTop (mkF m 57 #[.val (.ref a), .val (.ref p1), .val (.int p2), .val (.int p3), .val .null, .val (.ref rb_8)] [])) t → Steps p.tables e below (s₁.setTop (entryFrame m #[(.ref a), (.ref p1), (.int p2), (.int p3), .null] 6)) t := fun t k => k44 t (st45 t k)
    obtain ⟨fs, hr, hrun, hended, hW, hsame⟩ := X45.leave (v := none) (fun _ => rfl)
    refine ⟨_, _, k51 _ ?_, hrun, hended, _, _, rfl, ?_, ⟨_, rfl⟩, hW, hsame.mono (by decide) (by decide)⟩
    · exact X45.returnOut hx Bd.returns (hb hby own_d9_57) hr
    · show own_Qs2 Z a p1 p2 p3 u1 u2 zc cf of_ nn cs h0 n0 _ T45.heap _
      rw [e45]
      exact ⟨rfl, N45, K45, ⟨f46, hn, hch, rb_8, (1 : Int32), f50, f47, Or.inr ⟨rfl, hall, f49⟩⟩⟩
theorem own_d9_8 : decode jdk_42_method_149_code 8 = .ok (.aload_n 0, 1) := by decide +kernel
theorem own_d9_9 : decode jdk_42_method_149_code 9 = .ok (.ldc 7, 2) := by decide +kernel
theorem own_d9_11 : decode jdk_42_method_149_code 11 = .ok (.getfield 9, 3) := by decide +kernel
theorem own_d9_14 : decode jdk_42_method_149_code 14 = .ok (.putfield 9, 3) := by decide +kernel
theorem own_d9_17 : decode jdk_42_method_149_code 17 = .ok (.aload_n 0, 1) := by decide +kernel
theorem own_d9_18 : decode jdk_42_method_149_code 18 = .ok (.ldc 7, 2) := by decide +kernel
theorem own_d9_20 : decode jdk_42_method_149_code 20 = .ok (.getfield 15, 3) := by decide +kernel
theorem own_d9_23 : decode jdk_42_method_149_code 23 = .ok (.putfield 15, 3) := by decide +kernel
theorem own_d9_26 : decode jdk_42_method_149_code 26 = .ok (.return_, 1) := by decide +kernel
theorem own_efs2w (m : MethodId) (x0 : Addr) (x1 : Addr) (x2 : Int32) (x3 : Int32) : entryFrame m #[(.ref x0), (.ref x1), (.int x2), (.int x3), .null] 6 = mkF m 0 #[.val (.ref x0), .val (.ref x1), .val (.int x2), .val (.int x3), .val .null, .unset] [] := by first | (simp [entryFrame, mkF, argsToLocals, Value.category]; done) | rfl
def own_Qs2w (Z : State) (a : Addr) (p1 : Addr) (p2 : Int32) (p3 : Int32) (u2 : Value) (cf : Nat → Int32) (of_ : Nat) (h0 : Heap) (n0 : Nat) (v : Option Value) (h : Heap) (L : List Loc) : Prop := v = none ∧ Fr n0 L ∧ Keep h0 h [a] ∧ own_Str Z h a 0 of_ cf
def own_Rs2w : Room := { frames := 1, cells := 2, slots := 4, locals := 12 }
set_option maxRecDepth 65536 in
set_option maxHeartbeats 40000000 in
theorem own_rms2w (l : Launch) (Z : State) (a0 : Array Value) (hw : ∀ d ∈ tables_1, d.before a0 Z = true) (ws : List Jvm.Cond) (a : Addr) (p1 : Addr) (p2 : Int32) (p3 : Int32) (u2 : Value) (cf : Nat → Int32) (of_ : Nat) (h0 : Heap) (n0 : Nat) (Z0 : n0 ≤ h0.size) (P0 : Exa Z h0 a "java/lang/String") (P1 : Fld Z h0 a "java/lang/String" "value" "[B" .null) (P2 : Fld Z h0 a "java/lang/String" "coder" "B" u2) (ge_a : n0 ≤ a) (hp3 : p3 = (0 : Int32)) :
    MetFree l (⟨"java/lang/String", "<init>", "([CIILjava/lang/Void;)V"⟩ : MethodName) (head1 (Jvm.Cond.code (⟨"java/lang/String", "<init>", "([CIILjava/lang/Void;)V"⟩ : MethodName) jdk_42_method_149_code 6 none :: ws) own_Rs2w) (fun aa U => aa = #[(.ref a), (.ref p1), (.int p2), (.int p3), .null] ∧ Z.Warmed39 U.vm ∧ U.heap = h0 ∧ CHv Z own_EL U.vm h0) (fun _ _ _ _ _ => True) (fun _ U o U' => ∃ v L, o = .returned v ∧ own_Qs2w Z a p1 p2 p3 u2 cf of_ h0 n0 v U'.heap L ∧ ReturnedEndW U o U' L own_Rs2w.cells own_Rs2w.slots) := by
  refine MetFree.of_bodySF (plainFor_of_name own_pn1) hisR ?_
  intro p e s m args below meth c s₁ Bd hml0 hP hK
  obtain ⟨rfl, hZ, hh, hH0⟩ := hP
  have hx := Bd.exec
  have hby := Bd.bytes
  have hml : c.maxLocals = 6 := hml0
  have hown : s.vm.findClass "java/lang/String" = some m.cls := findClass_of_methodNamed Bd.named
  have hnm := (name_of_methodNamed Bd.named Bd.method).1
  have X0 : Stand p l e own_Rs2w s m #[(.ref a), (.ref p1), (.int p2), (.int p3), .null] below meth c s₁ [] 0 0 := Stand.of_body Bd
  have e0 : s₁.heap = h0 := by rw [← hh, Bd.state]; rfl
  have N0 := Fr.nil n0
  have pre0 : ∀ t, Steps p.tables e below (s₁.setTop (mkF m 0 #[.val (.ref a), .val (.ref p1), .val (.int p2), .val (.int p3), .val .null, .unset] [])) t → Steps p.tables e below (s₁.setTop (entryFrame m #[(.ref a), (.ref p1), (.int p2), (.int p3), .null] 6)) t := fun t k => castTop (own_efs2w m a p1 p2 p3) k
  have k1 : ∀ t, Steps p.tables e below (s₁.setTop (mkF m 1 #[.val (.ref a), .val (.ref p1), .val (.int p2), .val (.int p3), .val .null, .unset] [(.ref a)])) t → Steps p.tables e below (s₁.setTop (entryFrame m #[(.ref a), (.ref p1), (.int p2), (.int p3), .null] 6)) t := by
    intro t k
    refine pre0 t ?_
    show Steps p.tables e below (s₁.setTop (mkF m 0 #[.val (.ref a), .val (.ref p1), .val (.int p2), .val (.int p3), .val .null, .unset] [])) _
    refine XS.aloadN X0.here hx rfl (hb hby own_d9_0) rfl rfl ?_
    exact k
  obtain ⟨T2, X2, e2, st2⟩ := initO X0 hx hZ hown (hw _ (List.mem_of_getElem? (i := 45) rfl)) (hw _ (List.mem_of_getElem? (i := 8) rfl)) (hw _ (List.mem_of_getElem? (i := 9) rfl)) e0 (g := (mkF m 1 #[.val (.ref a), .val (.ref p1), .val (.int p2), .val (.int p3), .val .null, .unset] [(.ref a)])) rfl (by rw [hml]; rfl) rfl (hb hby own_d9_1) (by decide) (W := 0) (by show 2 * 0 + _ ≤ _; exact Nat.le_of_eq rfl) (by decide)
  have k3 : ∀ t, Steps p.tables e below (T2.setTop (mkF m 4 #[.val (.ref a), .val (.ref p1), .val (.int p2), .val (.int p3), .val .null, .unset] [])) t → Steps p.tables e below (s₁.setTop (entryFrame m #[(.ref a), (.ref p1), (.int p2), (.int p3), .null] 6)) t := fun t k => k1 t (st2 t k)
  have k4 : ∀ t, Steps p.tables e below (T2.setTop (mkF m 9 #[.val (.ref a), .val (.ref p1), .val (.int p2), .val (.int p3), .val .null, .unset] [(.ref a)])) t → Steps p.tables e below (s₁.setTop (entryFrame m #[(.ref a), (.ref p1), (.int p2), (.int p3), .null] 6)) t := by
    intro t k
    refine k3 t ?_
    show Steps p.tables e below (T2.setTop (mkF m 4 #[.val (.ref a), .val (.ref p1), .val (.int p2), .val (.int p3), .val .null, .unset] [])) _
    refine XS.iloadN X2.here hx rfl (hb hby own_d9_4) rfl ?_
    show Steps p.tables e below (T2.setTop (mkF m 5 #[.val (.ref a), .val (.ref p1), .val (.int p2), .val (.int p3), .val .null, .unset] [(.int p3)])) _
    refine XS.ifNo X2.here hx rfl (hb hby own_d9_5) rfl ((if0 _ _).trans (teq hp3).2) ?_
    show Steps p.tables e below (T2.setTop (mkF m 8 #[.val (.ref a), .val (.ref p1), .val (.int p2), .val (.int p3), .val .null, .unset] [])) _
    refine XS.aloadN X2.here hx rfl (hb hby own_d9_8) rfl rfl ?_
    exact k
  obtain ⟨lt5, T5, h5, lb5, k15, X5, e5, E5, Si5, hk5, hZ, hown, Ea5, Fc5, Fv5, Gb5, Li5, nb5, st5⟩ := own_ldcE X2 hx hZ hown hw e2 hH0 (g := (mkF m 9 #[.val (.ref a), .val (.ref p1), .val (.int p2), .val (.int p3), .val .null, .unset] [(.ref a)])) rfl (hb hby own_d9_9) (by decide) (by decide)
  have f6 := P0.ext E5
  have f7 := P1.ext E5
  have f8 := P2.ext E5
  have Z5 : n0 ≤ h5.size := Nat.le_trans Z0 E5.1
  have K5 : Keep h0 h5 [a] := (Keep.refl h0 [a]).ext E5
  have nl5 : a ≠ lt5 := fun q => by subst q; have z := own_fld1 f7 Fv5; cases z
  have nc5 : a ≠ lb5 := nb5 _ f6
  have k9 : ∀ t, Steps p.tables e below (T5.setTop (mkF m 11 #[.val (.ref a), .val (.ref p1), .val (.int p2), .val (.int p3), .val .null, .unset] [(.ref lt5), (.ref a)])) t → Steps p.tables e below (s₁.setTop (entryFrame m #[(.ref a), (.ref p1), (.int p2), (.int p3), .null] 6)) t := fun t k => k4 t (st5 t k)
  obtain ⟨T10, X10, e10, st10⟩ := getF X5 hx hZ hown (host := "") (Or.inl (hw _ (List.mem_of_getElem? (i := 52) rfl))) Via.refl e5 Fv5 (g := (mkF m 11 #[.val (.ref a), .val (.ref p1), .val (.int p2), .val (.int p3), .val .null, .unset] [(.ref lt5), (.ref a)])) rfl rfl (hb hby own_d9_11)
  have k11 : ∀ t, Steps p.tables e below (T10.setTop (mkF m 14 #[.val (.ref a), .val (.ref p1), .val (.int p2), .val (.int p3), .val .null, .unset] [(.ref lb5), (.ref a)])) t → Steps p.tables e below (s₁.setTop (entryFrame m #[(.ref a), (.ref p1), (.int p2), (.int p3), .null] 6)) t := fun t k => k9 t (st10 t k)
  obtain ⟨T12, h12, X12, e12, W12, st12⟩ := putF X10 hx hZ hown (host := "") (Or.inl (hw _ (List.mem_of_getElem? (i := 52) rfl))) Via.refl e10 f7 f6 (Or.inr ⟨(hw _ (List.mem_of_getElem? (i := 48) rfl)), rfl, hnm⟩) (hw _ (List.mem_of_getElem? (i := 25) rfl)) (ty := (.array .byte)) (by decide) rfl rfl (g := (mkF m 14 #[.val (.ref a), .val (.ref p1), .val (.int p2), .val (.int p3), .val .null, .unset] [(.ref lb5), (.ref a)])) rfl rfl (hb hby own_d9_14)
  have f13 := f6.wr W12
  have f14 := f8.other W12 (Or.inr (slot_ne (Or.inr (hw _ (List.mem_of_getElem? (i := 49) rfl))) (Or.inr (hw _ (List.mem_of_getElem? (i := 48) rfl))) (by decide) (t := .byte) (t' := (.array .byte)) (by decide) (by decide)))
  have f15 := Ea5.wr W12
  have f16 := Fc5.other W12 (Or.inl (Ne.symm nl5))
  have f17 := Fv5.other W12 (Or.inl (Ne.symm nl5))
  have f18 := Gb5.other W12 (Ne.symm nc5)
  have f19 := f7.same W12
  have N12 := Fr.snoc X12 N0 ge_a
  have K12 : Keep h0 h12 [a] := K5.wr W12 (Or.inl (List.mem_of_getElem? (i := 0) rfl))
  have Z12 : n0 ≤ h12.size := Nat.le_trans Z5 (Keep.of_wr W12).1
  have k20 : ∀ t, Steps p.tables e below (T12.setTop (mkF m 17 #[.val (.ref a), .val (.ref p1), .val (.int p2), .val (.int p3), .val .null, .unset] [])) t → Steps p.tables e below (s₁.setTop (entryFrame m #[(.ref a), (.ref p1), (.int p2), (.int p3), .null] 6)) t := fun t k => k11 t (st12 t k)
  have k21 : ∀ t, Steps p.tables e below (T12.setTop (mkF m 18 #[.val (.ref a), .val (.ref p1), .val (.int p2), .val (.int p3), .val .null, .unset] [(.ref a)])) t → Steps p.tables e below (s₁.setTop (entryFrame m #[(.ref a), (.ref p1), (.int p2), (.int p3), .null] 6)) t := by
    intro t k
    refine k20 t ?_
    show Steps p.tables e below (T12.setTop (mkF m 17 #[.val (.ref a), .val (.ref p1), .val (.int p2), .val (.int p3), .val .null, .unset] [])) _
    refine XS.aloadN X12.here hx rfl (hb hby own_d9_17) rfl rfl ?_
    exact k
  have st22 := ldcAgain (s := s) (Z := Z) X12 hx hZ hown (hw _ (List.mem_of_getElem? (i := 46) rfl)) Li5 (g := (mkF m 18 #[.val (.ref a), .val (.ref p1), .val (.int p2), .val (.int p3), .val .null, .unset] [(.ref a)])) rfl (hb hby own_d9_18)
  have k23 : ∀ t, Steps p.tables e below (T12.setTop (mkF m 20 #[.val (.ref a), .val (.ref p1), .val (.int p2), .val (.int p3), .val .null, .unset] [(.ref lt5), (.ref a)])) t → Steps p.tables e below (s₁.setTop (entryFrame m #[(.ref a), (.ref p1), (.int p2), (.int p3), .null] 6)) t := fun t k => k21 t (st22 t k)
  obtain ⟨T24, X24, e24, st24⟩ := getF X12 hx hZ hown (host := "") (Or.inl (hw _ (List.mem_of_getElem? (i := 53) rfl))) Via.refl e12 f16 (g := (mkF m 20 #[.val (.ref a), .val (.ref p1), .val (.int p2), .val (.int p3), .val .null, .unset] [(.ref lt5), (.ref a)])) rfl rfl (hb hby own_d9_20)
  have k25 : ∀ t, Steps p.tables e below (T24.setTop (mkF m 23 #[.val (.ref a), .val (.ref p1), .val (.int p2), .val (.int p3), .val .null, .unset] [(.int (0 : Int32)), (.ref a)])) t → Steps p.tables e below (s₁.setTop (entryFrame m #[(.ref a), (.ref p1), (.int p2), (.int p3), .null] 6)) t := fun t k => k23 t (st24 t k)
  obtain ⟨T26, h26, X26, e26, W26, st26⟩ := putFN X24 hx hZ hown (hw _ (List.mem_of_getElem? (i := 53) rfl)) Via.refl e24 f14 f13 (Or.inr ⟨(hw _ (List.mem_of_getElem? (i := 49) rfl)), rfl, hnm⟩) (hw _ (List.mem_of_getElem? (i := 25) rfl)) (ty := .byte) (v' := (.int (nar .byte (0 : Int32)))) (by decide) rfl (fits_nar_byte _) (g := (mkF m 23 #[.val (.ref a), .val (.ref p1), .val (.int p2), .val (.int p3), .val .null, .unset] [(.int (0 : Int32)), (.ref a)])) rfl rfl (hb hby own_d9_23)
  have f27 := f13.wr W26
  have f28 := f19.other W26 (Or.inr (slot_ne (Or.inr (hw _ (List.mem_of_getElem? (i := 48) rfl))) (Or.inr (hw _ (List.mem_of_getElem? (i := 49) rfl))) (by decide) (t := (.array .byte)) (t' := .byte) (by decide) (by decide)))
  have f29 := f15.wr W26
  have f30 := f16.other W26 (Or.inl (Ne.symm nl5))
  have f31 := f17.other W26 (Or.inl (Ne.symm nl5))
  have f32 := f18.other W26 (Ne.symm nc5)
  have f33 := f14.same W26
  have N26 := Fr.snoc X26 N12 ge_a
  have K26 : Keep h0 h26 [a] := K12.wr W26 (Or.inl (List.mem_of_getElem? (i := 0) rfl))
  have Z26 : n0 ≤ h26.size := Nat.le_trans Z12 (Keep.of_wr W26).1
  have k34 : ∀ t, Steps p.tables e below (T26.setTop (mkF m 26 #[.val (.ref a), .val (.ref p1), .val (.int p2), .val (.int p3), .val .null, .unset] [])) t → Steps p.tables e below (s₁.setTop (entryFrame m #[(.ref a), (.ref p1), (.int p2), (.int p3), .null] 6)) t := fun t k => k25 t (st26 t k)
  obtain ⟨fs, hr, hrun, hended, hE⟩ := Stand.leaveW (s := s) X26 Si5 (by rw [e26]; exact Nat.le_trans (Nat.le_trans (Nat.le_trans (Nat.le_refl _) (hk5)) ((Keep.of_wr W12).1)) ((Keep.of_wr W26).1)) (v := none) (fun _ => rfl)
  refine ⟨_, _, k34 _ ?_, hrun, hended, _, _, rfl, ?_, ⟨_, rfl⟩, hE.2.1, hE.2.2.1, hE.2.2.2.mono (by decide) (by decide)⟩
  · exact X26.returnOut hx Bd.returns (hb hby own_d9_26) hr
  · show own_Qs2w Z a p1 p2 p3 u2 cf of_ h0 n0 _ T26.heap _
    rw [e26]
    exact ⟨rfl, N26, K26, ⟨f27, Nat.zero_le _, fun i hi => absurd hi (Nat.not_lt_zero i), lb5, (0 : Int32), f28, f33, Or.inl ⟨rfl, fun i hi => absurd hi (Nat.not_lt_zero i), f32.congr (fun i hi => absurd hi (Nat.not_lt_zero i))⟩⟩⟩
theorem own_d11_0 : decode jdk_42_method_152_code 0 = .ok (.getstatic 38, 3) := by decide +kernel
theorem own_d11_3 : decode jdk_42_method_152_code 3 = .ok (.ifCond .eq 10, 3) := by decide +kernel
theorem own_d11_6 : decode jdk_42_method_152_code 6 = .ok (.aload_n 0, 1) := by decide +kernel
theorem own_d11_7 : decode jdk_42_method_152_code 7 = .ok (.getfield 15, 3) := by decide +kernel
theorem own_d11_10 : decode jdk_42_method_152_code 10 = .ok (.goto 4, 3) := by decide +kernel
theorem own_d11_14 : decode jdk_42_method_152_code 14 = .ok (.ireturn, 1) := by decide +kernel
theorem own_efcd0 (m : MethodId) (x0 : Addr) : entryFrame m #[(.ref x0)] 1 = mkF m 0 #[.val (.ref x0)] [] := by first | (simp [entryFrame, mkF, argsToLocals, Value.category]; done) | rfl
def own_Qcd0 (Z : State) (a : Addr) (cs : Int32) (h0 : Heap) (n0 : Nat) (v : Option Value) (h : Heap) (L : List Loc) : Prop := v = some (.int (0 : Int32)) ∧ Fr n0 L ∧ h = h0
def own_Rcd0 : Room := { frames := 0, cells := 0, slots := 0, locals := 0 }
set_option maxRecDepth 65536 in
set_option maxHeartbeats 40000000 in
theorem own_rmcd0 (l : Launch) (Z : State) (a0 : Array Value) (hw : ∀ d ∈ tables_1, d.before a0 Z = true) (ws : List Jvm.Cond) (a : Addr) (cs : Int32) (h0 : Heap) (n0 : Nat) (Z0 : n0 ≤ h0.size) (P0 : Exa Z h0 a "java/lang/String") (P1 : Fld Z h0 a "java/lang/String" "coder" "B" (.int (0 : Int32))) (Xo : Old Z n0 h0) (SC : Sta Z Z.heap "java/lang/String" "COMPACT_STRINGS" "Z" (.int cs)) (hcs : ¬ (cs = (0 : Int32))) :
    MetFree l (⟨"java/lang/String", "coder", "()B"⟩ : MethodName) (head1 (Jvm.Cond.code (⟨"java/lang/String", "coder", "()B"⟩ : MethodName) jdk_42_method_152_code 1 (some .byte) :: ws) own_Rcd0) (fun aa U => aa = #[(.ref a)] ∧ Z.Warmed39 U.vm ∧ U.heap = h0) (fun _ _ _ _ _ => True) (fun _ U o U' => ∃ v L, o = .returned v ∧ own_Qcd0 Z a cs h0 n0 v U'.heap L ∧ FrameEnd U o U' L own_Rcd0.cells own_Rcd0.slots) := by
  refine MetFree.of_bodySF (plainFor_of_name own_pn1) hisR ?_
  intro p e s m args below meth c s₁ Bd hml0 hP hK
  obtain ⟨rfl, hZ, hh⟩ := hP
  have hx := Bd.exec
  have hby := Bd.bytes
  have hml : c.maxLocals = 1 := hml0
  have hown : s.vm.findClass "java/lang/String" = some m.cls := findClass_of_methodNamed Bd.named
  have hnm := (name_of_methodNamed Bd.named Bd.method).1
  have X0 : Stand p l e own_Rcd0 s m #[(.ref a)] below meth c s₁ [] 0 0 := Stand.of_body Bd
  have e0 : s₁.heap = h0 := by rw [← hh, Bd.state]; rfl
  have N0 := Fr.nil n0
  have pre0 : ∀ t, Steps p.tables e below (s₁.setTop (mkF m 0 #[.val (.ref a)] [])) t → Steps p.tables e below (s₁.setTop (entryFrame m #[(.ref a)] 1)) t := fun t k => castTop (own_efcd0 m a) k
  obtain ⟨T1, X1, e1, st1⟩ := getS2 X0 hx hZ hown (host := "") (Or.inl (hw _ (List.mem_of_getElem? (i := 64) rfl))) Via.refl e0 (SC.ext Xo.2) (g := (mkF m 0 #[.val (.ref a)] [])) rfl (hb hby own_d11_0)
  have k2 : ∀ t, Steps p.tables e below (T1.setTop (mkF m 3 #[.val (.ref a)] [(.int cs)])) t → Steps p.tables e below (s₁.setTop (entryFrame m #[(.ref a)] 1)) t := fun t k => pre0 t (st1 t k)
  have k3 : ∀ t, Steps p.tables e below (T1.setTop (mkF m 7 #[.val (.ref a)] [(.ref a)])) t → Steps p.tables e below (s₁.setTop (entryFrame m #[(.ref a)] 1)) t := by
    intro t k
    refine k2 t ?_
    show Steps p.tables e below (T1.setTop (mkF m 3 #[.val (.ref a)] [(.int cs)])) _
    refine XS.ifNo X1.here hx rfl (hb hby own_d11_3) rfl ((if0 _ _).trans (feq hcs).1) ?_
    show Steps p.tables e below (T1.setTop (mkF m 6 #[.val (.ref a)] [])) _
    refine XS.aloadN X1.here hx rfl (hb hby own_d11_6) rfl rfl ?_
    exact k
  obtain ⟨T4, X4, e4, st4⟩ := getF X1 hx hZ hown (host := "") (Or.inl (hw _ (List.mem_of_getElem? (i := 53) rfl))) Via.refl e1 P1 (g := (mkF m 7 #[.val (.ref a)] [(.ref a)])) rfl rfl (hb hby own_d11_7)
  have k5 : ∀ t, Steps p.tables e below (T4.setTop (mkF m 10 #[.val (.ref a)] [(.int (0 : Int32))])) t → Steps p.tables e below (s₁.setTop (entryFrame m #[(.ref a)] 1)) t := fun t k => k3 t (st4 t k)
  have k6 : ∀ t, Steps p.tables e below (T4.setTop (mkF m 14 #[.val (.ref a)] [(.int (0 : Int32))])) t → Steps p.tables e below (s₁.setTop (entryFrame m #[(.ref a)] 1)) t := by
    intro t k
    refine k5 t ?_
    show Steps p.tables e below (T4.setTop (mkF m 10 #[.val (.ref a)] [(.int (0 : Int32))])) _
    refine XS.goto X4.here hx rfl (pc0 := 10) (pc' := 14) rfl (hb hby own_d11_10) (by decide) (by decide) ?_
    exact k
  obtain ⟨fs, hr, hrun, hended, hW, hsame⟩ := X4.leave (v := (some (.int (0 : Int32)))) (fun h => by rw [Bd.returns] at h; cases h)
  refine ⟨_, _, k6 _ ?_, hrun, hended, _, _, rfl, ?_, ⟨_, rfl⟩, hW, hsame.mono (by decide) (by decide)⟩
  · exact retN X4 hx (t := .byte) Bd.returns (by simp) (hb hby own_d11_14) hr
  · show own_Qcd0 Z a cs h0 n0 _ T4.heap _
    exact ⟨rfl, N0, e4⟩
theorem own_d20_0 : decode jdk_42_method_154_code 0 = .ok (.getstatic 38, 3) := by decide +kernel
theorem own_d20_3 : decode jdk_42_method_154_code 3 = .ok (.ifCond .eq 14, 3) := by decide +kernel
theorem own_d20_6 : decode jdk_42_method_154_code 6 = .ok (.aload_n 0, 1) := by decide +kernel
theorem own_d20_7 : decode jdk_42_method_154_code 7 = .ok (.getfield 15, 3) := by decide +kernel
theorem own_d20_10 : decode jdk_42_method_154_code 10 = .ok (.ifCond .ne 7, 3) := by decide +kernel
theorem own_d20_13 : decode jdk_42_method_154_code 13 = .ok (.iconst 1, 1) := by decide +kernel
theorem own_d20_14 : decode jdk_42_method_154_code 14 = .ok (.goto 4, 3) := by decide +kernel
theorem own_d20_18 : decode jdk_42_method_154_code 18 = .ok (.ireturn, 1) := by decide +kernel
theorem own_efla0 (m : MethodId) (x0 : Addr) : entryFrame m #[(.ref x0)] 1 = mkF m 0 #[.val (.ref x0)] [] := by first | (simp [entryFrame, mkF, argsToLocals, Value.category]; done) | rfl
def own_Qla0 (Z : State) (a : Addr) (cs : Int32) (h0 : Heap) (n0 : Nat) (v : Option Value) (h : Heap) (L : List Loc) : Prop := v = some (.int (1 : Int32)) ∧ Fr n0 L ∧ h = h0
def own_Rla0 : Room := { frames := 0, cells := 0, slots := 0, locals := 0 }
set_option maxRecDepth 65536 in
set_option maxHeartbeats 40000000 in
theorem own_rmla0 (l : Launch) (Z : State) (a0 : Array Value) (hw : ∀ d ∈ tables_1, d.before a0 Z = true) (ws : List Jvm.Cond) (a : Addr) (cs : Int32) (h0 : Heap) (n0 : Nat) (Z0 : n0 ≤ h0.size) (P0 : Exa Z h0 a "java/lang/String") (P1 : Fld Z h0 a "java/lang/String" "coder" "B" (.int (0 : Int32))) (Xo : Old Z n0 h0) (SC : Sta Z Z.heap "java/lang/String" "COMPACT_STRINGS" "Z" (.int cs)) (hcs : ¬ (cs = (0 : Int32))) :
    MetFree l (⟨"java/lang/String", "isLatin1", "()Z"⟩ : MethodName) (head1 (Jvm.Cond.code (⟨"java/lang/String", "isLatin1", "()Z"⟩ : MethodName) jdk_42_method_154_code 1 (some .boolean) :: ws) own_Rla0) (fun aa U => aa = #[(.ref a)] ∧ Z.Warmed39 U.vm ∧ U.heap = h0) (fun _ _ _ _ _ => True) (fun _ U o U' => ∃ v L, o = .returned v ∧ own_Qla0 Z a cs h0 n0 v U'.heap L ∧ FrameEnd U o U' L own_Rla0.cells own_Rla0.slots) := by
  refine MetFree.of_bodySF (plainFor_of_name own_pn1) hisR ?_
  intro p e s m args below meth c s₁ Bd hml0 hP hK
  obtain ⟨rfl, hZ, hh⟩ := hP
  have hx := Bd.exec
  have hby := Bd.bytes
  have hml : c.maxLocals = 1 := hml0
  have hown : s.vm.findClass "java/lang/String" = some m.cls := findClass_of_methodNamed Bd.named
  have hnm := (name_of_methodNamed Bd.named Bd.method).1
  have X0 : Stand p l e own_Rla0 s m #[(.ref a)] below meth c s₁ [] 0 0 := Stand.of_body Bd
  have e0 : s₁.heap = h0 := by rw [← hh, Bd.state]; rfl
  have N0 := Fr.nil n0
  have pre0 : ∀ t, Steps p.tables e below (s₁.setTop (mkF m 0 #[.val (.ref a)] [])) t → Steps p.tables e below (s₁.setTop (entryFrame m #[(.ref a)] 1)) t := fun t k => castTop (own_efla0 m a) k
  obtain ⟨T1, X1, e1, st1⟩ := getS2 X0 hx hZ hown (host := "") (Or.inl (hw _ (List.mem_of_getElem? (i := 64) rfl))) Via.refl e0 (SC.ext Xo.2) (g := (mkF m 0 #[.val (.ref a)] [])) rfl (hb hby own_d20_0)
  have k2 : ∀ t, Steps p.tables e below (T1.setTop (mkF m 3 #[.val (.ref a)] [(.int cs)])) t → Steps p.tables e below (s₁.setTop (entryFrame m #[(.ref a)] 1)) t := fun t k => pre0 t (st1 t k)
  have k3 : ∀ t, Steps p.tables e below (T1.setTop (mkF m 7 #[.val (.ref a)] [(.ref a)])) t → Steps p.tables e below (s₁.setTop (entryFrame m #[(.ref a)] 1)) t := by
    intro t k
    refine k2 t ?_
    show Steps p.tables e below (T1.setTop (mkF m 3 #[.val (.ref a)] [(.int cs)])) _
    refine XS.ifNo X1.here hx rfl (hb hby own_d20_3) rfl ((if0 _ _).trans (feq hcs).1) ?_
    show Steps p.tables e below (T1.setTop (mkF m 6 #[.val (.ref a)] [])) _
    refine XS.aloadN X1.here hx rfl (hb hby own_d20_6) rfl rfl ?_
    exact k
  obtain ⟨T4, X4, e4, st4⟩ := getF X1 hx hZ hown (host := "") (Or.inl (hw _ (List.mem_of_getElem? (i := 53) rfl))) Via.refl e1 P1 (g := (mkF m 7 #[.val (.ref a)] [(.ref a)])) rfl rfl (hb hby own_d20_7)
  have k5 : ∀ t, Steps p.tables e below (T4.setTop (mkF m 10 #[.val (.ref a)] [(.int (0 : Int32))])) t → Steps p.tables e below (s₁.setTop (entryFrame m #[(.ref a)] 1)) t := fun t k => k3 t (st4 t k)
  have k6 : ∀ t, Steps p.tables e below (T4.setTop (mkF m 18 #[.val (.ref a)] [(.int (1 : Int32))])) t → Steps p.tables e below (s₁.setTop (entryFrame m #[(.ref a)] 1)) t := by
    intro t k
    refine k5 t ?_
    show Steps p.tables e below (T4.setTop (mkF m 10 #[.val (.ref a)] [(.int (0 : Int32))])) _
    refine XS.ifNo X4.here hx rfl (hb hby own_d20_10) rfl ((if0 _ _).trans (teq (rfl : (0 : Int32) = (0 : Int32))).2) ?_
    show Steps p.tables e below (T4.setTop (mkF m 13 #[.val (.ref a)] [])) _
    refine XS.iconst X4.here hx rfl (hb hby own_d20_13) ?_
    show Steps p.tables e below (T4.setTop (mkF m 14 #[.val (.ref a)] [(.int (1 : Int32))])) _
    refine XS.goto X4.here hx rfl (pc0 := 14) (pc' := 18) rfl (hb hby own_d20_14) (by decide) (by decide) ?_
    exact k
  obtain ⟨fs, hr, hrun, hended, hW, hsame⟩ := X4.leave (v := (some (.int (1 : Int32)))) (fun h => by rw [Bd.returns] at h; cases h)
  refine ⟨_, _, k6 _ ?_, hrun, hended, _, _, rfl, ?_, ⟨_, rfl⟩, hW, hsame.mono (by decide) (by decide)⟩
  · exact retN X4 hx (t := .boolean) Bd.returns (by simp) (hb hby own_d20_18) hr
  · show own_Qla0 Z a cs h0 n0 _ T4.heap _
    exact ⟨rfl, N0, e4⟩
theorem own_efcd1 (m : MethodId) (x0 : Addr) : entryFrame m #[(.ref x0)] 1 = mkF m 0 #[.val (.ref x0)] [] := by first | (simp [entryFrame, mkF, argsToLocals, Value.category]; done) | rfl
def own_Qcd1 (Z : State) (a : Addr) (cs : Int32) (h0 : Heap) (n0 : Nat) (v : Option Value) (h : Heap) (L : List Loc) : Prop := v = some (.int (1 : Int32)) ∧ Fr n0 L ∧ h = h0
def own_Rcd1 : Room := { frames := 0, cells := 0, slots := 0, locals := 0 }
set_option maxRecDepth 65536 in
set_option maxHeartbeats 40000000 in
theorem own_rmcd1 (l : Launch) (Z : State) (a0 : Array Value) (hw : ∀ d ∈ tables_1, d.before a0 Z = true) (ws : List Jvm.Cond) (a : Addr) (cs : Int32) (h0 : Heap) (n0 : Nat) (Z0 : n0 ≤ h0.size) (P0 : Exa Z h0 a "java/lang/String") (P1 : Fld Z h0 a "java/lang/String" "coder" "B" (.int (1 : Int32))) (Xo : Old Z n0 h0) (SC : Sta Z Z.heap "java/lang/String" "COMPACT_STRINGS" "Z" (.int cs)) (hcs : ¬ (cs = (0 : Int32))) :
    MetFree l (⟨"java/lang/String", "coder", "()B"⟩ : MethodName) (head1 (Jvm.Cond.code (⟨"java/lang/String", "coder", "()B"⟩ : MethodName) jdk_42_method_152_code 1 (some .byte) :: ws) own_Rcd1) (fun aa U => aa = #[(.ref a)] ∧ Z.Warmed39 U.vm ∧ U.heap = h0) (fun _ _ _ _ _ => True) (fun _ U o U' => ∃ v L, o = .returned v ∧ own_Qcd1 Z a cs h0 n0 v U'.heap L ∧ FrameEnd U o U' L own_Rcd1.cells own_Rcd1.slots) := by
  refine MetFree.of_bodySF (plainFor_of_name own_pn1) hisR ?_
  intro p e s m args below meth c s₁ Bd hml0 hP hK
  obtain ⟨rfl, hZ, hh⟩ := hP
  have hx := Bd.exec
  have hby := Bd.bytes
  have hml : c.maxLocals = 1 := hml0
  have hown : s.vm.findClass "java/lang/String" = some m.cls := findClass_of_methodNamed Bd.named
  have hnm := (name_of_methodNamed Bd.named Bd.method).1
  have X0 : Stand p l e own_Rcd1 s m #[(.ref a)] below meth c s₁ [] 0 0 := Stand.of_body Bd
  have e0 : s₁.heap = h0 := by rw [← hh, Bd.state]; rfl
  have N0 := Fr.nil n0
  have pre0 : ∀ t, Steps p.tables e below (s₁.setTop (mkF m 0 #[.val (.ref a)] [])) t → Steps p.tables e below (s₁.setTop (entryFrame m #[(.ref a)] 1)) t := fun t k => castTop (own_efcd1 m a) k
  obtain ⟨T1, X1, e1, st1⟩ := getS2 X0 hx hZ hown (host := "") (Or.inl (hw _ (List.mem_of_getElem? (i := 64) rfl))) Via.refl e0 (SC.ext Xo.2) (g := (mkF m 0 #[.val (.ref a)] [])) rfl (hb hby own_d11_0)
  have k2 : ∀ t, Steps p.tables e below (T1.setTop (mkF m 3 #[.val (.ref a)] [(.int cs)])) t → Steps p.tables e below (s₁.setTop (entryFrame m #[(.ref a)] 1)) t := fun t k => pre0 t (st1 t k)
  have k3 : ∀ t, Steps p.tables e below (T1.setTop (mkF m 7 #[.val (.ref a)] [(.ref a)])) t → Steps p.tables e below (s₁.setTop (entryFrame m #[(.ref a)] 1)) t := by
    intro t k
    refine k2 t ?_
    show Steps p.tables e below (T1.setTop (mkF m 3 #[.val (.ref a)] [(.int cs)])) _
    refine XS.ifNo X1.here hx rfl (hb hby own_d11_3) rfl ((if0 _ _).trans (feq hcs).1) ?_
    show Steps p.tables e below (T1.setTop (mkF m 6 #[.val (.ref a)] [])) _
    refine XS.aloadN X1.here hx rfl (hb hby own_d11_6) rfl rfl ?_
    exact k
  obtain ⟨T4, X4, e4, st4⟩ := getF X1 hx hZ hown (host := "") (Or.inl (hw _ (List.mem_of_getElem? (i := 53) rfl))) Via.refl e1 P1 (g := (mkF m 7 #[.val (.ref a)] [(.ref a)])) rfl rfl (hb hby own_d11_7)
  have k5 : ∀ t, Steps p.tables e below (T4.setTop (mkF m 10 #[.val (.ref a)] [(.int (1 : Int32))])) t → Steps p.tables e below (s₁.setTop (entryFrame m #[(.ref a)] 1)) t := fun t k => k3 t (st4 t k)
  have k6 : ∀ t, Steps p.tables e below (T4.setTop (mkF m 14 #[.val (.ref a)] [(.int (1 : Int32))])) t → Steps p.tables e below (s₁.setTop (entryFrame m #[(.ref a)] 1)) t := by
    intro t k
    refine k5 t ?_
    show Steps p.tables e below (T4.setTop (mkF m 10 #[.val (.ref a)] [(.int (1 : Int32))])) _
    refine XS.goto X4.here hx rfl (pc0 := 10) (pc' := 14) rfl (hb hby own_d11_10) (by decide) (by decide) ?_
    exact k
  obtain ⟨fs, hr, hrun, hended, hW, hsame⟩ := X4.leave (v := (some (.int (1 : Int32)))) (fun h => by rw [Bd.returns] at h; cases h)
  refine ⟨_, _, k6 _ ?_, hrun, hended, _, _, rfl, ?_, ⟨_, rfl⟩, hW, hsame.mono (by decide) (by decide)⟩
  · exact retN X4 hx (t := .byte) Bd.returns (by simp) (hb hby own_d11_14) hr
  · show own_Qcd1 Z a cs h0 n0 _ T4.heap _
    exact ⟨rfl, N0, e4⟩
theorem own_d20_17 : decode jdk_42_method_154_code 17 = .ok (.iconst 0, 1) := by decide +kernel
theorem own_efla1 (m : MethodId) (x0 : Addr) : entryFrame m #[(.ref x0)] 1 = mkF m 0 #[.val (.ref x0)] [] := by first | (simp [entryFrame, mkF, argsToLocals, Value.category]; done) | rfl
def own_Qla1 (Z : State) (a : Addr) (cs : Int32) (h0 : Heap) (n0 : Nat) (v : Option Value) (h : Heap) (L : List Loc) : Prop := v = some (.int (0 : Int32)) ∧ Fr n0 L ∧ h = h0
def own_Rla1 : Room := { frames := 0, cells := 0, slots := 0, locals := 0 }
set_option maxRecDepth 65536 in
set_option maxHeartbeats 40000000 in
theorem own_rmla1 (l : Launch) (Z : State) (a0 : Array Value) (hw : ∀ d ∈ tables_1, d.before a0 Z = true) (ws : List Jvm.Cond) (a : Addr) (cs : Int32) (h0 : Heap) (n0 : Nat) (Z0 : n0 ≤ h0.size) (P0 : Exa Z h0 a "java/lang/String") (P1 : Fld Z h0 a "java/lang/String" "coder" "B" (.int (1 : Int32))) (Xo : Old Z n0 h0) (SC : Sta Z Z.heap "java/lang/String" "COMPACT_STRINGS" "Z" (.int cs)) (hcs : ¬ (cs = (0 : Int32))) :
    MetFree l (⟨"java/lang/String", "isLatin1", "()Z"⟩ : MethodName) (head1 (Jvm.Cond.code (⟨"java/lang/String", "isLatin1", "()Z"⟩ : MethodName) jdk_42_method_154_code 1 (some .boolean) :: ws) own_Rla1) (fun aa U => aa = #[(.ref a)] ∧ Z.Warmed39 U.vm ∧ U.heap = h0) (fun _ _ _ _ _ => True) (fun _ U o U' => ∃ v L, o = .returned v ∧ own_Qla1 Z a cs h0 n0 v U'.heap L ∧ FrameEnd U o U' L own_Rla1.cells own_Rla1.slots) := by
  refine MetFree.of_bodySF (plainFor_of_name own_pn1) hisR ?_
  intro p e s m args below meth c s₁ Bd hml0 hP hK
  obtain ⟨rfl, hZ, hh⟩ := hP
  have hx := Bd.exec
  have hby := Bd.bytes
  have hml : c.maxLocals = 1 := hml0
  have hown : s.vm.findClass "java/lang/String" = some m.cls := findClass_of_methodNamed Bd.named
  have hnm := (name_of_methodNamed Bd.named Bd.method).1
  have X0 : Stand p l e own_Rla1 s m #[(.ref a)] below meth c s₁ [] 0 0 := Stand.of_body Bd
  have e0 : s₁.heap = h0 := by rw [← hh, Bd.state]; rfl
  have N0 := Fr.nil n0
  have pre0 : ∀ t, Steps p.tables e below (s₁.setTop (mkF m 0 #[.val (.ref a)] [])) t → Steps p.tables e below (s₁.setTop (entryFrame m #[(.ref a)] 1)) t := fun t k => castTop (own_efla1 m a) k
  obtain ⟨T1, X1, e1, st1⟩ := getS2 X0 hx hZ hown (host := "") (Or.inl (hw _ (List.mem_of_getElem? (i := 64) rfl))) Via.refl e0 (SC.ext Xo.2) (g := (mkF m 0 #[.val (.ref a)] [])) rfl (hb hby own_d20_0)
  have k2 : ∀ t, Steps p.tables e below (T1.setTop (mkF m 3 #[.val (.ref a)] [(.int cs)])) t → Steps p.tables e below (s₁.setTop (entryFrame m #[(.ref a)] 1)) t := fun t k => pre0 t (st1 t k)
  have k3 : ∀ t, Steps p.tables e below (T1.setTop (mkF m 7 #[.val (.ref a)] [(.ref a)])) t → Steps p.tables e below (s₁.setTop (entryFrame m #[(.ref a)] 1)) t := by
    intro t k
    refine k2 t ?_
    show Steps p.tables e below (T1.setTop (mkF m 3 #[.val (.ref a)] [(.int cs)])) _
    refine XS.ifNo X1.here hx rfl (hb hby own_d20_3) rfl ((if0 _ _).trans (feq hcs).1) ?_
    show Steps p.tables e below (T1.setTop (mkF m 6 #[.val (.ref a)] [])) _
    refine XS.aloadN X1.here hx rfl (hb hby own_d20_6) rfl rfl ?_
    exact k
  obtain ⟨T4, X4, e4, st4⟩ := getF X1 hx hZ hown (host := "") (Or.inl (hw _ (List.mem_of_getElem? (i := 53) rfl))) Via.refl e1 P1 (g := (mkF m 7 #[.val (.ref a)] [(.ref a)])) rfl rfl (hb hby own_d20_7)
  have k5 : ∀ t, Steps p.tables e below (T4.setTop (mkF m 10 #[.val (.ref a)] [(.int (1 : Int32))])) t → Steps p.tables e below (s₁.setTop (entryFrame m #[(.ref a)] 1)) t := fun t k => k3 t (st4 t k)
  have k6 : ∀ t, Steps p.tables e below (T4.setTop (mkF m 18 #[.val (.ref a)] [(.int (0 : Int32))])) t → Steps p.tables e below (s₁.setTop (entryFrame m #[(.ref a)] 1)) t := by
    intro t k
    refine k5 t ?_
    show Steps p.tables e below (T4.setTop (mkF m 10 #[.val (.ref a)] [(.int (1 : Int32))])) _
    refine XS.ifYes X4.here hx rfl (pc0 := 10) (pc' := 17) rfl (hb hby own_d20_10) rfl ((if0 _ _).trans (feq (by decide : ¬ ((1 : Int32) = (0 : Int32)))).2) (by decide) (by decide) ?_
    show Steps p.tables e below (T4.setTop (mkF m 17 #[.val (.ref a)] [])) _
    refine XS.iconst X4.here hx rfl (hb hby own_d20_17) ?_
    exact k
  obtain ⟨fs, hr, hrun, hended, hW, hsame⟩ := X4.leave (v := (some (.int (0 : Int32)))) (fun h => by rw [Bd.returns] at h; cases h)
  refine ⟨_, _, k6 _ ?_, hrun, hended, _, _, rfl, ?_, ⟨_, rfl⟩, hW, hsame.mono (by decide) (by decide)⟩
  · exact retN X4 hx (t := .boolean) Bd.returns (by simp) (hb hby own_d20_18) hr
  · show own_Qla1 Z a cs h0 n0 _ T4.heap _
    exact ⟨rfl, N0, e4⟩
theorem own_le0 {n : Nat} (h : n < 2147483648) : ((Nat.toInt32 n) >>> ((0 : Int32) &&& 31)).toInt = (n : Int) := by
  have q := c_ishr (Nat.toInt32 n) 0 0 (by decide); have r := own_of_nat h; rw [q, r]; omega
theorem own_le1 {n : Nat} (h : 2 * n < 2147483648) : ((Nat.toInt32 (2 * n)) >>> ((1 : Int32) &&& 31)).toInt = (n : Int) := by
  have q := c_ishr (Nat.toInt32 (2 * n)) 1 1 (by decide); have r := own_of_nat h; rw [q, r]; omega
theorem own_d10_0 : decode jdk_42_method_54_code 0 = .ok (.aload_n 0, 1) := by decide +kernel
theorem own_d10_1 : decode jdk_42_method_54_code 1 = .ok (.getfield 9, 3) := by decide +kernel
theorem own_d10_4 : decode jdk_42_method_54_code 4 = .ok (.arraylength, 1) := by decide +kernel
theorem own_d10_5 : decode jdk_42_method_54_code 5 = .ok (.aload_n 0, 1) := by decide +kernel
theorem own_d10_6 : decode jdk_42_method_54_code 6 = .ok (.invokevirtual 335, 3) := by decide +kernel
theorem own_d10_9 : decode jdk_42_method_54_code 9 = .ok (.ishr, 1) := by decide +kernel
theorem own_d10_10 : decode jdk_42_method_54_code 10 = .ok (.ireturn, 1) := by decide +kernel
theorem own_pd7 : parseMethodDescriptor "()B" = some ⟨[], some .byte⟩ := by decide +kernel
theorem own_efle (m : MethodId) (x0 : Addr) : entryFrame m #[(.ref x0)] 1 = mkF m 0 #[.val (.ref x0)] [] := by first | (simp [entryFrame, mkF, argsToLocals, Value.category]; done) | rfl
def own_Qle (Z : State) (a : Addr) (nn : Nat) (oo : Nat) (cf : Nat → Int32) (cs : Int32) (h0 : Heap) (n0 : Nat) (v : Option Value) (h : Heap) (L : List Loc) : Prop := ∃ (r : Int32), v = some (.int r) ∧ Fr n0 L ∧ h = h0 ∧ (r.toInt = (nn : Int))
def own_Rle : Room := { frames := 1, cells := 0, slots := 0, locals := 13 }
set_option maxRecDepth 65536 in
set_option maxHeartbeats 40000000 in
theorem own_rmle (l : Launch) (Z : State) (a0 : Array Value) (hw : ∀ d ∈ tables_1, d.before a0 Z = true) (ws : List Jvm.Cond) (a : Addr) (nn : Nat) (oo : Nat) (cf : Nat → Int32) (cs : Int32) (h0 : Heap) (n0 : Nat) (Z0 : n0 ≤ h0.size) (P0 : Exa Z h0 a "java/lang/String") (P1 : own_Str Z h0 a nn oo cf) (Xo : Old Z n0 h0) (SC : Sta Z Z.heap "java/lang/String" "COMPACT_STRINGS" "Z" (.int cs)) (hcs : ¬ (cs = (0 : Int32))) :
    MetFree l (⟨"java/lang/String", "length", "()I"⟩ : MethodName) (head1 (Jvm.Cond.code (⟨"java/lang/String", "length", "()I"⟩ : MethodName) jdk_42_method_54_code 1 (some .int) :: ws) own_Rle) (fun aa U => aa = #[(.ref a)] ∧ Z.Warmed39 U.vm ∧ U.heap = h0) (fun _ _ _ _ _ => True) (fun _ U o U' => ∃ v L, o = .returned v ∧ own_Qle Z a nn oo cf cs h0 n0 v U'.heap L ∧ FrameEnd U o U' L own_Rle.cells own_Rle.slots) := by
  refine MetFree.of_bodySF (plainFor_of_name own_pn1) hisR ?_
  intro p e s m args below meth c s₁ Bd hml0 hP hK
  obtain ⟨rfl, hZ, hh⟩ := hP
  have hx := Bd.exec
  have hby := Bd.bytes
  have hml : c.maxLocals = 1 := hml0
  have hown : s.vm.findClass "java/lang/String" = some m.cls := findClass_of_methodNamed Bd.named
  have hnm := (name_of_methodNamed Bd.named Bd.method).1
  have X0 : Stand p l e own_Rle s m #[(.ref a)] below meth c s₁ [] 0 0 := Stand.of_body Bd
  have e0 : s₁.heap = h0 := by rw [← hh, Bd.state]; rfl
  have N0 := Fr.nil n0
  have pre0 : ∀ t, Steps p.tables e below (s₁.setTop (mkF m 0 #[.val (.ref a)] [])) t → Steps p.tables e below (s₁.setTop (entryFrame m #[(.ref a)] 1)) t := fun t k => castTop (own_efle m a) k
  obtain ⟨Es, hN, hch, bs, cd, Fv, Fc, hB⟩ := id P1
  rcases hB with ⟨rfl, hall, hGb⟩ | ⟨rfl, hall, hGb⟩
  · skip
    have k1 : ∀ t, Steps p.tables e below (s₁.setTop (mkF m 1 #[.val (.ref a)] [(.ref a)])) t → Steps p.tables e below (s₁.setTop (entryFrame m #[(.ref a)] 1)) t := by
      intro t k
      refine pre0 t ?_
      show Steps p.tables e below (s₁.setTop (mkF m 0 #[.val (.ref a)] [])) _
      refine XS.aloadN X0.here hx rfl (hb hby own_d10_0) rfl rfl ?_
      exact k
    obtain ⟨T2, X2, e2, st2⟩ := getF X0 hx hZ hown (host := "") (Or.inl (hw _ (List.mem_of_getElem? (i := 52) rfl))) Via.refl e0 Fv (g := (mkF m 1 #[.val (.ref a)] [(.ref a)])) rfl rfl (hb hby own_d10_1)
    have k3 : ∀ t, Steps p.tables e below (T2.setTop (mkF m 4 #[.val (.ref a)] [(.ref bs)])) t → Steps p.tables e below (s₁.setTop (entryFrame m #[(.ref a)] 1)) t := fun t k => k1 t (st2 t k)
    have k4 : ∀ t, Steps p.tables e below (T2.setTop (mkF m 6 #[.val (.ref a)] [(.ref a), (.int (Nat.toInt32 nn))])) t → Steps p.tables e below (s₁.setTop (entryFrame m #[(.ref a)] 1)) t := by
      intro t k
      refine k3 t ?_
      show Steps p.tables e below (T2.setTop (mkF m 4 #[.val (.ref a)] [(.ref bs)])) _
      refine own_len X2 hx hZ e2 hGb (g := (mkF m 4 #[.val (.ref a)] [(.ref bs)])) rfl rfl (hb hby own_d10_4) ?_
      show Steps p.tables e below (T2.setTop (mkF m 5 #[.val (.ref a)] [(.int (Nat.toInt32 nn))])) _
      refine XS.aloadN X2.here hx rfl (hb hby own_d10_5) rfl rfl ?_
      exact k
    obtain ⟨cq5, kq5, q5a, q5b, q5c⟩ := isOf hZ e2 P0
    obtain ⟨_, _, ⟨T5, L5, k5c, n5⟩, -, X5, ⟨Lc5, hQ5, l5, y5, z5⟩, st5⟩ := X2.virtualBack hx (y := (⟨"java/lang/String", "coder", "()B"⟩ : MethodName)) (z := (⟨"java/lang/String", "coder", "()B"⟩ : MethodName)) hown (mvT hZ (hw _ (List.mem_of_getElem? (i := 59) rfl))) (mvT hZ (hw _ (List.mem_of_getElem? (i := 60) rfl))) (notFace_of_selects (args := #[]) (mvT hZ (hw _ (List.mem_of_getElem? (i := 62) rfl)))) (mvT hZ (hw _ (List.mem_of_getElem? (i := 62) rfl))) (mvT hZ (hw _ (List.mem_of_getElem? (i := 61) rfl))) (by decide) (backOf (W := 1) (own_rmcd0 l Z a0 hw [] a cs h0 n0 Z0 P0 Fc Xo SC hcs) hZ (hw _ (List.mem_of_getElem? (i := 63) rfl)) (hw _ (List.mem_of_getElem? (i := 26) rfl)) (by decide) (by decide)) q5a q5c (g := (mkF m 6 #[.val (.ref a)] [(.ref a), (.int (Nat.toInt32 nn))])) rfl (by rw [hml]; rfl) (Steps.refl _) (argsL := []) (rest := [(.int (Nat.toInt32 nn))]) (lenOf own_pd7 rfl) rfl (by show 2 * 0 + _ ≤ _; exact Nat.le_of_eq rfl) (hb hby own_d10_6) (fun _ _ => ⟨rfl, e2, (by decide : 0 + 0 ≤ _), (by decide : 0 + 0 ≤ _)⟩)
    dsimp only [Pt.U, Pt.locs, Pt.cells, Pt.slots] at X5 l5 y5 z5 st5 hQ5
    subst l5 y5 z5
    obtain ⟨rfl, N5q, e5⟩ := hQ5
    have N5 := Fr.app N0 N5q
    have k6 : ∀ t, Steps p.tables e below (T5.setTop (mkF m 9 #[.val (.ref a)] [(.int (0 : Int32)), (.int (Nat.toInt32 nn))])) t → Steps p.tables e below (s₁.setTop (entryFrame m #[(.ref a)] 1)) t := fun t k => k4 t (st5.trans k)
    have k7 : ∀ t, Steps p.tables e below (T5.setTop (mkF m 10 #[.val (.ref a)] [(.int ((Nat.toInt32 nn) >>> ((0 : Int32) &&& 31)))])) t → Steps p.tables e below (s₁.setTop (entryFrame m #[(.ref a)] 1)) t := by
      intro t k
      refine k6 t ?_
      show Steps p.tables e below (T5.setTop (mkF m 9 #[.val (.ref a)] [(.int (0 : Int32)), (.int (Nat.toInt32 nn))])) _
      refine XS.ishr X5.here hx rfl (hb hby own_d10_9) rfl ?_
      exact k
    obtain ⟨fs, hr, hrun, hended, hW, hsame⟩ := X5.leave (v := (some (.int ((Nat.toInt32 nn) >>> ((0 : Int32) &&& 31))))) (fun h => by rw [Bd.returns] at h; cases h)
    refine ⟨_, _, k7 _ ?_, hrun, hended, _, _, rfl, ?_, ⟨_, rfl⟩, hW, hsame.mono (by decide) (by decide)⟩
    · exact retI X5 hx Bd.returns (hb hby own_d10_10) hr
    · show own_Qle Z a nn oo cf cs h0 n0 _ T5.heap _
      exact ⟨((Nat.toInt32 nn) >>> ((0 : Int32) &&& 31)), rfl, N5, e5, (own_le0 hGb.small)⟩
  · skip
    have k8 : ∀ t, Steps p.tables e below (s₁.setTop (mkF m 1 #[.val (.ref a)] [(.ref a)])) t → Steps p.tables e below (s₁.setTop (entryFrame m #[(.ref a)] 1)) t := by
      intro t k
      refine pre0 t ?_
      show Steps p.tables e below (s₁.setTop (mkF m 0 #[.val (.ref a)] [])) _
      refine XS.aloadN X0.here hx rfl (hb hby own_d10_0) rfl rfl ?_
      exact k
    obtain ⟨T9, X9, e9, st9⟩ := getF X0 hx hZ hown (host := "") (Or.inl (hw _ (List.mem_of_getElem? (i := 52) rfl))) Via.refl e0 Fv (g := (mkF m 1 #[.val (.ref a)] [(.ref a)])) rfl rfl (hb hby own_d10_1)
    have k10 : ∀ t, Steps p.tables e below (T9.setTop (mkF m 4 #[.val (.ref a)] [(.ref bs)])) t → Steps p.tables e below (s₁.setTop (entryFrame m #[(.ref a)] 1)) t := fun t k => k8 t (st9 t k)
    have k11 : ∀ t, Steps p.tables e below (T9.setTop (mkF m 6 #[.val (.ref a)] [(.ref a), (.int (Nat.toInt32 (2 * nn)))])) t → Steps p.tables e below (s₁.setTop (entryFrame m #[(.ref a)] 1)) t := by
      intro t k
      refine k10 t ?_
      show Steps p.tables e below (T9.setTop (mkF m 4 #[.val (.ref a)] [(.ref bs)])) _
      refine own_len X9 hx hZ e9 hGb (g := (mkF m 4 #[.val (.ref a)] [(.ref bs)])) rfl rfl (hb hby own_d10_4) ?_
      show Steps p.tables e below (T9.setTop (mkF m 5 #[.val (.ref a)] [(.int (Nat.toInt32 (2 * nn)))])) _
      refine XS.aloadN X9.here hx rfl (hb hby own_d10_5) rfl rfl ?_
      exact k
    obtain ⟨cq12, kq12, q12a, q12b, q12c⟩ := isOf hZ e9 P0
    obtain ⟨_, _, ⟨T12, L12, k12c, n12⟩, -, X12, ⟨Lc12, hQ12, l12, y12, z12⟩, st12⟩ := X9.virtualBack hx (y := (⟨"java/lang/String", "coder", "()B"⟩ : MethodName)) (z := (⟨"java/lang/String", "coder", "()B"⟩ : MethodName)) hown (mvT hZ (hw _ (List.mem_of_getElem? (i := 59) rfl))) (mvT hZ (hw _ (List.mem_of_getElem? (i := 60) rfl))) (notFace_of_selects (args := #[]) (mvT hZ (hw _ (List.mem_of_getElem? (i := 62) rfl)))) (mvT hZ (hw _ (List.mem_of_getElem? (i := 62) rfl))) (mvT hZ (hw _ (List.mem_of_getElem? (i := 61) rfl))) (by decide) (backOf (W := 1) (own_rmcd1 l Z a0 hw [] a cs h0 n0 Z0 P0 Fc Xo SC hcs) hZ (hw _ (List.mem_of_getElem? (i := 63) rfl)) (hw _ (List.mem_of_getElem? (i := 26) rfl)) (by decide) (by decide)) q12a q12c (g := (mkF m 6 #[.val (.ref a)] [(.ref a), (.int (Nat.toInt32 (2 * nn)))])) rfl (by rw [hml]; rfl) (Steps.refl _) (argsL := []) (rest := [(.int (Nat.toInt32 (2 * nn)))]) (lenOf own_pd7 rfl) rfl (by show 2 * 0 + _ ≤ _; exact Nat.le_of_eq rfl) (hb hby own_d10_6) (fun _ _ => ⟨rfl, e9, (by decide : 0 + 0 ≤ _), (by decide : 0 + 0 ≤ _)⟩)
    dsimp only [Pt.U, Pt.locs, Pt.cells, Pt.slots] at X12 l12 y12 z12 st12 hQ12
    subst l12 y12 z12
    obtain ⟨rfl, N12q, e12⟩ := hQ12
    have N12 := Fr.app N0 N12q
    have k13 : ∀ t, Steps p.tables e below (T12.setTop (mkF m 9 #[.val (.ref a)] [(.int (1 : Int32)), (.int (Nat.toInt32 (2 * nn)))])) t → Steps p.tables e below (s₁.setTop (entryFrame m #[(.ref a)] 1)) t := fun t k => k11 t (st12.trans k)
    have k14 : ∀ t, Steps p.tables e below (T12.setTop (mkF m 10 #[.val (.ref a)] [(.int ((Nat.toInt32 (2 * nn)) >>> ((1 : Int32) &&& 31)))])) t → Steps p.tables e below (s₁.setTop (entryFrame m #[(.ref a)] 1)) t := by
      intro t k
      refine k13 t ?_
      show Steps p.tables e below (T12.setTop (mkF m 9 #[.val (.ref a)] [(.int (1 : Int32)), (.int (Nat.toInt32 (2 * nn)))])) _
      refine XS.ishr X12.here hx rfl (hb hby own_d10_9) rfl ?_
      exact k
    obtain ⟨fs, hr, hrun, hended, hW, hsame⟩ := X12.leave (v := (some (.int ((Nat.toInt32 (2 * nn)) >>> ((1 : Int32) &&& 31))))) (fun h => by rw [Bd.returns] at h; cases h)
    refine ⟨_, _, k14 _ ?_, hrun, hended, _, _, rfl, ?_, ⟨_, rfl⟩, hW, hsame.mono (by decide) (by decide)⟩
    · exact retI X12 hx Bd.returns (hb hby own_d10_10) hr
    · show own_Qle Z a nn oo cf cs h0 n0 _ T12.heap _
      exact ⟨((Nat.toInt32 (2 * nn)) >>> ((1 : Int32) &&& 31)), rfl, N12, e12, (own_le1 hGb.small)⟩
theorem own_d23_0 : decode jdk_41_method_11_code 0 = .ok (.iload_n 0, 1) := by decide +kernel
theorem own_d23_1 : decode jdk_41_method_11_code 1 = .ok (.ifCond .lt 8, 3) := by decide +kernel
theorem own_d23_4 : decode jdk_41_method_11_code 4 = .ok (.iload_n 0, 1) := by decide +kernel
theorem own_d23_5 : decode jdk_41_method_11_code 5 = .ok (.iload_n 1, 1) := by decide +kernel
theorem own_d23_6 : decode jdk_41_method_11_code 6 = .ok (.if_icmp .lt 10, 3) := by decide +kernel
theorem own_d23_16 : decode jdk_41_method_11_code 16 = .ok (.iload_n 0, 1) := by decide +kernel
theorem own_d23_17 : decode jdk_41_method_11_code 17 = .ok (.ireturn, 1) := by decide +kernel
theorem own_pn2 : plainName "jdk/internal/util/Preconditions" = true := by first | (simp [plainName, overriddenIn]; done) | decide +kernel
theorem own_efck (m : MethodId) (x0 : Int32) (x1 : Int32) (x2 : Value) (hx2 : x2.isRef = true) : entryFrame m #[(.int x0), (.int x1), x2] 3 = mkF m 0 #[.val (.int x0), .val (.int x1), .val x2] [] := by cases x2 <;> first | (simp [entryFrame, mkF, argsToLocals, Value.category]; done) | rfl | (cases hx2; done)
def own_Qck (Z : State) (p1 : Int32) (p2 : Int32) (p3 : Value) (ii : Nat) (nn : Nat) (h0 : Heap) (n0 : Nat) (v : Option Value) (h : Heap) (L : List Loc) : Prop := v = some (.int p1) ∧ Fr n0 L ∧ h = h0
def own_Rck : Room := { frames := 0, cells := 0, slots := 0, locals := 0 }
set_option maxRecDepth 65536 in
set_option maxHeartbeats 40000000 in
theorem own_rmck (l : Launch) (Z : State) (a0 : Array Value) (hw : ∀ d ∈ tables_1, d.before a0 Z = true) (ws : List Jvm.Cond) (p1 : Int32) (p2 : Int32) (p3 : Value) (ii : Nat) (nn : Nat) (h0 : Heap) (n0 : Nat) (Z0 : n0 ≤ h0.size) (hp1 : p1.toInt = (ii : Int)) (hp2 : p2.toInt = (nn : Int)) (hii : ii < nn) (hr_p3 : p3.isRef = true) :
    MetFree l (⟨"jdk/internal/util/Preconditions", "checkIndex", "(IILjava/util/function/BiFunction;)I"⟩ : MethodName) (head1 (Jvm.Cond.code (⟨"jdk/internal/util/Preconditions", "checkIndex", "(IILjava/util/function/BiFunction;)I"⟩ : MethodName) jdk_41_method_11_code 3 (some .int) :: ws) own_Rck) (fun aa U => aa = #[(.int p1), (.int p2), p3] ∧ Z.Warmed39 U.vm ∧ U.heap = h0) (fun _ _ _ _ _ => True) (fun _ U o U' => ∃ v L, o = .returned v ∧ own_Qck Z p1 p2 p3 ii nn h0 n0 v U'.heap L ∧ FrameEnd U o U' L own_Rck.cells own_Rck.slots) := by
  refine MetFree.of_bodySF (plainFor_of_name own_pn2) hisR ?_
  intro p e s m args below meth c s₁ Bd hml0 hP hK
  obtain ⟨rfl, hZ, hh⟩ := hP
  have hx := Bd.exec
  have hby := Bd.bytes
  have hml : c.maxLocals = 3 := hml0
  have hown : s.vm.findClass "jdk/internal/util/Preconditions" = some m.cls := findClass_of_methodNamed Bd.named
  have hnm := (name_of_methodNamed Bd.named Bd.method).1
  have X0 : Stand p l e own_Rck s m #[(.int p1), (.int p2), p3] below meth c s₁ [] 0 0 := Stand.of_body Bd
  have e0 : s₁.heap = h0 := by rw [← hh, Bd.state]; rfl
  have N0 := Fr.nil n0
  have pre0 : ∀ t, Steps p.tables e below (s₁.setTop (mkF m 0 #[.val (.int p1), .val (.int p2), .val p3] [])) t → Steps p.tables e below (s₁.setTop (entryFrame m #[(.int p1), (.int p2), p3] 3)) t := fun t k => castTop (own_efck m p1 p2 p3 hr_p3) k
  have k1 : ∀ t, Steps p.tables e below (s₁.setTop (mkF m 17 #[.val (.int p1), .val (.int p2), .val p3] [(.int p1)])) t → Steps p.tables e below (s₁.setTop (entryFrame m #[(.int p1), (.int p2), p3] 3)) t := by
    intro t k
    refine pre0 t ?_
    show Steps p.tables e below (s₁.setTop (mkF m 0 #[.val (.int p1), .val (.int p2), .val p3] [])) _
    refine XS.iloadN X0.here hx rfl (hb hby own_d23_0) rfl ?_
    show Steps p.tables e below (s₁.setTop (mkF m 1 #[.val (.int p1), .val (.int p2), .val p3] [(.int p1)])) _
    refine XS.ifNo X0.here hx rfl (hb hby own_d23_1) rfl ((if0 _ _).trans (flt (own_nn hp1)).1) ?_
    show Steps p.tables e below (s₁.setTop (mkF m 4 #[.val (.int p1), .val (.int p2), .val p3] [])) _
    refine XS.iloadN X0.here hx rfl (hb hby own_d23_4) rfl ?_
    show Steps p.tables e below (s₁.setTop (mkF m 5 #[.val (.int p1), .val (.int p2), .val p3] [(.int p1)])) _
    refine XS.iloadN X0.here hx rfl (hb hby own_d23_5) rfl ?_
    show Steps p.tables e below (s₁.setTop (mkF m 6 #[.val (.int p1), .val (.int p2), .val p3] [(.int p2), (.int p1)])) _
    refine XS.icmpYes X0.here hx rfl (pc0 := 6) (pc' := 16) rfl (hb hby own_d23_6) rfl (tlt (own_lt hp1 hp2 hii)).1 (by decide) (by decide) ?_
    show Steps p.tables e below (s₁.setTop (mkF m 16 #[.val (.int p1), .val (.int p2), .val p3] [])) _
    refine XS.iloadN X0.here hx rfl (hb hby own_d23_16) rfl ?_
    exact k
  obtain ⟨fs, hr, hrun, hended, hW, hsame⟩ := X0.leave (v := (some (.int p1))) (fun h => by rw [Bd.returns] at h; cases h)
  refine ⟨_, _, k1 _ ?_, hrun, hended, _, _, rfl, ?_, ⟨_, rfl⟩, hW, hsame.mono (by decide) (by decide)⟩
  · exact retI X0 hx Bd.returns (hb hby own_d23_17) hr
  · show own_Qck Z p1 p2 p3 ii nn h0 n0 _ s₁.heap _
    exact ⟨rfl, N0, e0⟩
theorem own_d22_0 : decode jdk_42_method_155_code 0 = .ok (.iload_n 0, 1) := by decide +kernel
theorem own_d22_1 : decode jdk_42_method_155_code 1 = .ok (.iload_n 1, 1) := by decide +kernel
theorem own_d22_2 : decode jdk_42_method_155_code 2 = .ok (.getstatic 1053, 3) := by decide +kernel
theorem own_d22_5 : decode jdk_42_method_155_code 5 = .ok (.invokestatic 1059, 3) := by decide +kernel
theorem own_d22_8 : decode jdk_42_method_155_code 8 = .ok (.pop, 1) := by decide +kernel
theorem own_d22_9 : decode jdk_42_method_155_code 9 = .ok (.return_, 1) := by decide +kernel
theorem own_pd8 : parseMethodDescriptor "(IILjava/util/function/BiFunction;)I" = some ⟨[.int, .int, (.object "java/util/function/BiFunction")], some .int⟩ := by decide +kernel
theorem own_efcx (m : MethodId) (x0 : Int32) (x1 : Int32) : entryFrame m #[(.int x0), (.int x1)] 2 = mkF m 0 #[.val (.int x0), .val (.int x1)] [] := by first | (simp [entryFrame, mkF, argsToLocals, Value.category]; done) | rfl
def own_Qcx (Z : State) (p1 : Int32) (p2 : Int32) (ii : Nat) (nn : Nat) (fm : Value) (h0 : Heap) (n0 : Nat) (v : Option Value) (h : Heap) (L : List Loc) : Prop := v = none ∧ Fr n0 L ∧ h = h0
def own_Rcx : Room := { frames := 1, cells := 0, slots := 0, locals := 14 }
set_option maxRecDepth 65536 in
set_option maxHeartbeats 40000000 in
theorem own_rmcx (l : Launch) (Z : State) (a0 : Array Value) (hw : ∀ d ∈ tables_1, d.before a0 Z = true) (ws : List Jvm.Cond) (p1 : Int32) (p2 : Int32) (ii : Nat) (nn : Nat) (fm : Value) (h0 : Heap) (n0 : Nat) (Z0 : n0 ≤ h0.size) (Xo : Old Z n0 h0) (hp1 : p1.toInt = (ii : Int)) (hp2 : p2.toInt = (nn : Int)) (SF : Sta Z Z.heap "jdk/internal/util/Preconditions" "SIOOBE_FORMATTER" "Ljava/util/function/BiFunction;" fm) (hfm : fm.isRef = true) (hii : ii < nn) :
    MetFree l (⟨"java/lang/String", "checkIndex", "(II)V"⟩ : MethodName) (head1 (Jvm.Cond.code (⟨"java/lang/String", "checkIndex", "(II)V"⟩ : MethodName) jdk_42_method_155_code 2 none :: ws) own_Rcx) (fun aa U => aa = #[(.int p1), (.int p2)] ∧ Z.Warmed39 U.vm ∧ U.heap = h0) (fun _ _ _ _ _ => True) (fun _ U o U' => ∃ v L, o = .returned v ∧ own_Qcx Z p1 p2 ii nn fm h0 n0 v U'.heap L ∧ FrameEnd U o U' L own_Rcx.cells own_Rcx.slots) := by
  refine MetFree.of_bodySF (plainFor_of_name own_pn1) hisR ?_
  intro p e s m args below meth c s₁ Bd hml0 hP hK
  obtain ⟨rfl, hZ, hh⟩ := hP
  have hx := Bd.exec
  have hby := Bd.bytes
  have hml : c.maxLocals = 2 := hml0
  have hown : s.vm.findClass "java/lang/String" = some m.cls := findClass_of_methodNamed Bd.named
  have hnm := (name_of_methodNamed Bd.named Bd.method).1
  have X0 : Stand p l e own_Rcx s m #[(.int p1), (.int p2)] below meth c s₁ [] 0 0 := Stand.of_body Bd
  have e0 : s₁.heap = h0 := by rw [← hh, Bd.state]; rfl
  have N0 := Fr.nil n0
  have pre0 : ∀ t, Steps p.tables e below (s₁.setTop (mkF m 0 #[.val (.int p1), .val (.int p2)] [])) t → Steps p.tables e below (s₁.setTop (entryFrame m #[(.int p1), (.int p2)] 2)) t := fun t k => castTop (own_efcx m p1 p2) k
  have k1 : ∀ t, Steps p.tables e below (s₁.setTop (mkF m 2 #[.val (.int p1), .val (.int p2)] [(.int p2), (.int p1)])) t → Steps p.tables e below (s₁.setTop (entryFrame m #[(.int p1), (.int p2)] 2)) t := by
    intro t k
    refine pre0 t ?_
    show Steps p.tables e below (s₁.setTop (mkF m 0 #[.val (.int p1), .val (.int p2)] [])) _
    refine XS.iloadN X0.here hx rfl (hb hby own_d22_0) rfl ?_
    show Steps p.tables e below (s₁.setTop (mkF m 1 #[.val (.int p1), .val (.int p2)] [(.int p1)])) _
    refine XS.iloadN X0.here hx rfl (hb hby own_d22_1) rfl ?_
    exact k
  obtain ⟨T2, X2, e2, st2⟩ := getS2 X0 hx hZ hown (host := "") (Or.inl (hw _ (List.mem_of_getElem? (i := 36) rfl))) Via.refl e0 (SF.ext Xo.2) (g := (mkF m 2 #[.val (.int p1), .val (.int p2)] [(.int p2), (.int p1)])) rfl (hb hby own_d22_2)
  have k3 : ∀ t, Steps p.tables e below (T2.setTop (mkF m 5 #[.val (.int p1), .val (.int p2)] [fm, (.int p2), (.int p1)])) t → Steps p.tables e below (s₁.setTop (entryFrame m #[(.int p1), (.int p2)] 2)) t := fun t k => k1 t (st2 t k)
  obtain ⟨_, _, ⟨T4, L4, k4c, n4⟩, -, X4, ⟨Lc4, hQ4, l4, y4, z4⟩, st4⟩ := Jvm.LawKit.callS X2 hx (y := (⟨"jdk/internal/util/Preconditions", "checkIndex", "(IILjava/util/function/BiFunction;)I"⟩ : MethodName)) hown (mvT hZ (hw _ (List.mem_of_getElem? (i := 110) rfl))) (mvT hZ (hw _ (List.mem_of_getElem? (i := 111) rfl))) (mvT hZ (hw _ (List.mem_of_getElem? (i := 37) rfl))) (mvT hZ (hw _ (List.mem_of_getElem? (i := 112) rfl))) (by decide) (backOf (W := 0) (own_rmck l Z a0 hw [] p1 p2 fm ii nn h0 n0 Z0 hp1 hp2 (by omega) hfm) hZ (hw _ (List.mem_of_getElem? (i := 112) rfl)) (hw _ (List.mem_of_getElem? (i := 37) rfl)) (by decide) (by decide)) (g := (mkF m 5 #[.val (.int p1), .val (.int p2)] [fm, (.int p2), (.int p1)])) rfl (by rw [hml]; rfl) (argsL := [(.int p1), (.int p2), fm]) (rest := []) (lenOf own_pd8 rfl) rfl (by show 2 * 0 + _ ≤ _; exact Nat.le_of_eq rfl) (hb hby own_d22_5) (fun _ _ => ⟨rfl, e2, (by decide : 0 + 0 ≤ _), (by decide : 0 + 0 ≤ _)⟩)
  dsimp only [Pt.U, Pt.locs, Pt.cells, Pt.slots] at X4 l4 y4 z4 st4 hQ4
  subst l4 y4 z4
  obtain ⟨rfl, N4q, e4⟩ := hQ4
  have N4 := Fr.app N0 N4q
  have k5 : ∀ t, Steps p.tables e below (T4.setTop (mkF m 8 #[.val (.int p1), .val (.int p2)] [(.int p1)])) t → Steps p.tables e below (s₁.setTop (entryFrame m #[(.int p1), (.int p2)] 2)) t := fun t k => k3 t (st4 t k)
  have k6 : ∀ t, Steps p.tables e below (T4.setTop (mkF m 9 #[.val (.int p1), .val (.int p2)] [])) t → Steps p.tables e below (s₁.setTop (entryFrame m #[(.int p1), (.int p2)] 2)) t := by
    intro t k
    refine k5 t ?_
    show Steps p.tables e below (T4.setTop (mkF m 8 #[.val (.int p1), .val (.int p2)] [(.int p1)])) _
    refine XS.pop X4.here hx rfl (hb hby own_d22_8) rfl rfl ?_
    exact k
  obtain ⟨fs, hr, hrun, hended, hW, hsame⟩ := X4.leave (v := none) (fun _ => rfl)
  refine ⟨_, _, k6 _ ?_, hrun, hended, _, _, rfl, ?_, ⟨_, rfl⟩, hW, hsame.mono (by decide) (by decide)⟩
  · exact X4.returnOut hx Bd.returns (hb hby own_d22_9) hr
  · show own_Qcx Z p1 p2 ii nn fm h0 n0 _ T4.heap _
    exact ⟨rfl, N4, e4⟩
theorem own_d31_0 : decode jdk_52_method_6_code 0 = .ok (.aload_n 0, 1) := by decide +kernel
theorem own_d31_1 : decode jdk_52_method_6_code 1 = .ok (.arraylength, 1) := by decide +kernel
theorem own_d31_2 : decode jdk_52_method_6_code 2 = .ok (.iconst 1, 1) := by decide +kernel
theorem own_d31_3 : decode jdk_52_method_6_code 3 = .ok (.ishr, 1) := by decide +kernel
theorem own_d31_4 : decode jdk_52_method_6_code 4 = .ok (.ireturn, 1) := by decide +kernel
theorem own_eful (m : MethodId) (x0 : Addr) : entryFrame m #[(.ref x0)] 1 = mkF m 0 #[.val (.ref x0)] [] := by first | (simp [entryFrame, mkF, argsToLocals, Value.category]; done) | rfl
def own_Qul (Z : State) (p1 : Addr) (bf : Nat → Int32) (nn : Nat) (h0 : Heap) (n0 : Nat) (v : Option Value) (h : Heap) (L : List Loc) : Prop := ∃ (r : Int32), v = some (.int r) ∧ Fr n0 L ∧ h = h0 ∧ (r.toInt = (nn : Int))
def own_Rul : Room := { frames := 0, cells := 0, slots := 0, locals := 0 }
set_option maxRecDepth 65536 in
set_option maxHeartbeats 40000000 in
theorem own_rmul (l : Launch) (Z : State) (a0 : Array Value) (hw : ∀ d ∈ tables_1, d.before a0 Z = true) (ws : List Jvm.Cond) (p1 : Addr) (bf : Nat → Int32) (nn : Nat) (h0 : Heap) (n0 : Nat) (Z0 : n0 ≤ h0.size) (P0 : own_G Z h0 p1 .byte (2 * nn) bf) :
    MetFree l (⟨"java/lang/StringUTF16", "length", "([B)I"⟩ : MethodName) (head1 (Jvm.Cond.code (⟨"java/lang/StringUTF16", "length", "([B)I"⟩ : MethodName) jdk_52_method_6_code 1 (some .int) :: ws) own_Rul) (fun aa U => aa = #[(.ref p1)] ∧ Z.Warmed39 U.vm ∧ U.heap = h0) (fun _ _ _ _ _ => True) (fun _ U o U' => ∃ v L, o = .returned v ∧ own_Qul Z p1 bf nn h0 n0 v U'.heap L ∧ FrameEnd U o U' L own_Rul.cells own_Rul.slots) := by
  refine MetFree.of_bodySF (plainFor_of_name own_pn0) hisR ?_
  intro p e s m args below meth c s₁ Bd hml0 hP hK
  obtain ⟨rfl, hZ, hh⟩ := hP
  have hx := Bd.exec
  have hby := Bd.bytes
  have hml : c.maxLocals = 1 := hml0
  have hown : s.vm.findClass "java/lang/StringUTF16" = some m.cls := findClass_of_methodNamed Bd.named
  have hnm := (name_of_methodNamed Bd.named Bd.method).1
  have X0 : Stand p l e own_Rul s m #[(.ref p1)] below meth c s₁ [] 0 0 := Stand.of_body Bd
  have e0 : s₁.heap = h0 := by rw [← hh, Bd.state]; rfl
  have N0 := Fr.nil n0
  have pre0 : ∀ t, Steps p.tables e below (s₁.setTop (mkF m 0 #[.val (.ref p1)] [])) t → Steps p.tables e below (s₁.setTop (entryFrame m #[(.ref p1)] 1)) t := fun t k => castTop (own_eful m p1) k
  have k1 : ∀ t, Steps p.tables e below (s₁.setTop (mkF m 4 #[.val (.ref p1)] [(.int ((Nat.toInt32 (2 * nn)) >>> ((1 : Int32) &&& 31)))])) t → Steps p.tables e below (s₁.setTop (entryFrame m #[(.ref p1)] 1)) t := by
    intro t k
    refine pre0 t ?_
    show Steps p.tables e below (s₁.setTop (mkF m 0 #[.val (.ref p1)] [])) _
    refine XS.aloadN X0.here hx rfl (hb hby own_d31_0) rfl rfl ?_
    show Steps p.tables e below (s₁.setTop (mkF m 1 #[.val (.ref p1)] [(.ref p1)])) _
    refine own_len X0 hx hZ e0 P0 (g := (mkF m 1 #[.val (.ref p1)] [(.ref p1)])) rfl rfl (hb hby own_d31_1) ?_
    show Steps p.tables e below (s₁.setTop (mkF m 2 #[.val (.ref p1)] [(.int (Nat.toInt32 (2 * nn)))])) _
    refine XS.iconst X0.here hx rfl (hb hby own_d31_2) ?_
    show Steps p.tables e below (s₁.setTop (mkF m 3 #[.val (.ref p1)] [(.int (1 : Int32)), (.int (Nat.toInt32 (2 * nn)))])) _
    refine XS.ishr X0.here hx rfl (hb hby own_d31_3) rfl ?_
    exact k
  obtain ⟨fs, hr, hrun, hended, hW, hsame⟩ := X0.leave (v := (some (.int ((Nat.toInt32 (2 * nn)) >>> ((1 : Int32) &&& 31))))) (fun h => by rw [Bd.returns] at h; cases h)
  refine ⟨_, _, k1 _ ?_, hrun, hended, _, _, rfl, ?_, ⟨_, rfl⟩, hW, hsame.mono (by decide) (by decide)⟩
  · exact retI X0 hx Bd.returns (hb hby own_d31_4) hr
  · show own_Qul Z p1 bf nn h0 n0 _ s₁.heap _
    exact ⟨((Nat.toInt32 (2 * nn)) >>> ((1 : Int32) &&& 31)), rfl, N0, e0, (own_le1 P0.small)⟩
theorem own_d30_0 : decode jdk_52_method_91_code 0 = .ok (.iload_n 0, 1) := by decide +kernel
theorem own_d30_1 : decode jdk_52_method_91_code 1 = .ok (.aload_n 1, 1) := by decide +kernel
theorem own_d30_2 : decode jdk_52_method_91_code 2 = .ok (.invokestatic 48, 3) := by decide +kernel
theorem own_d30_5 : decode jdk_52_method_91_code 5 = .ok (.invokestatic 414, 3) := by decide +kernel
theorem own_d30_8 : decode jdk_52_method_91_code 8 = .ok (.return_, 1) := by decide +kernel
theorem own_pd9 : parseMethodDescriptor "([B)I" = some ⟨[(.array .byte)], some .int⟩ := by decide +kernel
theorem own_pd10 : parseMethodDescriptor "(II)V" = some ⟨[.int, .int], none⟩ := by decide +kernel
theorem own_efcu (m : MethodId) (x0 : Int32) (x1 : Addr) : entryFrame m #[(.int x0), (.ref x1)] 2 = mkF m 0 #[.val (.int x0), .val (.ref x1)] [] := by first | (simp [entryFrame, mkF, argsToLocals, Value.category]; done) | rfl
def own_Qcu (Z : State) (p1 : Int32) (p2 : Addr) (bf : Nat → Int32) (ii : Nat) (nn : Nat) (fm : Value) (h0 : Heap) (n0 : Nat) (v : Option Value) (h : Heap) (L : List Loc) : Prop := v = none ∧ Fr n0 L ∧ h = h0
def own_Rcu : Room := { frames := 2, cells := 0, slots := 0, locals := 27 }
set_option maxRecDepth 65536 in
set_option maxHeartbeats 40000000 in
theorem own_rmcu (l : Launch) (Z : State) (a0 : Array Value) (hw : ∀ d ∈ tables_1, d.before a0 Z = true) (ws : List Jvm.Cond) (p1 : Int32) (p2 : Addr) (bf : Nat → Int32) (ii : Nat) (nn : Nat) (fm : Value) (h0 : Heap) (n0 : Nat) (Z0 : n0 ≤ h0.size) (P0 : own_G Z h0 p2 .byte (2 * nn) bf) (Xo : Old Z n0 h0) (hp1 : p1.toInt = (ii : Int)) (SF : Sta Z Z.heap "jdk/internal/util/Preconditions" "SIOOBE_FORMATTER" "Ljava/util/function/BiFunction;" fm) (hfm : fm.isRef = true) (hii : ii < nn) :
    MetFree l (⟨"java/lang/StringUTF16", "checkIndex", "(I[B)V"⟩ : MethodName) (head1 (Jvm.Cond.code (⟨"java/lang/StringUTF16", "checkIndex", "(I[B)V"⟩ : MethodName) jdk_52_method_91_code 2 none :: ws) own_Rcu) (fun aa U => aa = #[(.int p1), (.ref p2)] ∧ Z.Warmed39 U.vm ∧ U.heap = h0) (fun _ _ _ _ _ => True) (fun _ U o U' => ∃ v L, o = .returned v ∧ own_Qcu Z p1 p2 bf ii nn fm h0 n0 v U'.heap L ∧ FrameEnd U o U' L own_Rcu.cells own_Rcu.slots) := by
  refine MetFree.of_bodySF (plainFor_of_name own_pn0) hisR ?_
  intro p e s m args below meth c s₁ Bd hml0 hP hK
  obtain ⟨rfl, hZ, hh⟩ := hP
  have hx := Bd.exec
  have hby := Bd.bytes
  have hml : c.maxLocals = 2 := hml0
  have hown : s.vm.findClass "java/lang/StringUTF16" = some m.cls := findClass_of_methodNamed Bd.named
  have hnm := (name_of_methodNamed Bd.named Bd.method).1
  have X0 : Stand p l e own_Rcu s m #[(.int p1), (.ref p2)] below meth c s₁ [] 0 0 := Stand.of_body Bd
  have e0 : s₁.heap = h0 := by rw [← hh, Bd.state]; rfl
  have N0 := Fr.nil n0
  have pre0 : ∀ t, Steps p.tables e below (s₁.setTop (mkF m 0 #[.val (.int p1), .val (.ref p2)] [])) t → Steps p.tables e below (s₁.setTop (entryFrame m #[(.int p1), (.ref p2)] 2)) t := fun t k => castTop (own_efcu m p1 p2) k
  have k1 : ∀ t, Steps p.tables e below (s₁.setTop (mkF m 2 #[.val (.int p1), .val (.ref p2)] [(.ref p2), (.int p1)])) t → Steps p.tables e below (s₁.setTop (entryFrame m #[(.int p1), (.ref p2)] 2)) t := by
    intro t k
    refine pre0 t ?_
    show Steps p.tables e below (s₁.setTop (mkF m 0 #[.val (.int p1), .val (.ref p2)] [])) _
    refine XS.iloadN X0.here hx rfl (hb hby own_d30_0) rfl ?_
    show Steps p.tables e below (s₁.setTop (mkF m 1 #[.val (.int p1), .val (.ref p2)] [(.int p1)])) _
    refine XS.aloadN X0.here hx rfl (hb hby own_d30_1) rfl rfl ?_
    exact k
  obtain ⟨_, _, ⟨T2, L2, k2c, n2⟩, -, X2, ⟨Lc2, hQ2, l2, y2, z2⟩, st2⟩ := Jvm.LawKit.callS X0 hx (y := (⟨"java/lang/StringUTF16", "length", "([B)I"⟩ : MethodName)) hown (mvT hZ (hw _ (List.mem_of_getElem? (i := 138) rfl))) (mvT hZ (hw _ (List.mem_of_getElem? (i := 139) rfl))) (mvT hZ (hw _ (List.mem_of_getElem? (i := 85) rfl))) (mvT hZ (hw _ (List.mem_of_getElem? (i := 140) rfl))) (by decide) (backOf (W := 1) (own_rmul l Z a0 hw [] p2 bf nn h0 n0 Z0 P0) hZ (hw _ (List.mem_of_getElem? (i := 140) rfl)) (hw _ (List.mem_of_getElem? (i := 85) rfl)) (by decide) (by decide)) (g := (mkF m 2 #[.val (.int p1), .val (.ref p2)] [(.ref p2), (.int p1)])) rfl (by rw [hml]; rfl) (argsL := [(.ref p2)]) (rest := [(.int p1)]) (lenOf own_pd9 rfl) rfl (by show 2 * 0 + _ ≤ _; exact Nat.le_of_eq rfl) (hb hby own_d30_2) (fun _ _ => ⟨rfl, e0, (by decide : 0 + 0 ≤ _), (by decide : 0 + 0 ≤ _)⟩)
  dsimp only [Pt.U, Pt.locs, Pt.cells, Pt.slots] at X2 l2 y2 z2 st2 hQ2
  subst l2 y2 z2
  obtain ⟨r_2, rfl, N2q, e2, hq2_hr⟩ := hQ2
  have N2 := Fr.app N0 N2q
  have k3 : ∀ t, Steps p.tables e below (T2.setTop (mkF m 5 #[.val (.int p1), .val (.ref p2)] [(.int r_2), (.int p1)])) t → Steps p.tables e below (s₁.setTop (entryFrame m #[(.int p1), (.ref p2)] 2)) t := fun t k => k1 t (st2 t k)
  obtain ⟨_, _, ⟨T4, L4, k4c, n4⟩, -, X4, ⟨Lc4, hQ4, l4, y4, z4⟩, st4⟩ := Jvm.LawKit.callS X2 hx (y := (⟨"java/lang/String", "checkIndex", "(II)V"⟩ : MethodName)) hown (mvT hZ (hw _ (List.mem_of_getElem? (i := 141) rfl))) (mvT hZ (hw _ (List.mem_of_getElem? (i := 108) rfl))) (mvT hZ (hw _ (List.mem_of_getElem? (i := 26) rfl))) (mvT hZ (hw _ (List.mem_of_getElem? (i := 109) rfl))) (by decide) (backOf (W := 0) (own_rmcx l Z a0 hw [] p1 r_2 ii nn fm h0 n0 Z0 Xo hp1 hq2_hr SF hfm (by omega)) hZ (hw _ (List.mem_of_getElem? (i := 109) rfl)) (hw _ (List.mem_of_getElem? (i := 26) rfl)) (by decide) (by decide)) (g := (mkF m 5 #[.val (.int p1), .val (.ref p2)] [(.int r_2), (.int p1)])) rfl (by rw [hml]; rfl) (argsL := [(.int p1), (.int r_2)]) (rest := []) (lenOf own_pd10 rfl) rfl (by show 2 * 0 + _ ≤ _; exact Nat.le_of_eq rfl) (hb hby own_d30_5) (fun _ _ => ⟨rfl, e2, (by decide : 0 + 0 ≤ _), (by decide : 0 + 0 ≤ _)⟩)
  dsimp only [Pt.U, Pt.locs, Pt.cells, Pt.slots] at X4 l4 y4 z4 st4 hQ4
  subst l4 y4 z4
  obtain ⟨rfl, N4q, e4⟩ := hQ4
  have N4 := Fr.app N2 N4q
  have k5 : ∀ t, Steps p.tables e below (T4.setTop (mkF m 8 #[.val (.int p1), .val (.ref p2)] [])) t → Steps p.tables e below (s₁.setTop (entryFrame m #[(.int p1), (.ref p2)] 2)) t := fun t k => k3 t (st4 t k)
  obtain ⟨fs, hr, hrun, hended, hW, hsame⟩ := X4.leave (v := none) (fun _ => rfl)
  refine ⟨_, _, k5 _ ?_, hrun, hended, _, _, rfl, ?_, ⟨_, rfl⟩, hW, hsame.mono (by decide) (by decide)⟩
  · exact X4.returnOut hx Bd.returns (hb hby own_d30_8) hr
  · show own_Qcu Z p1 p2 bf ii nn fm h0 n0 _ T4.heap _
    exact ⟨rfl, N4, e4⟩
theorem own_nch {v : Int32} (h : own_ch v) : nar .char v = v := by
  unfold own_ch at h
  have q := c_i2c v
  apply Int32.toInt_inj.mp
  have e : (nar .char v).toInt = (v.toUInt32.toUInt16.toUInt32.toInt32).toInt := rfl
  omega
theorem own_l1 {v : Int32} (h : own_ch v) (h2 : ¬ ((255 : Int32) < v)) : nar .char (((nar .byte (v.toInt8.toInt32)) &&& (255 : Int32)).toUInt32.toUInt16.toUInt32.toInt32) = v := by
  have q := own_byte v
  rw [Int32.lt_iff_toInt_lt] at h2
  have e : (255 : Int32).toInt = 255 := rfl
  unfold own_ch at h
  have z : (nar .byte (v.toInt8.toInt32) &&& (255 : Int32)) = v := Int32.toInt_inj.mp (by rw [q]; omega)
  rw [z]
  have q2 := c_i2c v
  have z2 : v.toUInt32.toUInt16.toUInt32.toInt32 = v := Int32.toInt_inj.mp (by omega)
  rw [z2]; exact own_nch h
theorem own_d21_0 : decode jdk_43_method_2_code 0 = .ok (.iload_n 1, 1) := by decide +kernel
theorem own_d21_1 : decode jdk_43_method_2_code 1 = .ok (.aload_n 0, 1) := by decide +kernel
theorem own_d21_2 : decode jdk_43_method_2_code 2 = .ok (.arraylength, 1) := by decide +kernel
theorem own_d21_3 : decode jdk_43_method_2_code 3 = .ok (.invokestatic 9, 3) := by decide +kernel
theorem own_d21_6 : decode jdk_43_method_2_code 6 = .ok (.aload_n 0, 1) := by decide +kernel
theorem own_d21_7 : decode jdk_43_method_2_code 7 = .ok (.iload_n 1, 1) := by decide +kernel
theorem own_d21_8 : decode jdk_43_method_2_code 8 = .ok (.baload, 1) := by decide +kernel
theorem own_d21_9 : decode jdk_43_method_2_code 9 = .ok (.sipush 255, 3) := by decide +kernel
theorem own_d21_12 : decode jdk_43_method_2_code 12 = .ok (.iand, 1) := by decide +kernel
theorem own_d21_13 : decode jdk_43_method_2_code 13 = .ok (.i2c, 1) := by decide +kernel
theorem own_d21_14 : decode jdk_43_method_2_code 14 = .ok (.ireturn, 1) := by decide +kernel
theorem own_pn3 : plainName "java/lang/StringLatin1" = true := by first | (simp [plainName, overriddenIn]; done) | decide +kernel
theorem own_eflc (m : MethodId) (x0 : Addr) (x1 : Int32) : entryFrame m #[(.ref x0), (.int x1)] 2 = mkF m 0 #[.val (.ref x0), .val (.int x1)] [] := by first | (simp [entryFrame, mkF, argsToLocals, Value.category]; done) | rfl
def own_Qlc (Z : State) (p1 : Addr) (p2 : Int32) (nn : Nat) (oo : Nat) (cf : Nat → Int32) (ii : Nat) (fm : Value) (h0 : Heap) (n0 : Nat) (v : Option Value) (h : Heap) (L : List Loc) : Prop := v = some (.int (cf (oo + ii))) ∧ Fr n0 L ∧ h = h0
def own_Rlc : Room := { frames := 2, cells := 0, slots := 0, locals := 27 }
set_option maxRecDepth 65536 in
set_option maxHeartbeats 40000000 in
theorem own_rmlc (l : Launch) (Z : State) (a0 : Array Value) (hw : ∀ d ∈ tables_1, d.before a0 Z = true) (ws : List Jvm.Cond) (p1 : Addr) (p2 : Int32) (nn : Nat) (oo : Nat) (cf : Nat → Int32) (ii : Nat) (fm : Value) (h0 : Heap) (n0 : Nat) (Z0 : n0 ≤ h0.size) (P0 : own_G Z h0 p1 .byte nn (own_b8 cf oo)) (Xo : Old Z n0 h0) (hp2 : p2.toInt = (ii : Int)) (SF : Sta Z Z.heap "jdk/internal/util/Preconditions" "SIOOBE_FORMATTER" "Ljava/util/function/BiFunction;" fm) (hfm : fm.isRef = true) (hii : ii < nn) (hcv : own_ch (cf (oo + ii))) (hle : ¬ ((255 : Int32) < cf (oo + ii))) :
    MetFree l (⟨"java/lang/StringLatin1", "charAt", "([BI)C"⟩ : MethodName) (head1 (Jvm.Cond.code (⟨"java/lang/StringLatin1", "charAt", "([BI)C"⟩ : MethodName) jdk_43_method_2_code 2 (some .char) :: ws) own_Rlc) (fun aa U => aa = #[(.ref p1), (.int p2)] ∧ Z.Warmed39 U.vm ∧ U.heap = h0) (fun _ _ _ _ _ => True) (fun _ U o U' => ∃ v L, o = .returned v ∧ own_Qlc Z p1 p2 nn oo cf ii fm h0 n0 v U'.heap L ∧ FrameEnd U o U' L own_Rlc.cells own_Rlc.slots) := by
  refine MetFree.of_bodySF (plainFor_of_name own_pn3) hisR ?_
  intro p e s m args below meth c s₁ Bd hml0 hP hK
  obtain ⟨rfl, hZ, hh⟩ := hP
  have hx := Bd.exec
  have hby := Bd.bytes
  have hml : c.maxLocals = 2 := hml0
  have hown : s.vm.findClass "java/lang/StringLatin1" = some m.cls := findClass_of_methodNamed Bd.named
  have hnm := (name_of_methodNamed Bd.named Bd.method).1
  have X0 : Stand p l e own_Rlc s m #[(.ref p1), (.int p2)] below meth c s₁ [] 0 0 := Stand.of_body Bd
  have e0 : s₁.heap = h0 := by rw [← hh, Bd.state]; rfl
  have N0 := Fr.nil n0
  have pre0 : ∀ t, Steps p.tables e below (s₁.setTop (mkF m 0 #[.val (.ref p1), .val (.int p2)] [])) t → Steps p.tables e below (s₁.setTop (entryFrame m #[(.ref p1), (.int p2)] 2)) t := fun t k => castTop (own_eflc m p1 p2) k
  have k1 : ∀ t, Steps p.tables e below (s₁.setTop (mkF m 3 #[.val (.ref p1), .val (.int p2)] [(.int (Nat.toInt32 nn)), (.int p2)])) t → Steps p.tables e below (s₁.setTop (entryFrame m #[(.ref p1), (.int p2)] 2)) t := by
    intro t k
    refine pre0 t ?_
    show Steps p.tables e below (s₁.setTop (mkF m 0 #[.val (.ref p1), .val (.int p2)] [])) _
    refine XS.iloadN X0.here hx rfl (hb hby own_d21_0) rfl ?_
    show Steps p.tables e below (s₁.setTop (mkF m 1 #[.val (.ref p1), .val (.int p2)] [(.int p2)])) _
    refine XS.aloadN X0.here hx rfl (hb hby own_d21_1) rfl rfl ?_
    show Steps p.tables e below (s₁.setTop (mkF m 2 #[.val (.ref p1), .val (.int p2)] [(.ref p1), (.int p2)])) _
    refine own_len X0 hx hZ e0 P0 (g := (mkF m 2 #[.val (.ref p1), .val (.int p2)] [(.ref p1), (.int p2)])) rfl rfl (hb hby own_d21_2) ?_
    exact k
  obtain ⟨_, _, ⟨T2, L2, k2c, n2⟩, -, X2, ⟨Lc2, hQ2, l2, y2, z2⟩, st2⟩ := Jvm.LawKit.callS X0 hx (y := (⟨"java/lang/String", "checkIndex", "(II)V"⟩ : MethodName)) hown (mvT hZ (hw _ (List.mem_of_getElem? (i := 107) rfl))) (mvT hZ (hw _ (List.mem_of_getElem? (i := 108) rfl))) (mvT hZ (hw _ (List.mem_of_getElem? (i := 26) rfl))) (mvT hZ (hw _ (List.mem_of_getElem? (i := 109) rfl))) (by decide) (backOf (W := 0) (own_rmcx l Z a0 hw [] p2 (Nat.toInt32 nn) ii nn fm h0 n0 Z0 Xo hp2 (own_of_nat P0.small) SF hfm (by omega)) hZ (hw _ (List.mem_of_getElem? (i := 109) rfl)) (hw _ (List.mem_of_getElem? (i := 26) rfl)) (by decide) (by decide)) (g := (mkF m 3 #[.val (.ref p1), .val (.int p2)] [(.int (Nat.toInt32 nn)), (.int p2)])) rfl (by rw [hml]; rfl) (argsL := [(.int p2), (.int (Nat.toInt32 nn))]) (rest := []) (lenOf own_pd10 rfl) rfl (by show 2 * 0 + _ ≤ _; exact Nat.le_of_eq rfl) (hb hby own_d21_3) (fun _ _ => ⟨rfl, e0, (by decide : 0 + 0 ≤ _), (by decide : 0 + 0 ≤ _)⟩)
  dsimp only [Pt.U, Pt.locs, Pt.cells, Pt.slots] at X2 l2 y2 z2 st2 hQ2
  subst l2 y2 z2
  obtain ⟨rfl, N2q, e2⟩ := hQ2
  have N2 := Fr.app N0 N2q
  have k3 : ∀ t, Steps p.tables e below (T2.setTop (mkF m 6 #[.val (.ref p1), .val (.int p2)] [])) t → Steps p.tables e below (s₁.setTop (entryFrame m #[(.ref p1), (.int p2)] 2)) t := fun t k => k1 t (st2 t k)
  have k4 : ∀ t, Steps p.tables e below (T2.setTop (mkF m 14 #[.val (.ref p1), .val (.int p2)] [(.int ((((own_b8 cf oo) ii) &&& (255 : Int32)).toUInt32.toUInt16.toUInt32.toInt32))])) t → Steps p.tables e below (s₁.setTop (entryFrame m #[(.ref p1), (.int p2)] 2)) t := by
    intro t k
    refine k3 t ?_
    show Steps p.tables e below (T2.setTop (mkF m 6 #[.val (.ref p1), .val (.int p2)] [])) _
    refine XS.aloadN X2.here hx rfl (hb hby own_d21_6) rfl rfl ?_
    show Steps p.tables e below (T2.setTop (mkF m 7 #[.val (.ref p1), .val (.int p2)] [(.ref p1)])) _
    refine XS.iloadN X2.here hx rfl (hb hby own_d21_7) rfl ?_
    show Steps p.tables e below (T2.setTop (mkF m 8 #[.val (.ref p1), .val (.int p2)] [(.int p2), (.ref p1)])) _
    refine own_ldB X2 hx hZ e2 P0 (j := p2) hp2 (by omega) (g := (mkF m 8 #[.val (.ref p1), .val (.int p2)] [(.int p2), (.ref p1)])) rfl rfl (hb hby own_d21_8) ?_
    show Steps p.tables e below (T2.setTop (mkF m 9 #[.val (.ref p1), .val (.int p2)] [(.int ((own_b8 cf oo) ii))])) _
    refine XS.sipush X2.here hx rfl (hb hby own_d21_9) ?_
    show Steps p.tables e below (T2.setTop (mkF m 12 #[.val (.ref p1), .val (.int p2)] [(.int (255 : Int32)), (.int ((own_b8 cf oo) ii))])) _
    refine XS.iand X2.here hx rfl (hb hby own_d21_12) rfl ?_
    show Steps p.tables e below (T2.setTop (mkF m 13 #[.val (.ref p1), .val (.int p2)] [(.int (((own_b8 cf oo) ii) &&& (255 : Int32)))])) _
    refine XS.i2c X2.here hx rfl (hb hby own_d21_13) rfl ?_
    exact k
  obtain ⟨fs, hr, hrun, hended, hW, hsame⟩ := X2.leave (v := (some (.int (nar .char ((((own_b8 cf oo) ii) &&& (255 : Int32)).toUInt32.toUInt16.toUInt32.toInt32))))) (fun h => by rw [Bd.returns] at h; cases h)
  refine ⟨_, _, k4 _ ?_, hrun, hended, _, _, rfl, ?_, ⟨_, rfl⟩, hW, hsame.mono (by decide) (by decide)⟩
  · exact retN X2 hx (t := .char) Bd.returns (by simp) (hb hby own_d21_14) hr
  · show own_Qlc Z p1 p2 nn oo cf ii fm h0 n0 _ T2.heap _
    exact ⟨(congrArg (fun z => some (Value.int z)) (own_l1 hcv hle)), N2, e2⟩
theorem own_d29_0 : decode jdk_52_method_83_code 0 = .ok (.iload_n 1, 1) := by decide +kernel
theorem own_d29_1 : decode jdk_52_method_83_code 1 = .ok (.aload_n 0, 1) := by decide +kernel
theorem own_d29_2 : decode jdk_52_method_83_code 2 = .ok (.invokestatic 67, 3) := by decide +kernel
theorem own_d29_5 : decode jdk_52_method_83_code 5 = .ok (.aload_n 0, 1) := by decide +kernel
theorem own_d29_6 : decode jdk_52_method_83_code 6 = .ok (.iload_n 1, 1) := by decide +kernel
theorem own_d29_7 : decode jdk_52_method_83_code 7 = .ok (.invokestatic 71, 3) := by decide +kernel
theorem own_d29_10 : decode jdk_52_method_83_code 10 = .ok (.ireturn, 1) := by decide +kernel
theorem own_pd11 : parseMethodDescriptor "(I[B)V" = some ⟨[.int, (.array .byte)], none⟩ := by decide +kernel
theorem own_efuc (m : MethodId) (x0 : Addr) (x1 : Int32) : entryFrame m #[(.ref x0), (.int x1)] 2 = mkF m 0 #[.val (.ref x0), .val (.int x1)] [] := by first | (simp [entryFrame, mkF, argsToLocals, Value.category]; done) | rfl
def own_Quc (Z : State) (p1 : Addr) (p2 : Int32) (nn : Nat) (oo : Nat) (cf : Nat → Int32) (ii : Nat) (fm : Value) (h0 : Heap) (n0 : Nat) (v : Option Value) (h : Heap) (L : List Loc) : Prop := v = some (.int (cf (oo + ii))) ∧ Fr n0 L ∧ h = h0
def own_Ruc : Room := { frames := 3, cells := 0, slots := 0, locals := 40 }
set_option maxRecDepth 65536 in
set_option maxHeartbeats 40000000 in
theorem own_rmuc (l : Launch) (Z : State) (a0 : Array Value) (hw : ∀ d ∈ tables_1, d.before a0 Z = true) (ws : List Jvm.Cond) (p1 : Addr) (p2 : Int32) (nn : Nat) (oo : Nat) (cf : Nat → Int32) (ii : Nat) (fm : Value) (h0 : Heap) (n0 : Nat) (Z0 : n0 ≤ h0.size) (P0 : own_G Z h0 p1 .byte (2 * nn) (own_u16 cf oo)) (Xo : Old Z n0 h0) (hp2 : p2.toInt = (ii : Int)) (SA : Sta Z Z.heap "java/lang/StringUTF16" "$assertionsDisabled" "Z" (.int (1 : Int32))) (SH : Sta Z Z.heap "java/lang/StringUTF16" "HI_BYTE_SHIFT" "I" (.int (0 : Int32))) (SL : Sta Z Z.heap "java/lang/StringUTF16" "LO_BYTE_SHIFT" "I" (.int (8 : Int32))) (SF : Sta Z Z.heap "jdk/internal/util/Preconditions" "SIOOBE_FORMATTER" "Ljava/util/function/BiFunction;" fm) (hfm : fm.isRef = true) (hii : ii < nn) (hn : nn ≤ 4) (hch : ∀ i, i < nn → own_ch (cf (oo + i))) :
    MetFree l (⟨"java/lang/StringUTF16", "charAt", "([BI)C"⟩ : MethodName) (head1 (Jvm.Cond.code (⟨"java/lang/StringUTF16", "charAt", "([BI)C"⟩ : MethodName) jdk_52_method_83_code 2 (some .char) :: ws) own_Ruc) (fun aa U => aa = #[(.ref p1), (.int p2)] ∧ Z.Warmed39 U.vm ∧ U.heap = h0) (fun _ _ _ _ _ => True) (fun _ U o U' => ∃ v L, o = .returned v ∧ own_Quc Z p1 p2 nn oo cf ii fm h0 n0 v U'.heap L ∧ FrameEnd U o U' L own_Ruc.cells own_Ruc.slots) := by
  refine MetFree.of_bodySF (plainFor_of_name own_pn0) hisR ?_
  intro p e s m args below meth c s₁ Bd hml0 hP hK
  obtain ⟨rfl, hZ, hh⟩ := hP
  have hx := Bd.exec
  have hby := Bd.bytes
  have hml : c.maxLocals = 2 := hml0
  have hown : s.vm.findClass "java/lang/StringUTF16" = some m.cls := findClass_of_methodNamed Bd.named
  have hnm := (name_of_methodNamed Bd.named Bd.method).1
  have X0 : Stand p l e own_Ruc s m #[(.ref p1), (.int p2)] below meth c s₁ [] 0 0 := Stand.of_body Bd
  have e0 : s₁.heap = h0 := by rw [← hh, Bd.state]; rfl
  have N0 := Fr.nil n0
  have pre0 : ∀ t, Steps p.tables e below (s₁.setTop (mkF m 0 #[.val (.ref p1), .val (.int p2)] [])) t → Steps p.tables e below (s₁.setTop (entryFrame m #[(.ref p1), (.int p2)] 2)) t := fun t k => castTop (own_efuc m p1 p2) k
  have k1 : ∀ t, Steps p.tables e below (s₁.setTop (mkF m 2 #[.val (.ref p1), .val (.int p2)] [(.ref p1), (.int p2)])) t → Steps p.tables e below (s₁.setTop (entryFrame m #[(.ref p1), (.int p2)] 2)) t := by
    intro t k
    refine pre0 t ?_
    show Steps p.tables e below (s₁.setTop (mkF m 0 #[.val (.ref p1), .val (.int p2)] [])) _
    refine XS.iloadN X0.here hx rfl (hb hby own_d29_0) rfl ?_
    show Steps p.tables e below (s₁.setTop (mkF m 1 #[.val (.ref p1), .val (.int p2)] [(.int p2)])) _
    refine XS.aloadN X0.here hx rfl (hb hby own_d29_1) rfl rfl ?_
    exact k
  obtain ⟨_, _, ⟨T2, L2, k2c, n2⟩, -, X2, ⟨Lc2, hQ2, l2, y2, z2⟩, st2⟩ := Jvm.LawKit.callS X0 hx (y := (⟨"java/lang/StringUTF16", "checkIndex", "(I[B)V"⟩ : MethodName)) hown (mvT hZ (hw _ (List.mem_of_getElem? (i := 135) rfl))) (mvT hZ (hw _ (List.mem_of_getElem? (i := 136) rfl))) (mvT hZ (hw _ (List.mem_of_getElem? (i := 85) rfl))) (mvT hZ (hw _ (List.mem_of_getElem? (i := 137) rfl))) (by decide) (backOf (W := 0) (own_rmcu l Z a0 hw [] p2 p1 (own_u16 cf oo) ii nn fm h0 n0 Z0 P0 Xo hp2 SF hfm (by omega)) hZ (hw _ (List.mem_of_getElem? (i := 137) rfl)) (hw _ (List.mem_of_getElem? (i := 85) rfl)) (by decide) (by decide)) (g := (mkF m 2 #[.val (.ref p1), .val (.int p2)] [(.ref p1), (.int p2)])) rfl (by rw [hml]; rfl) (argsL := [(.int p2), (.ref p1)]) (rest := []) (lenOf own_pd11 rfl) rfl (by show 2 * 0 + _ ≤ _; exact Nat.le_of_eq rfl) (hb hby own_d29_2) (fun _ _ => ⟨rfl, e0, (by decide : 0 + 0 ≤ _), (by decide : 0 + 0 ≤ _)⟩)
  dsimp only [Pt.U, Pt.locs, Pt.cells, Pt.slots] at X2 l2 y2 z2 st2 hQ2
  subst l2 y2 z2
  obtain ⟨rfl, N2q, e2⟩ := hQ2
  have N2 := Fr.app N0 N2q
  have k3 : ∀ t, Steps p.tables e below (T2.setTop (mkF m 5 #[.val (.ref p1), .val (.int p2)] [])) t → Steps p.tables e below (s₁.setTop (entryFrame m #[(.ref p1), (.int p2)] 2)) t := fun t k => k1 t (st2 t k)
  have k4 : ∀ t, Steps p.tables e below (T2.setTop (mkF m 7 #[.val (.ref p1), .val (.int p2)] [(.int p2), (.ref p1)])) t → Steps p.tables e below (s₁.setTop (entryFrame m #[(.ref p1), (.int p2)] 2)) t := by
    intro t k
    refine k3 t ?_
    show Steps p.tables e below (T2.setTop (mkF m 5 #[.val (.ref p1), .val (.int p2)] [])) _
    refine XS.aloadN X2.here hx rfl (hb hby own_d29_5) rfl rfl ?_
    show Steps p.tables e below (T2.setTop (mkF m 6 #[.val (.ref p1), .val (.int p2)] [(.ref p1)])) _
    refine XS.iloadN X2.here hx rfl (hb hby own_d29_6) rfl ?_
    exact k
  obtain ⟨_, _, ⟨T5, L5, k5c, n5⟩, -, X5, ⟨Lc5, hQ5, l5, y5, z5⟩, st5⟩ := Jvm.LawKit.callS X2 hx (y := (⟨"java/lang/StringUTF16", "getChar", "([BI)C"⟩ : MethodName)) hown (mvT hZ (hw _ (List.mem_of_getElem? (i := 129) rfl))) (mvT hZ (hw _ (List.mem_of_getElem? (i := 130) rfl))) (mvT hZ (hw _ (List.mem_of_getElem? (i := 85) rfl))) (mvT hZ (hw _ (List.mem_of_getElem? (i := 131) rfl))) (by decide) (backOf (W := 0) (own_rmgc l Z a0 hw [] p1 p2 (2 * nn) (own_u16 cf oo) ii (cf (oo + ii)) h0 n0 Z0 P0 Xo hp2 SA SH SL (by omega) (by omega) (own_u0 cf oo ii) (own_u1 cf oo ii) (hch ii (by omega))) hZ (hw _ (List.mem_of_getElem? (i := 131) rfl)) (hw _ (List.mem_of_getElem? (i := 85) rfl)) (by decide) (by decide)) (g := (mkF m 7 #[.val (.ref p1), .val (.int p2)] [(.int p2), (.ref p1)])) rfl (by rw [hml]; rfl) (argsL := [(.ref p1), (.int p2)]) (rest := []) (lenOf own_pd5 rfl) rfl (by show 2 * 0 + _ ≤ _; exact Nat.le_of_eq rfl) (hb hby own_d29_7) (fun _ _ => ⟨rfl, e2, (by decide : 0 + 0 ≤ _), (by decide : 0 + 0 ≤ _)⟩)
  dsimp only [Pt.U, Pt.locs, Pt.cells, Pt.slots] at X5 l5 y5 z5 st5 hQ5
  subst l5 y5 z5
  obtain ⟨rfl, N5q, e5⟩ := hQ5
  have N5 := Fr.app N2 N5q
  have k6 : ∀ t, Steps p.tables e below (T5.setTop (mkF m 10 #[.val (.ref p1), .val (.int p2)] [(.int (cf (oo + ii)))])) t → Steps p.tables e below (s₁.setTop (entryFrame m #[(.ref p1), (.int p2)] 2)) t := fun t k => k4 t (st5 t k)
  obtain ⟨fs, hr, hrun, hended, hW, hsame⟩ := X5.leave (v := (some (.int (nar .char (cf (oo + ii)))))) (fun h => by rw [Bd.returns] at h; cases h)
  refine ⟨_, _, k6 _ ?_, hrun, hended, _, _, rfl, ?_, ⟨_, rfl⟩, hW, hsame.mono (by decide) (by decide)⟩
  · exact retN X5 hx (t := .char) Bd.returns (by simp) (hb hby own_d29_10) hr
  · show own_Quc Z p1 p2 nn oo cf ii fm h0 n0 _ T5.heap _
    exact ⟨(congrArg (fun z => some (Value.int z)) (own_nch (hch ii hii))), N5, e5⟩
theorem own_d19_0 : decode jdk_42_method_56_code 0 = .ok (.aload_n 0, 1) := by decide +kernel
theorem own_d19_1 : decode jdk_42_method_56_code 1 = .ok (.invokevirtual 492, 3) := by decide +kernel
theorem own_d19_4 : decode jdk_42_method_56_code 4 = .ok (.ifCond .eq 12, 3) := by decide +kernel
theorem own_d19_7 : decode jdk_42_method_56_code 7 = .ok (.aload_n 0, 1) := by decide +kernel
theorem own_d19_8 : decode jdk_42_method_56_code 8 = .ok (.getfield 9, 3) := by decide +kernel
theorem own_d19_11 : decode jdk_42_method_56_code 11 = .ok (.iload_n 1, 1) := by decide +kernel
theorem own_d19_12 : decode jdk_42_method_56_code 12 = .ok (.invokestatic 495, 3) := by decide +kernel
theorem own_d19_15 : decode jdk_42_method_56_code 15 = .ok (.ireturn, 1) := by decide +kernel
theorem own_d19_16 : decode jdk_42_method_56_code 16 = .ok (.aload_n 0, 1) := by decide +kernel
theorem own_d19_17 : decode jdk_42_method_56_code 17 = .ok (.getfield 9, 3) := by decide +kernel
theorem own_d19_20 : decode jdk_42_method_56_code 20 = .ok (.iload_n 1, 1) := by decide +kernel
theorem own_d19_21 : decode jdk_42_method_56_code 21 = .ok (.invokestatic 498, 3) := by decide +kernel
theorem own_d19_24 : decode jdk_42_method_56_code 24 = .ok (.ireturn, 1) := by decide +kernel
theorem own_pd12 : parseMethodDescriptor "()Z" = some ⟨[], some .boolean⟩ := by decide +kernel
theorem own_efca (m : MethodId) (x0 : Addr) (x1 : Int32) : entryFrame m #[(.ref x0), (.int x1)] 2 = mkF m 0 #[.val (.ref x0), .val (.int x1)] [] := by first | (simp [entryFrame, mkF, argsToLocals, Value.category]; done) | rfl
def own_Qca (Z : State) (a : Addr) (p2 : Int32) (nn : Nat) (oo : Nat) (cf : Nat → Int32) (ii : Nat) (cs : Int32) (fm : Value) (h0 : Heap) (n0 : Nat) (v : Option Value) (h : Heap) (L : List Loc) : Prop := v = some (.int (cf (oo + ii))) ∧ Fr n0 L ∧ h = h0
def own_Rca : Room := { frames := 4, cells := 0, slots := 0, locals := 53 }
set_option maxRecDepth 65536 in
set_option maxHeartbeats 40000000 in
theorem own_rmca (l : Launch) (Z : State) (a0 : Array Value) (hw : ∀ d ∈ tables_1, d.before a0 Z = true) (ws : List Jvm.Cond) (a : Addr) (p2 : Int32) (nn : Nat) (oo : Nat) (cf : Nat → Int32) (ii : Nat) (cs : Int32) (fm : Value) (h0 : Heap) (n0 : Nat) (Z0 : n0 ≤ h0.size) (P0 : Exa Z h0 a "java/lang/String") (P1 : own_Str Z h0 a nn oo cf) (Xo : Old Z n0 h0) (hp2 : p2.toInt = (ii : Int)) (SC : Sta Z Z.heap "java/lang/String" "COMPACT_STRINGS" "Z" (.int cs)) (SA : Sta Z Z.heap "java/lang/StringUTF16" "$assertionsDisabled" "Z" (.int (1 : Int32))) (SH : Sta Z Z.heap "java/lang/StringUTF16" "HI_BYTE_SHIFT" "I" (.int (0 : Int32))) (SL : Sta Z Z.heap "java/lang/StringUTF16" "LO_BYTE_SHIFT" "I" (.int (8 : Int32))) (SF : Sta Z Z.heap "jdk/internal/util/Preconditions" "SIOOBE_FORMATTER" "Ljava/util/function/BiFunction;" fm) (hcs : ¬ (cs = (0 : Int32))) (hfm : fm.isRef = true) (hii : ii < nn) :
    MetFree l (⟨"java/lang/String", "charAt", "(I)C"⟩ : MethodName) (head1 (Jvm.Cond.code (⟨"java/lang/String", "charAt", "(I)C"⟩ : MethodName) jdk_42_method_56_code 2 (some .char) :: ws) own_Rca) (fun aa U => aa = #[(.ref a), (.int p2)] ∧ Z.Warmed39 U.vm ∧ U.heap = h0) (fun _ _ _ _ _ => True) (fun _ U o U' => ∃ v L, o = .returned v ∧ own_Qca Z a p2 nn oo cf ii cs fm h0 n0 v U'.heap L ∧ FrameEnd U o U' L own_Rca.cells own_Rca.slots) := by
  refine MetFree.of_bodySF (plainFor_of_name own_pn1) hisR ?_
  intro p e s m args below meth c s₁ Bd hml0 hP hK
  obtain ⟨rfl, hZ, hh⟩ := hP
  have hx := Bd.exec
  have hby := Bd.bytes
  have hml : c.maxLocals = 2 := hml0
  have hown : s.vm.findClass "java/lang/String" = some m.cls := findClass_of_methodNamed Bd.named
  have hnm := (name_of_methodNamed Bd.named Bd.method).1
  have X0 : Stand p l e own_Rca s m #[(.ref a), (.int p2)] below meth c s₁ [] 0 0 := Stand.of_body Bd
  have e0 : s₁.heap = h0 := by rw [← hh, Bd.state]; rfl
  have N0 := Fr.nil n0
  have pre0 : ∀ t, Steps p.tables e below (s₁.setTop (mkF m 0 #[.val (.ref a), .val (.int p2)] [])) t → Steps p.tables e below (s₁.setTop (entryFrame m #[(.ref a), (.int p2)] 2)) t := fun t k => castTop (own_efca m a p2) k
  obtain ⟨Es, hN, hch, bs, cd, Fv, Fc, hB⟩ := id P1
  rcases hB with ⟨rfl, hall, hGb⟩ | ⟨rfl, hall, hGb⟩
  · skip
    have k1 : ∀ t, Steps p.tables e below (s₁.setTop (mkF m 1 #[.val (.ref a), .val (.int p2)] [(.ref a)])) t → Steps p.tables e below (s₁.setTop (entryFrame m #[(.ref a), (.int p2)] 2)) t := by
      intro t k
      refine pre0 t ?_
      show Steps p.tables e below (s₁.setTop (mkF m 0 #[.val (.ref a), .val (.int p2)] [])) _
      refine XS.aloadN X0.here hx rfl (hb hby own_d19_0) rfl rfl ?_
      exact k
    obtain ⟨cq2, kq2, q2a, q2b, q2c⟩ := isOf hZ e0 P0
    obtain ⟨_, _, ⟨T2, L2, k2c, n2⟩, -, X2, ⟨Lc2, hQ2, l2, y2, z2⟩, st2⟩ := X0.virtualBack hx (y := (⟨"java/lang/String", "isLatin1", "()Z"⟩ : MethodName)) (z := (⟨"java/lang/String", "isLatin1", "()Z"⟩ : MethodName)) hown (mvT hZ (hw _ (List.mem_of_getElem? (i := 98) rfl))) (mvT hZ (hw _ (List.mem_of_getElem? (i := 99) rfl))) (notFace_of_selects (args := #[]) (mvT hZ (hw _ (List.mem_of_getElem? (i := 101) rfl)))) (mvT hZ (hw _ (List.mem_of_getElem? (i := 101) rfl))) (mvT hZ (hw _ (List.mem_of_getElem? (i := 100) rfl))) (by decide) (backOf (W := 0) (own_rmla0 l Z a0 hw [] a cs h0 n0 Z0 P0 Fc Xo SC hcs) hZ (hw _ (List.mem_of_getElem? (i := 102) rfl)) (hw _ (List.mem_of_getElem? (i := 26) rfl)) (by decide) (by decide)) q2a q2c (g := (mkF m 1 #[.val (.ref a), .val (.int p2)] [(.ref a)])) rfl (by rw [hml]; rfl) (Steps.refl _) (argsL := []) (rest := []) (lenOf own_pd12 rfl) rfl (by show 2 * 0 + _ ≤ _; exact Nat.le_of_eq rfl) (hb hby own_d19_1) (fun _ _ => ⟨rfl, e0, (by decide : 0 + 0 ≤ _), (by decide : 0 + 0 ≤ _)⟩)
    dsimp only [Pt.U, Pt.locs, Pt.cells, Pt.slots] at X2 l2 y2 z2 st2 hQ2
    subst l2 y2 z2
    obtain ⟨rfl, N2q, e2⟩ := hQ2
    have N2 := Fr.app N0 N2q
    have k3 : ∀ t, Steps p.tables e below (T2.setTop (mkF m 4 #[.val (.ref a), .val (.int p2)] [(.int (1 : Int32))])) t → Steps p.tables e below (s₁.setTop (entryFrame m #[(.ref a), (.int p2)] 2)) t := fun t k => k1 t (st2.trans k)
    have k4 : ∀ t, Steps p.tables e below (T2.setTop (mkF m 8 #[.val (.ref a), .val (.int p2)] [(.ref a)])) t → Steps p.tables e below (s₁.setTop (entryFrame m #[(.ref a), (.int p2)] 2)) t := by
      intro t k
      refine k3 t ?_
      show Steps p.tables e below (T2.setTop (mkF m 4 #[.val (.ref a), .val (.int p2)] [(.int (1 : Int32))])) _
      refine XS.ifNo X2.here hx rfl (hb hby own_d19_4) rfl ((if0 _ _).trans (feq (by decide : ¬ ((1 : Int32) = (0 : Int32)))).1) ?_
      show Steps p.tables e below (T2.setTop (mkF m 7 #[.val (.ref a), .val (.int p2)] [])) _
      refine XS.aloadN X2.here hx rfl (hb hby own_d19_7) rfl rfl ?_
      exact k
    obtain ⟨T5, X5, e5, st5⟩ := getF X2 hx hZ hown (host := "") (Or.inl (hw _ (List.mem_of_getElem? (i := 52) rfl))) Via.refl e2 Fv (g := (mkF m 8 #[.val (.ref a), .val (.int p2)] [(.ref a)])) rfl rfl (hb hby own_d19_8)
    have k6 : ∀ t, Steps p.tables e below (T5.setTop (mkF m 11 #[.val (.ref a), .val (.int p2)] [(.ref bs)])) t → Steps p.tables e below (s₁.setTop (entryFrame m #[(.ref a), (.int p2)] 2)) t := fun t k => k4 t (st5 t k)
    have k7 : ∀ t, Steps p.tables e below (T5.setTop (mkF m 12 #[.val (.ref a), .val (.int p2)] [(.int p2), (.ref bs)])) t → Steps p.tables e below (s₁.setTop (entryFrame m #[(.ref a), (.int p2)] 2)) t := by
      intro t k
      refine k6 t ?_
      show Steps p.tables e below (T5.setTop (mkF m 11 #[.val (.ref a), .val (.int p2)] [(.ref bs)])) _
      refine XS.iloadN X5.here hx rfl (hb hby own_d19_11) rfl ?_
      exact k
    obtain ⟨_, _, ⟨T8, L8, k8c, n8⟩, -, X8, ⟨Lc8, hQ8, l8, y8, z8⟩, st8⟩ := Jvm.LawKit.callS X5 hx (y := (⟨"java/lang/StringLatin1", "charAt", "([BI)C"⟩ : MethodName)) hown (mvT hZ (hw _ (List.mem_of_getElem? (i := 103) rfl))) (mvT hZ (hw _ (List.mem_of_getElem? (i := 104) rfl))) (mvT hZ (hw _ (List.mem_of_getElem? (i := 105) rfl))) (mvT hZ (hw _ (List.mem_of_getElem? (i := 106) rfl))) (by decide) (backOf (W := 0) (own_rmlc l Z a0 hw [] bs p2 nn oo cf ii fm h0 n0 Z0 hGb Xo hp2 SF hfm (by omega) (hch ii hii) (hall ii hii)) hZ (hw _ (List.mem_of_getElem? (i := 106) rfl)) (hw _ (List.mem_of_getElem? (i := 105) rfl)) (by decide) (by decide)) (g := (mkF m 12 #[.val (.ref a), .val (.int p2)] [(.int p2), (.ref bs)])) rfl (by rw [hml]; rfl) (argsL := [(.ref bs), (.int p2)]) (rest := []) (lenOf own_pd5 rfl) rfl (by show 2 * 0 + _ ≤ _; exact Nat.le_of_eq rfl) (hb hby own_d19_12) (fun _ _ => ⟨rfl, e5, (by decide : 0 + 0 ≤ _), (by decide : 0 + 0 ≤ _)⟩)
    dsimp only [Pt.U, Pt.locs, Pt.cells, Pt.slots] at X8 l8 y8 z8 st8 hQ8
    subst l8 y8 z8
    obtain ⟨rfl, N8q, e8⟩ := hQ8
    have N8 := Fr.app N2 N8q
    have k9 : ∀ t, Steps p.tables e below (T8.setTop (mkF m 15 #[.val (.ref a), .val (.int p2)] [(.int (cf (oo + ii)))])) t → Steps p.tables e below (s₁.setTop (entryFrame m #[(.ref a), (.int p2)] 2)) t := fun t k => k7 t (st8 t k)
    obtain ⟨fs, hr, hrun, hended, hW, hsame⟩ := X8.leave (v := (some (.int (nar .char (cf (oo + ii)))))) (fun h => by rw [Bd.returns] at h; cases h)
    refine ⟨_, _, k9 _ ?_, hrun, hended, _, _, rfl, ?_, ⟨_, rfl⟩, hW, hsame.mono (by decide) (by decide)⟩
    · exact retN X8 hx (t := .char) Bd.returns (by simp) (hb hby own_d19_15) hr
    · show own_Qca Z a p2 nn oo cf ii cs fm h0 n0 _ T8.heap _
      exact ⟨(congrArg (fun z => some (Value.int z)) (own_nch (hch ii hii))), N8, e8⟩
  · skip
    have k10 : ∀ t, Steps p.tables e below (s₁.setTop (mkF m 1 #[.val (.ref a), .val (.int p2)] [(.ref a)])) t → Steps p.tables e below (s₁.setTop (entryFrame m #[(.ref a), (.int p2)] 2)) t := by
      intro t k
      refine pre0 t ?_
      show Steps p.tables e below (s₁.setTop (mkF m 0 #[.val (.ref a), .val (.int p2)] [])) _
      refine XS.aloadN X0.here hx rfl (hb hby own_d19_0) rfl rfl ?_
      exact k
    obtain ⟨cq11, kq11, q11a, q11b, q11c⟩ := isOf hZ e0 P0
    obtain ⟨_, _, ⟨T11, L11, k11c, n11⟩, -, X11, ⟨Lc11, hQ11, l11, y11, z11⟩, st11⟩ := X0.virtualBack hx (y := (⟨"java/lang/String", "isLatin1", "()Z"⟩ : MethodName)) (z := (⟨"java/lang/String", "isLatin1", "()Z"⟩ : MethodName)) hown (mvT hZ (hw _ (List.mem_of_getElem? (i := 98) rfl))) (mvT hZ (hw _ (List.mem_of_getElem? (i := 99) rfl))) (notFace_of_selects (args := #[]) (mvT hZ (hw _ (List.mem_of_getElem? (i := 101) rfl)))) (mvT hZ (hw _ (List.mem_of_getElem? (i := 101) rfl))) (mvT hZ (hw _ (List.mem_of_getElem? (i := 100) rfl))) (by decide) (backOf (W := 0) (own_rmla1 l Z a0 hw [] a cs h0 n0 Z0 P0 Fc Xo SC hcs) hZ (hw _ (List.mem_of_getElem? (i := 102) rfl)) (hw _ (List.mem_of_getElem? (i := 26) rfl)) (by decide) (by decide)) q11a q11c (g := (mkF m 1 #[.val (.ref a), .val (.int p2)] [(.ref a)])) rfl (by rw [hml]; rfl) (Steps.refl _) (argsL := []) (rest := []) (lenOf own_pd12 rfl) rfl (by show 2 * 0 + _ ≤ _; exact Nat.le_of_eq rfl) (hb hby own_d19_1) (fun _ _ => ⟨rfl, e0, (by decide : 0 + 0 ≤ _), (by decide : 0 + 0 ≤ _)⟩)
    dsimp only [Pt.U, Pt.locs, Pt.cells, Pt.slots] at X11 l11 y11 z11 st11 hQ11
    subst l11 y11 z11
    obtain ⟨rfl, N11q, e11⟩ := hQ11
    have N11 := Fr.app N0 N11q
    have k12 : ∀ t, Steps p.tables e below (T11.setTop (mkF m 4 #[.val (.ref a), .val (.int p2)] [(.int (0 : Int32))])) t → Steps p.tables e below (s₁.setTop (entryFrame m #[(.ref a), (.int p2)] 2)) t := fun t k => k10 t (st11.trans k)
    have k13 : ∀ t, Steps p.tables e below (T11.setTop (mkF m 17 #[.val (.ref a), .val (.int p2)] [(.ref a)])) t → Steps p.tables e below (s₁.setTop (entryFrame m #[(.ref a), (.int p2)] 2)) t := by
      intro t k
      refine k12 t ?_
      show Steps p.tables e below (T11.setTop (mkF m 4 #[.val (.ref a), .val (.int p2)] [(.int (0 : Int32))])) _
      refine XS.ifYes X11.here hx rfl (pc0 := 4) (pc' := 16) rfl (hb hby own_d19_4) rfl ((if0 _ _).trans (teq (rfl : (0 : Int32) = (0 : Int32))).1) (by decide) (by decide) ?_
      show Steps p.tables e below (T11.setTop (mkF m 16 #[.val (.ref a), .val (.int p2)] [])) _
      refine XS.aloadN X11.here hx rfl (hb hby own_d19_16) rfl rfl ?_
      exact k
    obtain ⟨T14, X14, e14, st14⟩ := getF X11 hx hZ hown (host := "") (Or.inl (hw _ (List.mem_of_getElem? (i := 52) rfl))) Via.refl e11 Fv (g := (mkF m 17 #[.val (.ref a), .val (.int p2)] [(.ref a)])) rfl rfl (hb hby own_d19_17)
    have k15 : ∀ t, Steps p.tables e below (T14.setTop (mkF m 20 #[.val (.ref a), .val (.int p2)] [(.ref bs)])) t → Steps p.tables e below (s₁.setTop (entryFrame m #[(.ref a), (.int p2)] 2)) t := fun t k => k13 t (st14 t k)
    have k16 : ∀ t, Steps p.tables e below (T14.setTop (mkF m 21 #[.val (.ref a), .val (.int p2)] [(.int p2), (.ref bs)])) t → Steps p.tables e below (s₁.setTop (entryFrame m #[(.ref a), (.int p2)] 2)) t := by
      intro t k
      refine k15 t ?_
      show Steps p.tables e below (T14.setTop (mkF m 20 #[.val (.ref a), .val (.int p2)] [(.ref bs)])) _
      refine XS.iloadN X14.here hx rfl (hb hby own_d19_20) rfl ?_
      exact k
    obtain ⟨_, _, ⟨T17, L17, k17c, n17⟩, -, X17, ⟨Lc17, hQ17, l17, y17, z17⟩, st17⟩ := Jvm.LawKit.callS X14 hx (y := (⟨"java/lang/StringUTF16", "charAt", "([BI)C"⟩ : MethodName)) hown (mvT hZ (hw _ (List.mem_of_getElem? (i := 132) rfl))) (mvT hZ (hw _ (List.mem_of_getElem? (i := 133) rfl))) (mvT hZ (hw _ (List.mem_of_getElem? (i := 85) rfl))) (mvT hZ (hw _ (List.mem_of_getElem? (i := 134) rfl))) (by decide) (backOf (W := 0) (own_rmuc l Z a0 hw [] bs p2 nn oo cf ii fm h0 n0 Z0 hGb Xo hp2 SA SH SL SF hfm (by omega) (by omega) hch) hZ (hw _ (List.mem_of_getElem? (i := 134) rfl)) (hw _ (List.mem_of_getElem? (i := 85) rfl)) (by decide) (by decide)) (g := (mkF m 21 #[.val (.ref a), .val (.int p2)] [(.int p2), (.ref bs)])) rfl (by rw [hml]; rfl) (argsL := [(.ref bs), (.int p2)]) (rest := []) (lenOf own_pd5 rfl) rfl (by show 2 * 0 + _ ≤ _; exact Nat.le_of_eq rfl) (hb hby own_d19_21) (fun _ _ => ⟨rfl, e14, (by decide : 0 + 0 ≤ _), (by decide : 0 + 0 ≤ _)⟩)
    dsimp only [Pt.U, Pt.locs, Pt.cells, Pt.slots] at X17 l17 y17 z17 st17 hQ17
    subst l17 y17 z17
    obtain ⟨rfl, N17q, e17⟩ := hQ17
    have N17 := Fr.app N11 N17q
    have k18 : ∀ t, Steps p.tables e below (T17.setTop (mkF m 24 #[.val (.ref a), .val (.int p2)] [(.int (cf (oo + ii)))])) t → Steps p.tables e below (s₁.setTop (entryFrame m #[(.ref a), (.int p2)] 2)) t := fun t k => k16 t (st17 t k)
    obtain ⟨fs, hr, hrun, hended, hW, hsame⟩ := X17.leave (v := (some (.int (nar .char (cf (oo + ii)))))) (fun h => by rw [Bd.returns] at h; cases h)
    refine ⟨_, _, k18 _ ?_, hrun, hended, _, _, rfl, ?_, ⟨_, rfl⟩, hW, hsame.mono (by decide) (by decide)⟩
    · exact retN X17 hx (t := .char) Bd.returns (by simp) (hb hby own_d19_24) hr
    · show own_Qca Z a p2 nn oo cf ii cs fm h0 n0 _ T17.heap _
      exact ⟨(congrArg (fun z => some (Value.int z)) (own_nch (hch ii hii))), N17, e17⟩
theorem own_d8_0 : decode jdk_41_method_13_code 0 = .ok (.iload_n 2, 1) := by decide +kernel
theorem own_d8_1 : decode jdk_41_method_13_code 1 = .ok (.iload_n 0, 1) := by decide +kernel
theorem own_d8_2 : decode jdk_41_method_13_code 2 = .ok (.ior, 1) := by decide +kernel
theorem own_d8_3 : decode jdk_41_method_13_code 3 = .ok (.iload_n 1, 1) := by decide +kernel
theorem own_d8_4 : decode jdk_41_method_13_code 4 = .ok (.ior, 1) := by decide +kernel
theorem own_d8_5 : decode jdk_41_method_13_code 5 = .ok (.ifCond .lt 10, 3) := by decide +kernel
theorem own_d8_8 : decode jdk_41_method_13_code 8 = .ok (.iload_n 1, 1) := by decide +kernel
theorem own_d8_9 : decode jdk_41_method_13_code 9 = .ok (.iload_n 2, 1) := by decide +kernel
theorem own_d8_10 : decode jdk_41_method_13_code 10 = .ok (.iload_n 0, 1) := by decide +kernel
theorem own_d8_11 : decode jdk_41_method_13_code 11 = .ok (.isub, 1) := by decide +kernel
theorem own_d8_12 : decode jdk_41_method_13_code 12 = .ok (.if_icmp .le 11, 3) := by decide +kernel
theorem own_d8_23 : decode jdk_41_method_13_code 23 = .ok (.iload_n 0, 1) := by decide +kernel
theorem own_d8_24 : decode jdk_41_method_13_code 24 = .ok (.ireturn, 1) := by decide +kernel
theorem own_effs (m : MethodId) (x0 : Int32) (x1 : Int32) (x2 : Int32) (x3 : Value) (hx3 : x3.isRef = true) : entryFrame m #[(.int x0), (.int x1), (.int x2), x3] 4 = mkF m 0 #[.val (.int x0), .val (.int x1), .val (.int x2), .val x3] [] := by cases x3 <;> first | (simp [entryFrame, mkF, argsToLocals, Value.category]; done) | rfl | (cases hx3; done)
def own_Qfs (Z : State) (p1 : Int32) (p2 : Int32) (p3 : Int32) (p4 : Value) (of_ : Nat) (nn : Nat) (zc : Nat) (h0 : Heap) (n0 : Nat) (v : Option Value) (h : Heap) (L : List Loc) : Prop := v = some (.int p1) ∧ Fr n0 L ∧ h = h0
def own_Rfs : Room := { frames := 0, cells := 0, slots := 0, locals := 0 }
set_option maxRecDepth 65536 in
set_option maxHeartbeats 40000000 in
theorem own_rmfs (l : Launch) (Z : State) (a0 : Array Value) (hw : ∀ d ∈ tables_1, d.before a0 Z = true) (ws : List Jvm.Cond) (p1 : Int32) (p2 : Int32) (p3 : Int32) (p4 : Value) (of_ : Nat) (nn : Nat) (zc : Nat) (h0 : Heap) (n0 : Nat) (Z0 : n0 ≤ h0.size) (hp1 : p1.toInt = (of_ : Int)) (hp2 : p2.toInt = (nn : Int)) (hp3 : p3.toInt = (zc : Int)) (hbo : of_ + nn ≤ zc) (hz : zc ≤ 1000000) (hr_p4 : p4.isRef = true) :
    MetFree l (⟨"jdk/internal/util/Preconditions", "checkFromIndexSize", "(IIILjava/util/function/BiFunction;)I"⟩ : MethodName) (head1 (Jvm.Cond.code (⟨"jdk/internal/util/Preconditions", "checkFromIndexSize", "(IIILjava/util/function/BiFunction;)I"⟩ : MethodName) jdk_41_method_13_code 4 (some .int) :: ws) own_Rfs) (fun aa U => aa = #[(.int p1), (.int p2), (.int p3), p4] ∧ Z.Warmed39 U.vm ∧ U.heap = h0) (fun _ _ _ _ _ => True) (fun _ U o U' => ∃ v L, o = .returned v ∧ own_Qfs Z p1 p2 p3 p4 of_ nn zc h0 n0 v U'.heap L ∧ FrameEnd U o U' L own_Rfs.cells own_Rfs.slots) := by
  refine MetFree.of_bodySF (plainFor_of_name own_pn2) hisR ?_
  intro p e s m args below meth c s₁ Bd hml0 hP hK
  obtain ⟨rfl, hZ, hh⟩ := hP
  have hx := Bd.exec
  have hby := Bd.bytes
  have hml : c.maxLocals = 4 := hml0
  have hown : s.vm.findClass "jdk/internal/util/Preconditions" = some m.cls := findClass_of_methodNamed Bd.named
  have hnm := (name_of_methodNamed Bd.named Bd.method).1
  have X0 : Stand p l e own_Rfs s m #[(.int p1), (.int p2), (.int p3), p4] below meth c s₁ [] 0 0 := Stand.of_body Bd
  have e0 : s₁.heap = h0 := by rw [← hh, Bd.state]; rfl
  have N0 := Fr.nil n0
  have pre0 : ∀ t, Steps p.tables e below (s₁.setTop (mkF m 0 #[.val (.int p1), .val (.int p2), .val (.int p3), .val p4] [])) t → Steps p.tables e below (s₁.setTop (entryFrame m #[(.int p1), (.int p2), (.int p3), p4] 4)) t := fun t k => castTop (own_effs m p1 p2 p3 p4 hr_p4) k
  have k1 : ∀ t, Steps p.tables e below (s₁.setTop (mkF m 24 #[.val (.int p1), .val (.int p2), .val (.int p3), .val p4] [(.int p1)])) t → Steps p.tables e below (s₁.setTop (entryFrame m #[(.int p1), (.int p2), (.int p3), p4] 4)) t := by
    intro t k
    refine pre0 t ?_
    show Steps p.tables e below (s₁.setTop (mkF m 0 #[.val (.int p1), .val (.int p2), .val (.int p3), .val p4] [])) _
    refine XS.iloadN X0.here hx rfl (hb hby own_d8_0) rfl ?_
    show Steps p.tables e below (s₁.setTop (mkF m 1 #[.val (.int p1), .val (.int p2), .val (.int p3), .val p4] [(.int p3)])) _
    refine XS.iloadN X0.here hx rfl (hb hby own_d8_1) rfl ?_
    show Steps p.tables e below (s₁.setTop (mkF m 2 #[.val (.int p1), .val (.int p2), .val (.int p3), .val p4] [(.int p1), (.int p3)])) _
    refine XS.ior X0.here hx rfl (hb hby own_d8_2) rfl ?_
    show Steps p.tables e below (s₁.setTop (mkF m 3 #[.val (.int p1), .val (.int p2), .val (.int p3), .val p4] [(.int (p3 ||| p1))])) _
    refine XS.iloadN X0.here hx rfl (hb hby own_d8_3) rfl ?_
    show Steps p.tables e below (s₁.setTop (mkF m 4 #[.val (.int p1), .val (.int p2), .val (.int p3), .val p4] [(.int p2), (.int (p3 ||| p1))])) _
    refine XS.ior X0.here hx rfl (hb hby own_d8_4) rfl ?_
    show Steps p.tables e below (s₁.setTop (mkF m 5 #[.val (.int p1), .val (.int p2), .val (.int p3), .val p4] [(.int ((p3 ||| p1) ||| p2))])) _
    refine XS.ifNo X0.here hx rfl (hb hby own_d8_5) rfl ((if0 _ _).trans (flt (own_or3 hp3 hp1 hp2)).1) ?_
    show Steps p.tables e below (s₁.setTop (mkF m 8 #[.val (.int p1), .val (.int p2), .val (.int p3), .val p4] [])) _
    refine XS.iloadN X0.here hx rfl (hb hby own_d8_8) rfl ?_
    show Steps p.tables e below (s₁.setTop (mkF m 9 #[.val (.int p1), .val (.int p2), .val (.int p3), .val p4] [(.int p2)])) _
    refine XS.iloadN X0.here hx rfl (hb hby own_d8_9) rfl ?_
    show Steps p.tables e below (s₁.setTop (mkF m 10 #[.val (.int p1), .val (.int p2), .val (.int p3), .val p4] [(.int p3), (.int p2)])) _
    refine XS.iloadN X0.here hx rfl (hb hby own_d8_10) rfl ?_
    show Steps p.tables e below (s₁.setTop (mkF m 11 #[.val (.int p1), .val (.int p2), .val (.int p3), .val p4] [(.int p1), (.int p3), (.int p2)])) _
    refine XS.isub X0.here hx rfl (hb hby own_d8_11) rfl ?_
    show Steps p.tables e below (s₁.setTop (mkF m 12 #[.val (.int p1), .val (.int p2), .val (.int p3), .val p4] [(.int (p3 - p1)), (.int p2)])) _
    refine XS.icmpYes X0.here hx rfl (pc0 := 12) (pc' := 23) rfl (hb hby own_d8_12) rfl (flt (own_nlt (own_subn hp3 hp1 (by omega)) hp2 (by omega))).2.2.2 (by decide) (by decide) ?_
    show Steps p.tables e below (s₁.setTop (mkF m 23 #[.val (.int p1), .val (.int p2), .val (.int p3), .val p4] [])) _
    refine XS.iloadN X0.here hx rfl (hb hby own_d8_23) rfl ?_
    exact k
  obtain ⟨fs, hr, hrun, hended, hW, hsame⟩ := X0.leave (v := (some (.int p1))) (fun h => by rw [Bd.returns] at h; cases h)
  refine ⟨_, _, k1 _ ?_, hrun, hended, _, _, rfl, ?_, ⟨_, rfl⟩, hW, hsame.mono (by decide) (by decide)⟩
  · exact retI X0 hx Bd.returns (hb hby own_d8_24) hr
  · show own_Qfs Z p1 p2 p3 p4 of_ nn zc h0 n0 _ s₁.heap _
    exact ⟨rfl, N0, e0⟩
theorem own_d7_0 : decode jdk_42_method_157_code 0 = .ok (.iload_n 0, 1) := by decide +kernel
theorem own_d7_1 : decode jdk_42_method_157_code 1 = .ok (.iload_n 1, 1) := by decide +kernel
theorem own_d7_2 : decode jdk_42_method_157_code 2 = .ok (.iload_n 2, 1) := by decide +kernel
theorem own_d7_3 : decode jdk_42_method_157_code 3 = .ok (.getstatic 1053, 3) := by decide +kernel
theorem own_d7_6 : decode jdk_42_method_157_code 6 = .ok (.invokestatic 1065, 3) := by decide +kernel
theorem own_d7_9 : decode jdk_42_method_157_code 9 = .ok (.ireturn, 1) := by decide +kernel
theorem own_pd13 : parseMethodDescriptor "(IIILjava/util/function/BiFunction;)I" = some ⟨[.int, .int, .int, (.object "java/util/function/BiFunction")], some .int⟩ := by decide +kernel
theorem own_efcb (m : MethodId) (x0 : Int32) (x1 : Int32) (x2 : Int32) : entryFrame m #[(.int x0), (.int x1), (.int x2)] 3 = mkF m 0 #[.val (.int x0), .val (.int x1), .val (.int x2)] [] := by first | (simp [entryFrame, mkF, argsToLocals, Value.category]; done) | rfl
def own_Qcb (Z : State) (p1 : Int32) (p2 : Int32) (p3 : Int32) (of_ : Nat) (nn : Nat) (zc : Nat) (fm : Value) (h0 : Heap) (n0 : Nat) (v : Option Value) (h : Heap) (L : List Loc) : Prop := v = some (.int p1) ∧ Fr n0 L ∧ h = h0
def own_Rcb : Room := { frames := 1, cells := 0, slots := 0, locals := 15 }
set_option maxRecDepth 65536 in
set_option maxHeartbeats 40000000 in
theorem own_rmcb (l : Launch) (Z : State) (a0 : Array Value) (hw : ∀ d ∈ tables_1, d.before a0 Z = true) (ws : List Jvm.Cond) (p1 : Int32) (p2 : Int32) (p3 : Int32) (of_ : Nat) (nn : Nat) (zc : Nat) (fm : Value) (h0 : Heap) (n0 : Nat) (Z0 : n0 ≤ h0.size) (Xo : Old Z n0 h0) (hp1 : p1.toInt = (of_ : Int)) (hp2 : p2.toInt = (nn : Int)) (hp3 : p3.toInt = (zc : Int)) (SF : Sta Z Z.heap "jdk/internal/util/Preconditions" "SIOOBE_FORMATTER" "Ljava/util/function/BiFunction;" fm) (hfm : fm.isRef = true) (hbo : of_ + nn ≤ zc) (hz : zc ≤ 1000000) :
    MetFree l (⟨"java/lang/String", "checkBoundsOffCount", "(III)I"⟩ : MethodName) (head1 (Jvm.Cond.code (⟨"java/lang/String", "checkBoundsOffCount", "(III)I"⟩ : MethodName) jdk_42_method_157_code 3 (some .int) :: ws) own_Rcb) (fun aa U => aa = #[(.int p1), (.int p2), (.int p3)] ∧ Z.Warmed39 U.vm ∧ U.heap = h0) (fun _ _ _ _ _ => True) (fun _ U o U' => ∃ v L, o = .returned v ∧ own_Qcb Z p1 p2 p3 of_ nn zc fm h0 n0 v U'.heap L ∧ FrameEnd U o U' L own_Rcb.cells own_Rcb.slots) := by
  refine MetFree.of_bodySF (plainFor_of_name own_pn1) hisR ?_
  intro p e s m args below meth c s₁ Bd hml0 hP hK
  obtain ⟨rfl, hZ, hh⟩ := hP
  have hx := Bd.exec
  have hby := Bd.bytes
  have hml : c.maxLocals = 3 := hml0
  have hown : s.vm.findClass "java/lang/String" = some m.cls := findClass_of_methodNamed Bd.named
  have hnm := (name_of_methodNamed Bd.named Bd.method).1
  have X0 : Stand p l e own_Rcb s m #[(.int p1), (.int p2), (.int p3)] below meth c s₁ [] 0 0 := Stand.of_body Bd
  have e0 : s₁.heap = h0 := by rw [← hh, Bd.state]; rfl
  have N0 := Fr.nil n0
  have pre0 : ∀ t, Steps p.tables e below (s₁.setTop (mkF m 0 #[.val (.int p1), .val (.int p2), .val (.int p3)] [])) t → Steps p.tables e below (s₁.setTop (entryFrame m #[(.int p1), (.int p2), (.int p3)] 3)) t := fun t k => castTop (own_efcb m p1 p2 p3) k
  have k1 : ∀ t, Steps p.tables e below (s₁.setTop (mkF m 3 #[.val (.int p1), .val (.int p2), .val (.int p3)] [(.int p3), (.int p2), (.int p1)])) t → Steps p.tables e below (s₁.setTop (entryFrame m #[(.int p1), (.int p2), (.int p3)] 3)) t := by
    intro t k
    refine pre0 t ?_
    show Steps p.tables e below (s₁.setTop (mkF m 0 #[.val (.int p1), .val (.int p2), .val (.int p3)] [])) _
    refine XS.iloadN X0.here hx rfl (hb hby own_d7_0) rfl ?_
    show Steps p.tables e below (s₁.setTop (mkF m 1 #[.val (.int p1), .val (.int p2), .val (.int p3)] [(.int p1)])) _
    refine XS.iloadN X0.here hx rfl (hb hby own_d7_1) rfl ?_
    show Steps p.tables e below (s₁.setTop (mkF m 2 #[.val (.int p1), .val (.int p2), .val (.int p3)] [(.int p2), (.int p1)])) _
    refine XS.iloadN X0.here hx rfl (hb hby own_d7_2) rfl ?_
    exact k
  obtain ⟨T2, X2, e2, st2⟩ := getS2 X0 hx hZ hown (host := "") (Or.inl (hw _ (List.mem_of_getElem? (i := 36) rfl))) Via.refl e0 (SF.ext Xo.2) (g := (mkF m 3 #[.val (.int p1), .val (.int p2), .val (.int p3)] [(.int p3), (.int p2), (.int p1)])) rfl (hb hby own_d7_3)
  have k3 : ∀ t, Steps p.tables e below (T2.setTop (mkF m 6 #[.val (.int p1), .val (.int p2), .val (.int p3)] [fm, (.int p3), (.int p2), (.int p1)])) t → Steps p.tables e below (s₁.setTop (entryFrame m #[(.int p1), (.int p2), (.int p3)] 3)) t := fun t k => k1 t (st2 t k)
  obtain ⟨_, _, ⟨T4, L4, k4c, n4⟩, -, X4, ⟨Lc4, hQ4, l4, y4, z4⟩, st4⟩ := Jvm.LawKit.callS X2 hx (y := (⟨"jdk/internal/util/Preconditions", "checkFromIndexSize", "(IIILjava/util/function/BiFunction;)I"⟩ : MethodName)) hown (mvT hZ (hw _ (List.mem_of_getElem? (i := 38) rfl))) (mvT hZ (hw _ (List.mem_of_getElem? (i := 39) rfl))) (mvT hZ (hw _ (List.mem_of_getElem? (i := 37) rfl))) (mvT hZ (hw _ (List.mem_of_getElem? (i := 40) rfl))) (by decide) (backOf (W := 0) (own_rmfs l Z a0 hw [] p1 p2 p3 fm of_ nn zc h0 n0 Z0 hp1 hp2 hp3 (by omega) (by omega) hfm) hZ (hw _ (List.mem_of_getElem? (i := 40) rfl)) (hw _ (List.mem_of_getElem? (i := 37) rfl)) (by decide) (by decide)) (g := (mkF m 6 #[.val (.int p1), .val (.int p2), .val (.int p3)] [fm, (.int p3), (.int p2), (.int p1)])) rfl (by rw [hml]; rfl) (argsL := [(.int p1), (.int p2), (.int p3), fm]) (rest := []) (lenOf own_pd13 rfl) rfl (by show 2 * 0 + _ ≤ _; exact Nat.le_of_eq rfl) (hb hby own_d7_6) (fun _ _ => ⟨rfl, e2, (by decide : 0 + 0 ≤ _), (by decide : 0 + 0 ≤ _)⟩)
  dsimp only [Pt.U, Pt.locs, Pt.cells, Pt.slots] at X4 l4 y4 z4 st4 hQ4
  subst l4 y4 z4
  obtain ⟨rfl, N4q, e4⟩ := hQ4
  have N4 := Fr.app N0 N4q
  have k5 : ∀ t, Steps p.tables e below (T4.setTop (mkF m 9 #[.val (.int p1), .val (.int p2), .val (.int p3)] [(.int p1)])) t → Steps p.tables e below (s₁.setTop (entryFrame m #[(.int p1), (.int p2), (.int p3)] 3)) t := fun t k => k3 t (st4 t k)
  obtain ⟨fs, hr, hrun, hended, hW, hsame⟩ := X4.leave (v := (some (.int p1))) (fun h => by rw [Bd.returns] at h; cases h)
  refine ⟨_, _, k5 _ ?_, hrun, hended, _, _, rfl, ?_, ⟨_, rfl⟩, hW, hsame.mono (by decide) (by decide)⟩
  · exact retI X4 hx Bd.returns (hb hby own_d7_9) hr
  · show own_Qcb Z p1 p2 p3 of_ nn zc fm h0 n0 _ T4.heap _
    exact ⟨rfl, N4, e4⟩
theorem own_d6_0 : decode jdk_42_method_5_code 0 = .ok (.iload_n 1, 1) := by decide +kernel
theorem own_d6_1 : decode jdk_42_method_5_code 1 = .ok (.iload_n 2, 1) := by decide +kernel
theorem own_d6_2 : decode jdk_42_method_5_code 2 = .ok (.aload_n 0, 1) := by decide +kernel
theorem own_d6_3 : decode jdk_42_method_5_code 3 = .ok (.arraylength, 1) := by decide +kernel
theorem own_d6_4 : decode jdk_42_method_5_code 4 = .ok (.invokestatic 34, 3) := by decide +kernel
theorem own_d6_7 : decode jdk_42_method_5_code 7 = .ok (.pop, 1) := by decide +kernel
theorem own_d6_8 : decode jdk_42_method_5_code 8 = .ok (.aconst_null, 1) := by decide +kernel
theorem own_d6_9 : decode jdk_42_method_5_code 9 = .ok (.areturn, 1) := by decide +kernel
theorem own_pd14 : parseMethodDescriptor "(III)I" = some ⟨[.int, .int, .int], some .int⟩ := by decide +kernel
theorem own_efrc (m : MethodId) (x0 : Addr) (x1 : Int32) (x2 : Int32) : entryFrame m #[(.ref x0), (.int x1), (.int x2)] 3 = mkF m 0 #[.val (.ref x0), .val (.int x1), .val (.int x2)] [] := by first | (simp [entryFrame, mkF, argsToLocals, Value.category]; done) | rfl
def own_Qrc (Z : State) (p1 : Addr) (p2 : Int32) (p3 : Int32) (zc : Nat) (cf : Nat → Int32) (of_ : Nat) (nn : Nat) (fm : Value) (h0 : Heap) (n0 : Nat) (v : Option Value) (h : Heap) (L : List Loc) : Prop := v = some .null ∧ Fr n0 L ∧ h = h0
def own_Rrc : Room := { frames := 2, cells := 0, slots := 0, locals := 29 }
set_option maxRecDepth 65536 in
set_option maxHeartbeats 40000000 in
theorem own_rmrc (l : Launch) (Z : State) (a0 : Array Value) (hw : ∀ d ∈ tables_1, d.before a0 Z = true) (ws : List Jvm.Cond) (p1 : Addr) (p2 : Int32) (p3 : Int32) (zc : Nat) (cf : Nat → Int32) (of_ : Nat) (nn : Nat) (fm : Value) (h0 : Heap) (n0 : Nat) (Z0 : n0 ≤ h0.size) (P0 : own_G Z h0 p1 .char zc cf) (Xo : Old Z n0 h0) (hp2 : p2.toInt = (of_ : Int)) (hp3 : p3.toInt = (nn : Int)) (SF : Sta Z Z.heap "jdk/internal/util/Preconditions" "SIOOBE_FORMATTER" "Ljava/util/function/BiFunction;" fm) (hfm : fm.isRef = true) (hbo : of_ + nn ≤ zc) (hz : zc ≤ 1000000) :
    MetFree l (⟨"java/lang/String", "rangeCheck", "([CII)Ljava/lang/Void;"⟩ : MethodName) (head1 (Jvm.Cond.code (⟨"java/lang/String", "rangeCheck", "([CII)Ljava/lang/Void;"⟩ : MethodName) jdk_42_method_5_code 3 (some (.object "java/lang/Void")) :: ws) own_Rrc) (fun aa U => aa = #[(.ref p1), (.int p2), (.int p3)] ∧ Z.Warmed39 U.vm ∧ U.heap = h0) (fun _ _ _ _ _ => True) (fun _ U o U' => ∃ v L, o = .returned v ∧ own_Qrc Z p1 p2 p3 zc cf of_ nn fm h0 n0 v U'.heap L ∧ FrameEnd U o U' L own_Rrc.cells own_Rrc.slots) := by
  refine MetFree.of_bodySF (plainFor_of_name own_pn1) hisR ?_
  intro p e s m args below meth c s₁ Bd hml0 hP hK
  obtain ⟨rfl, hZ, hh⟩ := hP
  have hx := Bd.exec
  have hby := Bd.bytes
  have hml : c.maxLocals = 3 := hml0
  have hown : s.vm.findClass "java/lang/String" = some m.cls := findClass_of_methodNamed Bd.named
  have hnm := (name_of_methodNamed Bd.named Bd.method).1
  have X0 : Stand p l e own_Rrc s m #[(.ref p1), (.int p2), (.int p3)] below meth c s₁ [] 0 0 := Stand.of_body Bd
  have e0 : s₁.heap = h0 := by rw [← hh, Bd.state]; rfl
  have N0 := Fr.nil n0
  have pre0 : ∀ t, Steps p.tables e below (s₁.setTop (mkF m 0 #[.val (.ref p1), .val (.int p2), .val (.int p3)] [])) t → Steps p.tables e below (s₁.setTop (entryFrame m #[(.ref p1), (.int p2), (.int p3)] 3)) t := fun t k => castTop (own_efrc m p1 p2 p3) k
  have k1 : ∀ t, Steps p.tables e below (s₁.setTop (mkF m 4 #[.val (.ref p1), .val (.int p2), .val (.int p3)] [(.int (Nat.toInt32 zc)), (.int p3), (.int p2)])) t → Steps p.tables e below (s₁.setTop (entryFrame m #[(.ref p1), (.int p2), (.int p3)] 3)) t := by
    intro t k
    refine pre0 t ?_
    show Steps p.tables e below (s₁.setTop (mkF m 0 #[.val (.ref p1), .val (.int p2), .val (.int p3)] [])) _
    refine XS.iloadN X0.here hx rfl (hb hby own_d6_0) rfl ?_
    show Steps p.tables e below (s₁.setTop (mkF m 1 #[.val (.ref p1), .val (.int p2), .val (.int p3)] [(.int p2)])) _
    refine XS.iloadN X0.here hx rfl (hb hby own_d6_1) rfl ?_
    show Steps p.tables e below (s₁.setTop (mkF m 2 #[.val (.ref p1), .val (.int p2), .val (.int p3)] [(.int p3), (.int p2)])) _
    refine XS.aloadN X0.here hx rfl (hb hby own_d6_2) rfl rfl ?_
    show Steps p.tables e below (s₁.setTop (mkF m 3 #[.val (.ref p1), .val (.int p2), .val (.int p3)] [(.ref p1), (.int p3), (.int p2)])) _
    refine own_len X0 hx hZ e0 P0 (g := (mkF m 3 #[.val (.ref p1), .val (.int p2), .val (.int p3)] [(.ref p1), (.int p3), (.int p2)])) rfl rfl (hb hby own_d6_3) ?_
    exact k
  obtain ⟨_, _, ⟨T2, L2, k2c, n2⟩, -, X2, ⟨Lc2, hQ2, l2, y2, z2⟩, st2⟩ := Jvm.LawKit.callS X0 hx (y := (⟨"java/lang/String", "checkBoundsOffCount", "(III)I"⟩ : MethodName)) hown (mvT hZ (hw _ (List.mem_of_getElem? (i := 33) rfl))) (mvT hZ (hw _ (List.mem_of_getElem? (i := 34) rfl))) (mvT hZ (hw _ (List.mem_of_getElem? (i := 26) rfl))) (mvT hZ (hw _ (List.mem_of_getElem? (i := 35) rfl))) (by decide) (backOf (W := 0) (own_rmcb l Z a0 hw [] p2 p3 (Nat.toInt32 zc) of_ nn zc fm h0 n0 Z0 Xo hp2 hp3 (own_of_nat P0.small) SF hfm (by omega) (by omega)) hZ (hw _ (List.mem_of_getElem? (i := 35) rfl)) (hw _ (List.mem_of_getElem? (i := 26) rfl)) (by decide) (by decide)) (g := (mkF m 4 #[.val (.ref p1), .val (.int p2), .val (.int p3)] [(.int (Nat.toInt32 zc)), (.int p3), (.int p2)])) rfl (by rw [hml]; rfl) (argsL := [(.int p2), (.int p3), (.int (Nat.toInt32 zc))]) (rest := []) (lenOf own_pd14 rfl) rfl (by show 2 * 0 + _ ≤ _; exact Nat.le_of_eq rfl) (hb hby own_d6_4) (fun _ _ => ⟨rfl, e0, (by decide : 0 + 0 ≤ _), (by decide : 0 + 0 ≤ _)⟩)
  dsimp only [Pt.U, Pt.locs, Pt.cells, Pt.slots] at X2 l2 y2 z2 st2 hQ2
  subst l2 y2 z2
  obtain ⟨rfl, N2q, e2⟩ := hQ2
  have N2 := Fr.app N0 N2q
  have k3 : ∀ t, Steps p.tables e below (T2.setTop (mkF m 7 #[.val (.ref p1), .val (.int p2), .val (.int p3)] [(.int p2)])) t → Steps p.tables e below (s₁.setTop (entryFrame m #[(.ref p1), (.int p2), (.int p3)] 3)) t := fun t k => k1 t (st2 t k)
  have k4 : ∀ t, Steps p.tables e below (T2.setTop (mkF m 9 #[.val (.ref p1), .val (.int p2), .val (.int p3)] [.null])) t → Steps p.tables e below (s₁.setTop (entryFrame m #[(.ref p1), (.int p2), (.int p3)] 3)) t := by
    intro t k
    refine k3 t ?_
    show Steps p.tables e below (T2.setTop (mkF m 7 #[.val (.ref p1), .val (.int p2), .val (.int p3)] [(.int p2)])) _
    refine XS.pop X2.here hx rfl (hb hby own_d6_7) rfl rfl ?_
    show Steps p.tables e below (T2.setTop (mkF m 8 #[.val (.ref p1), .val (.int p2), .val (.int p3)] [])) _
    refine XS.aconstNull X2.here hx rfl (hb hby own_d6_8) ?_
    exact k
  obtain ⟨fs, hr, hrun, hended, hW, hsame⟩ := X2.leave (v := (some .null)) (fun h => by rw [Bd.returns] at h; cases h)
  refine ⟨_, _, k4 _ ?_, hrun, hended, _, _, rfl, ?_, ⟨_, rfl⟩, hW, hsame.mono (by decide) (by decide)⟩
  · exact retOut X2 hx Bd.returns rfl (Or.inr (Or.inr (Or.inr (Or.inr ⟨rfl, rfl, rfl⟩)))) (hb hby own_d6_9) hr
  · show own_Qrc Z p1 p2 p3 zc cf of_ nn fm h0 n0 _ T2.heap _
    exact ⟨rfl, N2, e2⟩
theorem own_d5_0 : decode jdk_42_method_4_code 0 = .ok (.aload_n 0, 1) := by decide +kernel
theorem own_d5_1 : decode jdk_42_method_4_code 1 = .ok (.aload_n 1, 1) := by decide +kernel
theorem own_d5_2 : decode jdk_42_method_4_code 2 = .ok (.iload_n 2, 1) := by decide +kernel
theorem own_d5_3 : decode jdk_42_method_4_code 3 = .ok (.iload_n 3, 1) := by decide +kernel
theorem own_d5_4 : decode jdk_42_method_4_code 4 = .ok (.aload_n 1, 1) := by decide +kernel
theorem own_d5_5 : decode jdk_42_method_4_code 5 = .ok (.iload_n 2, 1) := by decide +kernel
theorem own_d5_6 : decode jdk_42_method_4_code 6 = .ok (.iload_n 3, 1) := by decide +kernel
theorem own_d5_7 : decode jdk_42_method_4_code 7 = .ok (.invokestatic 30, 3) := by decide +kernel
theorem own_d5_10 : decode jdk_42_method_4_code 10 = .ok (.invokespecial 27, 3) := by decide +kernel
theorem own_d5_13 : decode jdk_42_method_4_code 13 = .ok (.return_, 1) := by decide +kernel
theorem own_pd15 : parseMethodDescriptor "([CII)Ljava/lang/Void;" = some ⟨[(.array .char), .int, .int], some (.object "java/lang/Void")⟩ := by decide +kernel
theorem own_pd16 : parseMethodDescriptor "([CIILjava/lang/Void;)V" = some ⟨[(.array .char), .int, .int, (.object "java/lang/Void")], none⟩ := by decide +kernel
theorem own_efs3 (m : MethodId) (x0 : Addr) (x1 : Addr) (x2 : Int32) (x3 : Int32) : entryFrame m #[(.ref x0), (.ref x1), (.int x2), (.int x3)] 4 = mkF m 0 #[.val (.ref x0), .val (.ref x1), .val (.int x2), .val (.int x3)] [] := by first | (simp [entryFrame, mkF, argsToLocals, Value.category]; done) | rfl
def own_Qs3 (Z : State) (a : Addr) (p1 : Addr) (p2 : Int32) (p3 : Int32) (u1 : Value) (u2 : Value) (zc : Nat) (cf : Nat → Int32) (of_ : Nat) (nn : Nat) (cs : Int32) (fm : Value) (h0 : Heap) (n0 : Nat) (v : Option Value) (h : Heap) (L : List Loc) : Prop := v = none ∧ Fr n0 L ∧ Keep h0 h [a] ∧ own_Str Z h a nn of_ cf
def own_Rs3 : Room := { frames := 5, cells := 2, slots := 12, locals := 74 }
set_option maxRecDepth 65536 in
set_option maxHeartbeats 40000000 in
theorem own_rms3 (l : Launch) (Z : State) (a0 : Array Value) (hw : ∀ d ∈ tables_1, d.before a0 Z = true) (ws : List Jvm.Cond) (a : Addr) (p1 : Addr) (p2 : Int32) (p3 : Int32) (u1 : Value) (u2 : Value) (zc : Nat) (cf : Nat → Int32) (of_ : Nat) (nn : Nat) (cs : Int32) (fm : Value) (h0 : Heap) (n0 : Nat) (Z0 : n0 ≤ h0.size) (P0 : Exa Z h0 a "java/lang/String") (P1 : Fld Z h0 a "java/lang/String" "value" "[B" u1) (P2 : Fld Z h0 a "java/lang/String" "coder" "B" u2) (P3 : own_G Z h0 p1 .char zc cf) (ge_a : n0 ≤ a) (ne_p1_a : p1 ≠ a) (Xo : Old Z n0 h0) (hp2 : p2.toInt = (of_ : Int)) (hp3 : p3.toInt = (nn : Int)) (SC : Sta Z Z.heap "java/lang/String" "COMPACT_STRINGS" "Z" (.int cs)) (SA : Sta Z Z.heap "java/lang/StringUTF16" "$assertionsDisabled" "Z" (.int (1 : Int32))) (SH : Sta Z Z.heap "java/lang/StringUTF16" "HI_BYTE_SHIFT" "I" (.int (0 : Int32))) (SL : Sta Z Z.heap "java/lang/StringUTF16" "LO_BYTE_SHIFT" "I" (.int (8 : Int32))) (SF : Sta Z Z.heap "jdk/internal/util/Preconditions" "SIOOBE_FORMATTER" "Ljava/util/function/BiFunction;" fm) (hcs : ¬ (cs = (0 : Int32))) (hfm : fm.isRef = true) (hbo : of_ + nn ≤ zc) (hz : zc ≤ 1000000) (hn : nn ≤ 4) (hn0 : 0 < nn) (hch : ∀ i, i < nn → own_ch (cf (of_ + i))) :
    MetFree l (⟨"java/lang/String", "<init>", "([CII)V"⟩ : MethodName) (head1 (Jvm.Cond.code (⟨"java/lang/String", "<init>", "([CII)V"⟩ : MethodName) jdk_42_method_4_code 4 none :: ws) own_Rs3) (fun aa U => aa = #[(.ref a), (.ref p1), (.int p2), (.int p3)] ∧ Z.Warmed39 U.vm ∧ U.heap = h0) (fun _ _ _ _ _ => True) (fun _ U o U' => ∃ v L, o = .returned v ∧ own_Qs3 Z a p1 p2 p3 u1 u2 zc cf of_ nn cs fm h0 n0 v U'.heap L ∧ FrameEnd U o U' L own_Rs3.cells own_Rs3.slots) := by
  refine MetFree.of_bodySF (plainFor_of_name own_pn1) hisR ?_
  intro p e s m args below meth c s₁ Bd hml0 hP hK
  obtain ⟨rfl, hZ, hh⟩ := hP
  have hx := Bd.exec
  have hby := Bd.bytes
  have hml : c.maxLocals = 4 := hml0
  have hown : s.vm.findClass "java/lang/String" = some m.cls := findClass_of_methodNamed Bd.named
  have hnm := (name_of_methodNamed Bd.named Bd.method).1
  have X0 : Stand p l e own_Rs3 s m #[(.ref a), (.ref p1), (.int p2), (.int p3)] below meth c s₁ [] 0 0 := Stand.of_body Bd
  have e0 : s₁.heap = h0 := by rw [← hh, Bd.state]; rfl
  have N0 := Fr.nil n0
  have pre0 : ∀ t, Steps p.tables e below (s₁.setTop (mkF m 0 #[.val (.ref a), .val (.ref p1), .val (.int p2), .val (.int p3)] [])) t → Steps p.tables e below (s₁.setTop (entryFrame m #[(.ref a), (.ref p1), (.int p2), (.int p3)] 4)) t := fun t k => castTop (own_efs3 m a p1 p2 p3) k
  have k1 : ∀ t, Steps p.tables e below (s₁.setTop (mkF m 7 #[.val (.ref a), .val (.ref p1), .val (.int p2), .val (.int p3)] [(.int p3), (.int p2), (.ref p1), (.int p3), (.int p2), (.ref p1), (.ref a)])) t → Steps p.tables e below (s₁.setTop (entryFrame m #[(.ref a), (.ref p1), (.int p2), (.int p3)] 4)) t := by
    intro t k
    refine pre0 t ?_
    show Steps p.tables e below (s₁.setTop (mkF m 0 #[.val (.ref a), .val (.ref p1), .val (.int p2), .val (.int p3)] [])) _
    refine XS.aloadN X0.here hx rfl (hb hby own_d5_0) rfl rfl ?_
    show Steps p.tables e below (s₁.setTop (mkF m 1 #[.val (.ref a), .val (.ref p1), .val (.int p2), .val (.int p3)] [(.ref a)])) _
    refine XS.aloadN X0.here hx rfl (hb hby own_d5_1) rfl rfl ?_
    show Steps p.tables e below (s₁.setTop (mkF m 2 #[.val (.ref a), .val (.ref p1), .val (.int p2), .val (.int p3)] [(.ref p1), (.ref a)])) _
    refine XS.iloadN X0.here hx rfl (hb hby own_d5_2) rfl ?_
    show Steps p.tables e below (s₁.setTop (mkF m 3 #[.val (.ref a), .val (.ref p1), .val (.int p2), .val (.int p3)] [(.int p2), (.ref p1), (.ref a)])) _
    refine XS.iloadN X0.here hx rfl (hb hby own_d5_3) rfl ?_
    show Steps p.tables e below (s₁.setTop (mkF m 4 #[.val (.ref a), .val (.ref p1), .val (.int p2), .val (.int p3)] [(.int p3), (.int p2), (.ref p1), (.ref a)])) _
    refine XS.aloadN X0.here hx rfl (hb hby own_d5_4) rfl rfl ?_
    show Steps p.tables e below (s₁.setTop (mkF m 5 #[.val (.ref a), .val (.ref p1), .val (.int p2), .val (.int p3)] [(.ref p1), (.int p3), (.int p2), (.ref p1), (.ref a)])) _
    refine XS.iloadN X0.here hx rfl (hb hby own_d5_5) rfl ?_
    show Steps p.tables e below (s₁.setTop (mkF m 6 #[.val (.ref a), .val (.ref p1), .val (.int p2), .val (.int p3)] [(.int p2), (.ref p1), (.int p3), (.int p2), (.ref p1), (.ref a)])) _
    refine XS.iloadN X0.here hx rfl (hb hby own_d5_6) rfl ?_
    exact k
  obtain ⟨_, _, ⟨T2, L2, k2c, n2⟩, -, X2, ⟨Lc2, hQ2, l2, y2, z2⟩, st2⟩ := Jvm.LawKit.callS X0 hx (y := (⟨"java/lang/String", "rangeCheck", "([CII)Ljava/lang/Void;"⟩ : MethodName)) hown (mvT hZ (hw _ (List.mem_of_getElem? (i := 30) rfl))) (mvT hZ (hw _ (List.mem_of_getElem? (i := 31) rfl))) (mvT hZ (hw _ (List.mem_of_getElem? (i := 26) rfl))) (mvT hZ (hw _ (List.mem_of_getElem? (i := 32) rfl))) (by decide) (backOf (W := 4) (own_rmrc l Z a0 hw [] p1 p2 p3 zc cf of_ nn fm h0 n0 Z0 P3 Xo hp2 hp3 SF hfm (by omega) (by omega)) hZ (hw _ (List.mem_of_getElem? (i := 32) rfl)) (hw _ (List.mem_of_getElem? (i := 26) rfl)) (by decide) (by decide)) (g := (mkF m 7 #[.val (.ref a), .val (.ref p1), .val (.int p2), .val (.int p3)] [(.int p3), (.int p2), (.ref p1), (.int p3), (.int p2), (.ref p1), (.ref a)])) rfl (by rw [hml]; rfl) (argsL := [(.ref p1), (.int p2), (.int p3)]) (rest := [(.int p3), (.int p2), (.ref p1), (.ref a)]) (lenOf own_pd15 rfl) rfl (by show 2 * 0 + _ ≤ _; exact Nat.le_of_eq rfl) (hb hby own_d5_7) (fun _ _ => ⟨rfl, e0, (by decide : 0 + 0 ≤ _), (by decide : 0 + 0 ≤ _)⟩)
  dsimp only [Pt.U, Pt.locs, Pt.cells, Pt.slots] at X2 l2 y2 z2 st2 hQ2
  subst l2 y2 z2
  obtain ⟨rfl, N2q, e2⟩ := hQ2
  have N2 := Fr.app N0 N2q
  have k3 : ∀ t, Steps p.tables e below (T2.setTop (mkF m 10 #[.val (.ref a), .val (.ref p1), .val (.int p2), .val (.int p3)] [.null, (.int p3), (.int p2), (.ref p1), (.ref a)])) t → Steps p.tables e below (s₁.setTop (entryFrame m #[(.ref a), (.ref p1), (.int p2), (.int p3)] 4)) t := fun t k => k1 t (st2 t k)
  obtain ⟨_, _, ⟨T4, L4, k4c, n4⟩, -, X4, ⟨Lc4, hQ4, l4, y4, z4⟩, st4⟩ := X2.specialBack hx (y := (⟨"java/lang/String", "<init>", "([CIILjava/lang/Void;)V"⟩ : MethodName)) rfl hown (mvT hZ (hw _ (List.mem_of_getElem? (i := 41) rfl))) (mvT hZ (hw _ (List.mem_of_getElem? (i := 42) rfl))) (mvT hZ (hw _ (List.mem_of_getElem? (i := 44) rfl))) (by decide) (backOf (W := 0) (own_rms2 l Z a0 hw [] a p1 p2 p3 u1 u2 zc cf of_ nn cs h0 n0 Z0 P0 P1 P2 P3 ge_a ne_p1_a Xo hp2 hp3 SC SA SH SL hcs (by omega) (by omega) (by omega) hch (by omega)) hZ (hw _ (List.mem_of_getElem? (i := 44) rfl)) (hw _ (List.mem_of_getElem? (i := 26) rfl)) (by decide) (by decide)) (g := (mkF m 10 #[.val (.ref a), .val (.ref p1), .val (.int p2), .val (.int p3)] [.null, (.int p3), (.int p2), (.ref p1), (.ref a)])) rfl (by rw [hml]; rfl) (Steps.refl _) (a := a) (argsL := [(.ref p1), (.int p2), (.int p3), .null]) (rest := []) (lenOf own_pd16 rfl) rfl (by show 2 * 0 + _ ≤ _; exact Nat.le_of_eq rfl) (hb hby own_d5_10) (fun _ _ => ⟨rfl, e2, (by decide : 0 + 2 ≤ _), (by decide : 0 + 12 ≤ _)⟩)
  dsimp only [Pt.U, Pt.locs, Pt.cells, Pt.slots] at X4 l4 y4 z4 st4 hQ4
  subst l4 y4 z4
  obtain ⟨rfl, N4q, Kq4, fq4_0⟩ := hQ4
  have N4 := Fr.app N2 N4q
  have f5 := P0.keep Kq4
  have f6 := P3.keep Kq4 (List.not_mem_cons_of_ne_of_not_mem ne_p1_a List.not_mem_nil)
  have Z4 : n0 ≤ T4.heap.size := Nat.le_trans Z0 Kq4.1
  have K4 : Keep h0 T4.heap [a] := (Keep.refl h0 [a]).trans Kq4 (fun x hx => by rcases List.mem_cons.mp hx with rfl | hx; exact Or.inl (List.mem_of_getElem? (i := 0) rfl); exact nomatch hx)
  have Xo4 := Xo.keep Kq4 (allS ge_a all0)
  have k7 : ∀ t, Steps p.tables e below (T4.setTop (mkF m 13 #[.val (.ref a), .val (.ref p1), .val (.int p2), .val (.int p3)] [])) t → Steps p.tables e below (s₁.setTop (entryFrame m #[(.ref a), (.ref p1), (.int p2), (.int p3)] 4)) t := fun t k => k3 t (st4.trans k)
  obtain ⟨fs, hr, hrun, hended, hW, hsame⟩ := X4.leave (v := none) (fun _ => rfl)
  refine ⟨_, _, k7 _ ?_, hrun, hended, _, _, rfl, ?_, ⟨_, rfl⟩, hW, hsame.mono (by decide) (by decide)⟩
  · exact X4.returnOut hx Bd.returns (hb hby own_d5_13) hr
  · show own_Qs3 Z a p1 p2 p3 u1 u2 zc cf of_ nn cs fm h0 n0 _ T4.heap _
    exact ⟨rfl, N4, K4, fq4_0⟩
theorem own_efs3w (m : MethodId) (x0 : Addr) (x1 : Addr) (x2 : Int32) (x3 : Int32) : entryFrame m #[(.ref x0), (.ref x1), (.int x2), (.int x3)] 4 = mkF m 0 #[.val (.ref x0), .val (.ref x1), .val (.int x2), .val (.int x3)] [] := by first | (simp [entryFrame, mkF, argsToLocals, Value.category]; done) | rfl
def own_Qs3w (Z : State) (a : Addr) (p1 : Addr) (p2 : Int32) (p3 : Int32) (u2 : Value) (zc : Nat) (cf : Nat → Int32) (of_ : Nat) (fm : Value) (h0 : Heap) (n0 : Nat) (v : Option Value) (h : Heap) (L : List Loc) : Prop := v = none ∧ Fr n0 L ∧ Keep h0 h [a] ∧ own_Str Z h a 0 of_ cf
def own_Rs3w : Room := { frames := 3, cells := 2, slots := 4, locals := 47 }
set_option maxRecDepth 65536 in
set_option maxHeartbeats 40000000 in
theorem own_rms3w (l : Launch) (Z : State) (a0 : Array Value) (hw : ∀ d ∈ tables_1, d.before a0 Z = true) (ws : List Jvm.Cond) (a : Addr) (p1 : Addr) (p2 : Int32) (p3 : Int32) (u2 : Value) (zc : Nat) (cf : Nat → Int32) (of_ : Nat) (fm : Value) (h0 : Heap) (n0 : Nat) (Z0 : n0 ≤ h0.size) (P0 : Exa Z h0 a "java/lang/String") (P1 : Fld Z h0 a "java/lang/String" "value" "[B" .null) (P2 : Fld Z h0 a "java/lang/String" "coder" "B" u2) (P3 : own_G Z h0 p1 .char zc cf) (ge_a : n0 ≤ a) (ne_p1_a : p1 ≠ a) (Xo : Old Z n0 h0) (hp2 : p2.toInt = (of_ : Int)) (hp3 : p3.toInt = (0 : Int)) (SF : Sta Z Z.heap "jdk/internal/util/Preconditions" "SIOOBE_FORMATTER" "Ljava/util/function/BiFunction;" fm) (hfm : fm.isRef = true) (hbo : of_ ≤ zc) (hz : zc ≤ 1000000) :
    MetFree l (⟨"java/lang/String", "<init>", "([CII)V"⟩ : MethodName) (head1 (Jvm.Cond.code (⟨"java/lang/String", "<init>", "([CII)V"⟩ : MethodName) jdk_42_method_4_code 4 none :: ws) own_Rs3w) (fun aa U => aa = #[(.ref a), (.ref p1), (.int p2), (.int p3)] ∧ Z.Warmed39 U.vm ∧ U.heap = h0 ∧ CHv Z own_EL U.vm h0) (fun _ _ _ _ _ => True) (fun _ U o U' => ∃ v L, o = .returned v ∧ own_Qs3w Z a p1 p2 p3 u2 zc cf of_ fm h0 n0 v U'.heap L ∧ ReturnedEndW U o U' L own_Rs3w.cells own_Rs3w.slots) := by
  refine MetFree.of_bodySF (plainFor_of_name own_pn1) hisR ?_
  intro p e s m args below meth c s₁ Bd hml0 hP hK
  obtain ⟨rfl, hZ, hh, hH0⟩ := hP
  have hx := Bd.exec
  have hby := Bd.bytes
  have hml : c.maxLocals = 4 := hml0
  have hown : s.vm.findClass "java/lang/String" = some m.cls := findClass_of_methodNamed Bd.named
  have hnm := (name_of_methodNamed Bd.named Bd.method).1
  have X0 : Stand p l e own_Rs3w s m #[(.ref a), (.ref p1), (.int p2), (.int p3)] below meth c s₁ [] 0 0 := Stand.of_body Bd
  have e0 : s₁.heap = h0 := by rw [← hh, Bd.state]; rfl
  have N0 := Fr.nil n0
  have pre0 : ∀ t, Steps p.tables e below (s₁.setTop (mkF m 0 #[.val (.ref a), .val (.ref p1), .val (.int p2), .val (.int p3)] [])) t → Steps p.tables e below (s₁.setTop (entryFrame m #[(.ref a), (.ref p1), (.int p2), (.int p3)] 4)) t := fun t k => castTop (own_efs3w m a p1 p2 p3) k
  have k1 : ∀ t, Steps p.tables e below (s₁.setTop (mkF m 7 #[.val (.ref a), .val (.ref p1), .val (.int p2), .val (.int p3)] [(.int p3), (.int p2), (.ref p1), (.int p3), (.int p2), (.ref p1), (.ref a)])) t → Steps p.tables e below (s₁.setTop (entryFrame m #[(.ref a), (.ref p1), (.int p2), (.int p3)] 4)) t := by
    intro t k
    refine pre0 t ?_
    show Steps p.tables e below (s₁.setTop (mkF m 0 #[.val (.ref a), .val (.ref p1), .val (.int p2), .val (.int p3)] [])) _
    refine XS.aloadN X0.here hx rfl (hb hby own_d5_0) rfl rfl ?_
    show Steps p.tables e below (s₁.setTop (mkF m 1 #[.val (.ref a), .val (.ref p1), .val (.int p2), .val (.int p3)] [(.ref a)])) _
    refine XS.aloadN X0.here hx rfl (hb hby own_d5_1) rfl rfl ?_
    show Steps p.tables e below (s₁.setTop (mkF m 2 #[.val (.ref a), .val (.ref p1), .val (.int p2), .val (.int p3)] [(.ref p1), (.ref a)])) _
    refine XS.iloadN X0.here hx rfl (hb hby own_d5_2) rfl ?_
    show Steps p.tables e below (s₁.setTop (mkF m 3 #[.val (.ref a), .val (.ref p1), .val (.int p2), .val (.int p3)] [(.int p2), (.ref p1), (.ref a)])) _
    refine XS.iloadN X0.here hx rfl (hb hby own_d5_3) rfl ?_
    show Steps p.tables e below (s₁.setTop (mkF m 4 #[.val (.ref a), .val (.ref p1), .val (.int p2), .val (.int p3)] [(.int p3), (.int p2), (.ref p1), (.ref a)])) _
    refine XS.aloadN X0.here hx rfl (hb hby own_d5_4) rfl rfl ?_
    show Steps p.tables e below (s₁.setTop (mkF m 5 #[.val (.ref a), .val (.ref p1), .val (.int p2), .val (.int p3)] [(.ref p1), (.int p3), (.int p2), (.ref p1), (.ref a)])) _
    refine XS.iloadN X0.here hx rfl (hb hby own_d5_5) rfl ?_
    show Steps p.tables e below (s₁.setTop (mkF m 6 #[.val (.ref a), .val (.ref p1), .val (.int p2), .val (.int p3)] [(.int p2), (.ref p1), (.int p3), (.int p2), (.ref p1), (.ref a)])) _
    refine XS.iloadN X0.here hx rfl (hb hby own_d5_6) rfl ?_
    exact k
  obtain ⟨_, _, ⟨T2, L2, k2c, n2⟩, -, X2, ⟨Lc2, hQ2, l2, y2, z2⟩, st2⟩ := Jvm.LawKit.callS X0 hx (y := (⟨"java/lang/String", "rangeCheck", "([CII)Ljava/lang/Void;"⟩ : MethodName)) hown (mvT hZ (hw _ (List.mem_of_getElem? (i := 30) rfl))) (mvT hZ (hw _ (List.mem_of_getElem? (i := 31) rfl))) (mvT hZ (hw _ (List.mem_of_getElem? (i := 26) rfl))) (mvT hZ (hw _ (List.mem_of_getElem? (i := 32) rfl))) (by decide) (backOf (W := 4) (own_rmrc l Z a0 hw [] p1 p2 p3 zc cf of_ 0 fm h0 n0 Z0 P3 Xo hp2 hp3 SF hfm (by omega) (by omega)) hZ (hw _ (List.mem_of_getElem? (i := 32) rfl)) (hw _ (List.mem_of_getElem? (i := 26) rfl)) (by decide) (by decide)) (g := (mkF m 7 #[.val (.ref a), .val (.ref p1), .val (.int p2), .val (.int p3)] [(.int p3), (.int p2), (.ref p1), (.int p3), (.int p2), (.ref p1), (.ref a)])) rfl (by rw [hml]; rfl) (argsL := [(.ref p1), (.int p2), (.int p3)]) (rest := [(.int p3), (.int p2), (.ref p1), (.ref a)]) (lenOf own_pd15 rfl) rfl (by show 2 * 0 + _ ≤ _; exact Nat.le_of_eq rfl) (hb hby own_d5_7) (fun _ _ => ⟨rfl, e0, (by decide : 0 + 0 ≤ _), (by decide : 0 + 0 ≤ _)⟩)
  dsimp only [Pt.U, Pt.locs, Pt.cells, Pt.slots] at X2 l2 y2 z2 st2 hQ2
  subst l2 y2 z2
  obtain ⟨rfl, N2q, e2⟩ := hQ2
  have N2 := Fr.app N0 N2q
  have k3 : ∀ t, Steps p.tables e below (T2.setTop (mkF m 10 #[.val (.ref a), .val (.ref p1), .val (.int p2), .val (.int p3)] [.null, (.int p3), (.int p2), (.ref p1), (.ref a)])) t → Steps p.tables e below (s₁.setTop (entryFrame m #[(.ref a), (.ref p1), (.int p2), (.int p3)] 4)) t := fun t k => k1 t (st2 t k)
  obtain ⟨_, T4, L4, X4, Si4, hZ, hown, hQ4, st4⟩ := own_callIW (W := 0) X2 hx hw hZ hown hH0 (hw _ (List.mem_of_getElem? (i := 41) rfl)) (hw _ (List.mem_of_getElem? (i := 42) rfl)) (hw _ (List.mem_of_getElem? (i := 26) rfl)) (hw _ (List.mem_of_getElem? (i := 44) rfl)) rfl (by decide) (own_rms2w l Z a0 hw [] a p1 p2 p3 u2 cf of_ h0 n0 Z0 P0 P1 P2 ge_a (own_eq0 hp3)) (by decide) (by decide) e2 (g := (mkF m 10 #[.val (.ref a), .val (.ref p1), .val (.int p2), .val (.int p3)] [.null, (.int p3), (.int p2), (.ref p1), (.ref a)])) rfl (by rw [hml]; rfl) own_pd16 (a := a) (argsL := [(.ref p1), (.int p2), (.int p3), .null]) (rest := []) rfl rfl rfl (by show 2 * 0 + _ ≤ _; exact Nat.le_of_eq rfl) (hb hby own_d5_10) (by decide) (by decide)
  obtain ⟨rfl, N4q, Kq4, fq4_0⟩ := hQ4
  have N4 := Fr.app N2 N4q
  have f5 := P0.keep Kq4
  have f6 := P3.keep Kq4 (List.not_mem_cons_of_ne_of_not_mem ne_p1_a List.not_mem_nil)
  have Z4 : n0 ≤ T4.heap.size := Nat.le_trans Z0 Kq4.1
  have K4 : Keep h0 T4.heap [a] := (Keep.refl h0 [a]).trans Kq4 (fun x hx => by rcases List.mem_cons.mp hx with rfl | hx; exact Or.inl (List.mem_of_getElem? (i := 0) rfl); exact nomatch hx)
  have Xo4 := Xo.keep Kq4 (allS ge_a all0)
  have k7 : ∀ t, Steps p.tables e below (T4.setTop (mkF m 13 #[.val (.ref a), .val (.ref p1), .val (.int p2), .val (.int p3)] [])) t → Steps p.tables e below (s₁.setTop (entryFrame m #[(.ref a), (.ref p1), (.int p2), (.int p3)] 4)) t := fun t k => k3 t (st4 t k)
  obtain ⟨fs, hr, hrun, hended, hE⟩ := Stand.leaveW (s := s) X4 Si4 (Nat.le_refl _) (v := none) (fun _ => rfl)
  refine ⟨_, _, k7 _ ?_, hrun, hended, _, _, rfl, ?_, ⟨_, rfl⟩, hE.2.1, hE.2.2.1, hE.2.2.2.mono (by decide) (by decide)⟩
  · exact X4.returnOut hx Bd.returns (hb hby own_d5_13) hr
  · show own_Qs3w Z a p1 p2 p3 u2 zc cf of_ fm h0 n0 _ T4.heap _
    exact ⟨rfl, N4, K4, fq4_0⟩
def own_vmn (p1 : Int32) (p2 : Int32) : Int32 :=
  if p2 < p1 then p2 else
  p1
theorem own_d34_0 : decode jdk_29_method_69_code 0 = .ok (.iload_n 0, 1) := by decide +kernel
theorem own_d34_1 : decode jdk_29_method_69_code 1 = .ok (.iload_n 1, 1) := by decide +kernel
theorem own_d34_2 : decode jdk_29_method_69_code 2 = .ok (.if_icmp .gt 7, 3) := by decide +kernel
theorem own_d34_5 : decode jdk_29_method_69_code 5 = .ok (.iload_n 0, 1) := by decide +kernel
theorem own_d34_6 : decode jdk_29_method_69_code 6 = .ok (.goto 4, 3) := by decide +kernel
theorem own_d34_9 : decode jdk_29_method_69_code 9 = .ok (.iload_n 1, 1) := by decide +kernel
theorem own_d34_10 : decode jdk_29_method_69_code 10 = .ok (.ireturn, 1) := by decide +kernel
theorem own_efmn (m : MethodId) (x0 : Int32) (x1 : Int32) : entryFrame m #[(.int x0), (.int x1)] 2 = mkF m 0 #[.val (.int x0), .val (.int x1)] [] := by first | (simp [entryFrame, mkF, argsToLocals, Value.category]; done) | rfl
def own_Qmn (Z : State) (p1 : Int32) (p2 : Int32) (h0 : Heap) (n0 : Nat) (v : Option Value) (h : Heap) (L : List Loc) : Prop := v = some (.int (own_vmn p1 p2)) ∧ Fr n0 L ∧ h = h0
set_option maxRecDepth 65536 in
set_option maxHeartbeats 40000000 in
theorem own_rmmn (l : Launch) (Z : State) (a0 : Array Value) (hw : ∀ d ∈ tables_1, d.before a0 Z = true) (ws : List Jvm.Cond) (p1 : Int32) (p2 : Int32) (h0 : Heap) (n0 : Nat) (Z0 : n0 ≤ h0.size) :
    MetFree l (⟨"java/lang/Math", "min", "(II)I"⟩ : MethodName) (head1 (Jvm.Cond.code (⟨"java/lang/Math", "min", "(II)I"⟩ : MethodName) jdk_29_method_69_code 2 (some .int) :: ws) ({ frames := 0, cells := 0, slots := 0, locals := 0 } : Room)) (fun aa U => aa = #[(.int p1), (.int p2)] ∧ Z.Warmed39 U.vm ∧ U.heap = h0) (fun _ _ _ _ _ => True) (fun _ U o U' => ∃ v L, o = .returned v ∧ own_Qmn Z p1 p2 h0 n0 v U'.heap L ∧ FrameEnd U o U' L ({ frames := 0, cells := 0, slots := 0, locals := 0 } : Room).cells ({ frames := 0, cells := 0, slots := 0, locals := 0 } : Room).slots) := by
  refine MetFree.of_bodySF (Jvm.Free.JP.mathPlain rfl (by decide +kernel)) hisR ?_
  intro p e s m args below meth c s₁ Bd hml0 hP hK
  obtain ⟨rfl, hZ, hh⟩ := hP
  have hx := Bd.exec
  have hby := Bd.bytes
  have hml : c.maxLocals = 2 := hml0
  have hown : s.vm.findClass "java/lang/Math" = some m.cls := findClass_of_methodNamed Bd.named
  have hnm := (name_of_methodNamed Bd.named Bd.method).1
  have X0 : Stand p l e ({ frames := 0, cells := 0, slots := 0, locals := 0 } : Room) s m #[(.int p1), (.int p2)] below meth c s₁ [] 0 0 := Stand.of_body Bd
  have e0 : s₁.heap = h0 := by rw [← hh, Bd.state]; rfl
  have N0 := Fr.nil n0
  have pre0 : ∀ t, Steps p.tables e below (s₁.setTop (mkF m 0 #[.val (.int p1), .val (.int p2)] [])) t → Steps p.tables e below (s₁.setTop (entryFrame m #[(.int p1), (.int p2)] 2)) t := fun t k => castTop (own_efmn m p1 p2) k
  have k1 : ∀ t, Steps p.tables e below (s₁.setTop (mkF m 2 #[.val (.int p1), .val (.int p2)] [(.int p2), (.int p1)])) t → Steps p.tables e below (s₁.setTop (entryFrame m #[(.int p1), (.int p2)] 2)) t := by
    intro t k
    refine pre0 t ?_
    show Steps p.tables e below (s₁.setTop (mkF m 0 #[.val (.int p1), .val (.int p2)] [])) _
    refine XS.iloadN X0.here hx rfl (hb hby own_d34_0) rfl ?_
    show Steps p.tables e below (s₁.setTop (mkF m 1 #[.val (.int p1), .val (.int p2)] [(.int p1)])) _
    refine XS.iloadN X0.here hx rfl (hb hby own_d34_1) rfl ?_
    exact k
  by_cases hc2_2 : p2 < p1
  · have k3 : ∀ t, Steps p.tables e below (s₁.setTop (mkF m 10 #[.val (.int p1), .val (.int p2)] [(.int p2)])) t → Steps p.tables e below (s₁.setTop (entryFrame m #[(.int p1), (.int p2)] 2)) t := by
      intro t k
      refine k1 t ?_
      show Steps p.tables e below (s₁.setTop (mkF m 2 #[.val (.int p1), .val (.int p2)] [(.int p2), (.int p1)])) _
      refine XS.icmpYes X0.here hx rfl (pc0 := 2) (pc' := 9) rfl (hb hby own_d34_2) rfl (tlt hc2_2).2.2.1 (by decide) (by decide) ?_
      show Steps p.tables e below (s₁.setTop (mkF m 9 #[.val (.int p1), .val (.int p2)] [])) _
      refine XS.iloadN X0.here hx rfl (hb hby own_d34_9) rfl ?_
      exact k
    obtain ⟨fs, hr, hrun, hended, hW, hsame⟩ := X0.leave (v := (some (.int p2))) (fun h => by rw [Bd.returns] at h; cases h)
    refine ⟨_, _, k3 _ ?_, hrun, hended, _, _, rfl, ?_, ⟨_, rfl⟩, hW, hsame.mono (by decide) (by decide)⟩
    · exact retI X0 hx Bd.returns (hb hby own_d34_10) hr
    · have hv : (own_vmn p1 p2) = p2 := (if_pos hc2_2)
      exact ⟨congrArg (fun z => some (Value.int z)) hv.symm, N0, e0⟩
  · have k4 : ∀ t, Steps p.tables e below (s₁.setTop (mkF m 10 #[.val (.int p1), .val (.int p2)] [(.int p1)])) t → Steps p.tables e below (s₁.setTop (entryFrame m #[(.int p1), (.int p2)] 2)) t := by
      intro t k
      refine k1 t ?_
      show Steps p.tables e below (s₁.setTop (mkF m 2 #[.val (.int p1), .val (.int p2)] [(.int p2), (.int p1)])) _
      refine XS.icmpNo X0.here hx rfl (hb hby own_d34_2) rfl (flt hc2_2).2.2.1 ?_
      show Steps p.tables e below (s₁.setTop (mkF m 5 #[.val (.int p1), .val (.int p2)] [])) _
      refine XS.iloadN X0.here hx rfl (hb hby own_d34_5) rfl ?_
      show Steps p.tables e below (s₁.setTop (mkF m 6 #[.val (.int p1), .val (.int p2)] [(.int p1)])) _
      refine XS.goto X0.here hx rfl (pc0 := 6) (pc' := 10) rfl (hb hby own_d34_6) (by decide) (by decide) ?_
      exact k
    obtain ⟨fs, hr, hrun, hended, hW, hsame⟩ := X0.leave (v := (some (.int p1))) (fun h => by rw [Bd.returns] at h; cases h)
    refine ⟨_, _, k4 _ ?_, hrun, hended, _, _, rfl, ?_, ⟨_, rfl⟩, hW, hsame.mono (by decide) (by decide)⟩
    · exact retI X0 hx Bd.returns (hb hby own_d34_10) hr
    · have hv : (own_vmn p1 p2) = p1 := (if_neg hc2_2)
      exact ⟨congrArg (fun z => some (Value.int z)) hv.symm, N0, e0⟩
def own_vmx (p1 : Int32) (p2 : Int32) : Int32 :=
  if p1 < p2 then p2 else
  p1
theorem own_d32_0 : decode jdk_29_method_65_code 0 = .ok (.iload_n 0, 1) := by decide +kernel
theorem own_d32_1 : decode jdk_29_method_65_code 1 = .ok (.iload_n 1, 1) := by decide +kernel
theorem own_d32_2 : decode jdk_29_method_65_code 2 = .ok (.if_icmp .lt 7, 3) := by decide +kernel
theorem own_d32_5 : decode jdk_29_method_65_code 5 = .ok (.iload_n 0, 1) := by decide +kernel
theorem own_d32_6 : decode jdk_29_method_65_code 6 = .ok (.goto 4, 3) := by decide +kernel
theorem own_d32_9 : decode jdk_29_method_65_code 9 = .ok (.iload_n 1, 1) := by decide +kernel
theorem own_d32_10 : decode jdk_29_method_65_code 10 = .ok (.ireturn, 1) := by decide +kernel
theorem own_efmx (m : MethodId) (x0 : Int32) (x1 : Int32) : entryFrame m #[(.int x0), (.int x1)] 2 = mkF m 0 #[.val (.int x0), .val (.int x1)] [] := by first | (simp [entryFrame, mkF, argsToLocals, Value.category]; done) | rfl
def own_Qmx (Z : State) (p1 : Int32) (p2 : Int32) (h0 : Heap) (n0 : Nat) (v : Option Value) (h : Heap) (L : List Loc) : Prop := v = some (.int (own_vmx p1 p2)) ∧ Fr n0 L ∧ h = h0
set_option maxRecDepth 65536 in
set_option maxHeartbeats 40000000 in
theorem own_rmmx (l : Launch) (Z : State) (a0 : Array Value) (hw : ∀ d ∈ tables_1, d.before a0 Z = true) (ws : List Jvm.Cond) (p1 : Int32) (p2 : Int32) (h0 : Heap) (n0 : Nat) (Z0 : n0 ≤ h0.size) :
    MetFree l (⟨"java/lang/Math", "max", "(II)I"⟩ : MethodName) (head1 (Jvm.Cond.code (⟨"java/lang/Math", "max", "(II)I"⟩ : MethodName) jdk_29_method_65_code 2 (some .int) :: ws) ({ frames := 0, cells := 0, slots := 0, locals := 0 } : Room)) (fun aa U => aa = #[(.int p1), (.int p2)] ∧ Z.Warmed39 U.vm ∧ U.heap = h0) (fun _ _ _ _ _ => True) (fun _ U o U' => ∃ v L, o = .returned v ∧ own_Qmx Z p1 p2 h0 n0 v U'.heap L ∧ FrameEnd U o U' L ({ frames := 0, cells := 0, slots := 0, locals := 0 } : Room).cells ({ frames := 0, cells := 0, slots := 0, locals := 0 } : Room).slots) := by
  refine MetFree.of_bodySF (Jvm.Free.JP.mathPlain rfl (by decide +kernel)) hisR ?_
  intro p e s m args below meth c s₁ Bd hml0 hP hK
  obtain ⟨rfl, hZ, hh⟩ := hP
  have hx := Bd.exec
  have hby := Bd.bytes
  have hml : c.maxLocals = 2 := hml0
  have hown : s.vm.findClass "java/lang/Math" = some m.cls := findClass_of_methodNamed Bd.named
  have hnm := (name_of_methodNamed Bd.named Bd.method).1
  have X0 : Stand p l e ({ frames := 0, cells := 0, slots := 0, locals := 0 } : Room) s m #[(.int p1), (.int p2)] below meth c s₁ [] 0 0 := Stand.of_body Bd
  have e0 : s₁.heap = h0 := by rw [← hh, Bd.state]; rfl
  have N0 := Fr.nil n0
  have pre0 : ∀ t, Steps p.tables e below (s₁.setTop (mkF m 0 #[.val (.int p1), .val (.int p2)] [])) t → Steps p.tables e below (s₁.setTop (entryFrame m #[(.int p1), (.int p2)] 2)) t := fun t k => castTop (own_efmx m p1 p2) k
  have k1 : ∀ t, Steps p.tables e below (s₁.setTop (mkF m 2 #[.val (.int p1), .val (.int p2)] [(.int p2), (.int p1)])) t → Steps p.tables e below (s₁.setTop (entryFrame m #[(.int p1), (.int p2)] 2)) t := by
    intro t k
    refine pre0 t ?_
    show Steps p.tables e below (s₁.setTop (mkF m 0 #[.val (.int p1), .val (.int p2)] [])) _
    refine XS.iloadN X0.here hx rfl (hb hby own_d32_0) rfl ?_
    show Steps p.tables e below (s₁.setTop (mkF m 1 #[.val (.int p1), .val (.int p2)] [(.int p1)])) _
    refine XS.iloadN X0.here hx rfl (hb hby own_d32_1) rfl ?_
    exact k
  by_cases hc2_2 : p1 < p2
  · have k3 : ∀ t, Steps p.tables e below (s₁.setTop (mkF m 10 #[.val (.int p1), .val (.int p2)] [(.int p2)])) t → Steps p.tables e below (s₁.setTop (entryFrame m #[(.int p1), (.int p2)] 2)) t := by
      intro t k
      refine k1 t ?_
      show Steps p.tables e below (s₁.setTop (mkF m 2 #[.val (.int p1), .val (.int p2)] [(.int p2), (.int p1)])) _
      refine XS.icmpYes X0.here hx rfl (pc0 := 2) (pc' := 9) rfl (hb hby own_d32_2) rfl (tlt hc2_2).1 (by decide) (by decide) ?_
      show Steps p.tables e below (s₁.setTop (mkF m 9 #[.val (.int p1), .val (.int p2)] [])) _
      refine XS.iloadN X0.here hx rfl (hb hby own_d32_9) rfl ?_
      exact k
    obtain ⟨fs, hr, hrun, hended, hW, hsame⟩ := X0.leave (v := (some (.int p2))) (fun h => by rw [Bd.returns] at h; cases h)
    refine ⟨_, _, k3 _ ?_, hrun, hended, _, _, rfl, ?_, ⟨_, rfl⟩, hW, hsame.mono (by decide) (by decide)⟩
    · exact retI X0 hx Bd.returns (hb hby own_d32_10) hr
    · have hv : (own_vmx p1 p2) = p2 := (if_pos hc2_2)
      exact ⟨congrArg (fun z => some (Value.int z)) hv.symm, N0, e0⟩
  · have k4 : ∀ t, Steps p.tables e below (s₁.setTop (mkF m 10 #[.val (.int p1), .val (.int p2)] [(.int p1)])) t → Steps p.tables e below (s₁.setTop (entryFrame m #[(.int p1), (.int p2)] 2)) t := by
      intro t k
      refine k1 t ?_
      show Steps p.tables e below (s₁.setTop (mkF m 2 #[.val (.int p1), .val (.int p2)] [(.int p2), (.int p1)])) _
      refine XS.icmpNo X0.here hx rfl (hb hby own_d32_2) rfl (flt hc2_2).1 ?_
      show Steps p.tables e below (s₁.setTop (mkF m 5 #[.val (.int p1), .val (.int p2)] [])) _
      refine XS.iloadN X0.here hx rfl (hb hby own_d32_5) rfl ?_
      show Steps p.tables e below (s₁.setTop (mkF m 6 #[.val (.int p1), .val (.int p2)] [(.int p1)])) _
      refine XS.goto X0.here hx rfl (pc0 := 6) (pc' := 10) rfl (hb hby own_d32_6) (by decide) (by decide) ?_
      exact k
    obtain ⟨fs, hr, hrun, hended, hW, hsame⟩ := X0.leave (v := (some (.int p1))) (fun h => by rw [Bd.returns] at h; cases h)
    refine ⟨_, _, k4 _ ?_, hrun, hended, _, _, rfl, ?_, ⟨_, rfl⟩, hW, hsame.mono (by decide) (by decide)⟩
    · exact retI X0 hx Bd.returns (hb hby own_d32_10) hr
    · have hv : (own_vmx p1 p2) = p1 := (if_neg hc2_2)
      exact ⟨congrArg (fun z => some (Value.int z)) hv.symm, N0, e0⟩
theorem own_mnN {x y : Int32} {a b : Nat} (h : x.toInt = (a : Int)) (h' : y.toInt = (b : Int)) (q : a ≤ b) : (own_vmn x y).toInt = (a : Int) := by
  unfold own_vmn; simp only [Int32.lt_iff_toInt_lt]; split <;> omega
theorem own_mxN {x y : Int32} {a b : Nat} (h : x.toInt = (a : Int)) (h' : y.toInt = (b : Int)) : (own_vmx x y).toInt = ((max a b : Nat) : Int) := by
  unfold own_vmx; simp only [Int32.lt_iff_toInt_lt]; split <;> omega
theorem own_nen {x y : Int32} {a b : Nat} (h : x.toInt = (a : Int)) (h' : y.toInt = (b : Int)) (q : a ≠ b) : ¬ (x = y) := fun e => by rw [e] at h; omega
theorem own_upd1 {f : Nat → Int32} {k i : Nat} {x : Int32} (h : i < k) : own_upd f k x i = f i := by unfold own_upd; rw [if_neg (by omega)]
theorem own_upd2 {f : Nat → Int32} {k : Nat} {x : Int32} : own_upd f k x k = x := by unfold own_upd; rw [if_pos rfl]
theorem own_cpy1 {f g : Nat → Int32} {k i : Nat} (h : i < k) : own_cpy f g k i = f i := by unfold own_cpy; rw [if_pos h]
theorem own_ltr {x y : Int32} {a b : Nat} (h : x.toInt = (a : Int)) (h' : y.toInt = (b : Int)) (q : x < y) : a < b := by rw [Int32.lt_iff_toInt_lt] at q; omega

theorem own_d1_0 : decode prog_20_method_1_code 0 = .ok (.aload_n 0, 1) := by decide +kernel
theorem own_d1_1 : decode prog_20_method_1_code 1 = .ok (.invokespecial 1, 3) := by decide +kernel
theorem own_d1_4 : decode prog_20_method_1_code 4 = .ok (.aload_n 0, 1) := by decide +kernel
theorem own_d1_5 : decode prog_20_method_1_code 5 = .ok (.iload_n 1, 1) := by decide +kernel
theorem own_d1_6 : decode prog_20_method_1_code 6 = .ok (.newarray .char, 2) := by decide +kernel
theorem own_d1_8 : decode prog_20_method_1_code 8 = .ok (.putfield 7, 3) := by decide +kernel
theorem own_d1_11 : decode prog_20_method_1_code 11 = .ok (.return_, 1) := by decide +kernel
theorem own_pn4 : plainName "com/example/cureline/cureline/io/TextBuffer" = true := by first | (simp [plainName, overriddenIn]; done) | decide +kernel
theorem own_efti (m : MethodId) (x0 : Addr) (x1 : Int32) : entryFrame m #[(.ref x0), (.int x1)] 2 = mkF m 0 #[.val (.ref x0), .val (.int x1)] [] := by first | (simp [entryFrame, mkF, argsToLocals, Value.category]; done) | rfl
def own_Qti (Z : State) (a : Addr) (p1 : Int32) (u1 : Value) (kk : Int32) (zz : Nat) (h0 : Heap) (n0 : Nat) (v : Option Value) (h : Heap) (L : List Loc) : Prop := ∃ (b : Addr), v = none ∧ Fr n0 L ∧ Keep h0 h [a] ∧ h0.size ≤ b ∧ Fld Z h a "com/example/cureline/cureline/io/TextBuffer" "chars" "[C" (.ref b) ∧ Fld Z h a "com/example/cureline/cureline/io/TextBuffer" "length" "I" (.int kk) ∧ own_G Z h b .char zz own_zero
def own_Rti : Room := { frames := 1, cells := 1, slots := 8, locals := 12 }
set_option maxRecDepth 65536 in
set_option maxHeartbeats 40000000 in
theorem own_rmti (l : Launch) (Z : State) (a0 : Array Value) (hw : ∀ d ∈ tables_1, d.before a0 Z = true) (ws : List Jvm.Cond) (a : Addr) (p1 : Int32) (u1 : Value) (kk : Int32) (zz : Nat) (h0 : Heap) (n0 : Nat) (Z0 : n0 ≤ h0.size) (P0 : Exa Z h0 a "com/example/cureline/cureline/io/TextBuffer") (P1 : Fld Z h0 a "com/example/cureline/cureline/io/TextBuffer" "chars" "[C" u1) (P2 : Fld Z h0 a "com/example/cureline/cureline/io/TextBuffer" "length" "I" (.int kk)) (ge_a : n0 ≤ a) (hp1 : p1.toInt = (zz : Int)) (hz : zz ≤ 8) :
    MetFree l (⟨"com/example/cureline/cureline/io/TextBuffer", "<init>", "(I)V"⟩ : MethodName) (head1 (Jvm.Cond.code (⟨"com/example/cureline/cureline/io/TextBuffer", "<init>", "(I)V"⟩ : MethodName) prog_20_method_1_code 2 none :: ws) own_Rti) (fun aa U => aa = #[(.ref a), (.int p1)] ∧ Z.Warmed39 U.vm ∧ U.heap = h0) (fun _ _ _ _ _ => True) (fun _ U o U' => ∃ v L, o = .returned v ∧ own_Qti Z a p1 u1 kk zz h0 n0 v U'.heap L ∧ FrameEnd U o U' L own_Rti.cells own_Rti.slots) := by
  refine MetFree.of_bodySF (plainFor_of_name own_pn4) hisR ?_
  intro p e s m args below meth c s₁ Bd hml0 hP hK
  obtain ⟨rfl, hZ, hh⟩ := hP
  have hx := Bd.exec
  have hby := Bd.bytes
  have hml : c.maxLocals = 2 := hml0
  have hown : s.vm.findClass "com/example/cureline/cureline/io/TextBuffer" = some m.cls := findClass_of_methodNamed Bd.named
  have hnm := (name_of_methodNamed Bd.named Bd.method).1
  have X0 : Stand p l e own_Rti s m #[(.ref a), (.int p1)] below meth c s₁ [] 0 0 := Stand.of_body Bd
  have e0 : s₁.heap = h0 := by rw [← hh, Bd.state]; rfl
  have N0 := Fr.nil n0
  have pre0 : ∀ t, Steps p.tables e below (s₁.setTop (mkF m 0 #[.val (.ref a), .val (.int p1)] [])) t → Steps p.tables e below (s₁.setTop (entryFrame m #[(.ref a), (.int p1)] 2)) t := fun t k => castTop (own_efti m a p1) k
  have k1 : ∀ t, Steps p.tables e below (s₁.setTop (mkF m 1 #[.val (.ref a), .val (.int p1)] [(.ref a)])) t → Steps p.tables e below (s₁.setTop (entryFrame m #[(.ref a), (.int p1)] 2)) t := by
    intro t k
    refine pre0 t ?_
    show Steps p.tables e below (s₁.setTop (mkF m 0 #[.val (.ref a), .val (.int p1)] [])) _
    refine XS.aloadN X0.here hx rfl (hb hby own_d1_0) rfl rfl ?_
    exact k
  obtain ⟨T2, X2, e2, st2⟩ := initO X0 hx hZ hown (hw _ (List.mem_of_getElem? (i := 7) rfl)) (hw _ (List.mem_of_getElem? (i := 8) rfl)) (hw _ (List.mem_of_getElem? (i := 9) rfl)) e0 (g := (mkF m 1 #[.val (.ref a), .val (.int p1)] [(.ref a)])) rfl (by rw [hml]; rfl) rfl (hb hby own_d1_1) (by decide) (W := 0) (by show 2 * 0 + _ ≤ _; exact Nat.le_of_eq rfl) (by decide)
  have k3 : ∀ t, Steps p.tables e below (T2.setTop (mkF m 4 #[.val (.ref a), .val (.int p1)] [])) t → Steps p.tables e below (s₁.setTop (entryFrame m #[(.ref a), (.int p1)] 2)) t := fun t k => k1 t (st2 t k)
  have k4 : ∀ t, Steps p.tables e below (T2.setTop (mkF m 6 #[.val (.ref a), .val (.int p1)] [(.int p1), (.ref a)])) t → Steps p.tables e below (s₁.setTop (entryFrame m #[(.ref a), (.int p1)] 2)) t := by
    intro t k
    refine k3 t ?_
    show Steps p.tables e below (T2.setTop (mkF m 4 #[.val (.ref a), .val (.int p1)] [])) _
    refine XS.aloadN X2.here hx rfl (hb hby own_d1_4) rfl rfl ?_
    show Steps p.tables e below (T2.setTop (mkF m 5 #[.val (.ref a), .val (.int p1)] [(.ref a)])) _
    refine XS.iloadN X2.here hx rfl (hb hby own_d1_5) rfl ?_
    exact k
  obtain ⟨T5, h5, X5, e5, E5, A5, st5⟩ := own_newC X2 hx hZ (hw _ (List.mem_of_getElem? (i := 0) rfl)) e2 (g := (mkF m 6 #[.val (.ref a), .val (.int p1)] [(.int p1), (.ref a)])) rfl (hb hby own_d1_6) rfl (n := zz) hp1 (cap := 8) (by omega) (by decide) (by decide) (by decide)
  obtain ⟨b5, g5⟩ : ∃ z, z = h0.size := ⟨_, rfl⟩
  rw [← g5] at A5 st5
  have ge5 : n0 ≤ b5 := Nat.le_trans Z0 (Nat.le_of_eq g5.symm)
  have bo5 : h0.size ≤ b5 := Nat.le_trans (Keep.refl h0 [a]).1 (Nat.le_of_eq g5.symm)
  have ne6 : a ≠ b5 := Nat.ne_of_lt (Nat.lt_of_lt_of_le P0.lt (Nat.le_of_eq g5.symm))
  have Z5 : n0 ≤ h5.size := Nat.le_trans Z0 E5.1
  have K5 : Keep h0 h5 [a] := (Keep.refl h0 [a]).ext E5
  have f7 := P0.ext E5
  have f8 := P1.ext E5
  have f9 := P2.ext E5
  have k10 : ∀ t, Steps p.tables e below (T5.setTop (mkF m 8 #[.val (.ref a), .val (.int p1)] [(.ref b5), (.ref a)])) t → Steps p.tables e below (s₁.setTop (entryFrame m #[(.ref a), (.int p1)] 2)) t := fun t k => k4 t (st5 t k)
  obtain ⟨T11, h11, X11, e11, W11, st11⟩ := putF X5 hx hZ hown (host := "") (Or.inl (hw _ (List.mem_of_getElem? (i := 10) rfl))) Via.refl e5 f8 f7 (Or.inl (hw _ (List.mem_of_getElem? (i := 11) rfl))) (hw _ (List.mem_of_getElem? (i := 2) rfl)) (ty := (.array .char)) (by decide) rfl rfl (g := (mkF m 8 #[.val (.ref a), .val (.int p1)] [(.ref b5), (.ref a)])) rfl rfl (hb hby own_d1_8)
  have f12 := f7.wr W11
  have f13 := f9.other W11 (Or.inr (slot_ne (Or.inl (hw _ (List.mem_of_getElem? (i := 18) rfl))) (Or.inl (hw _ (List.mem_of_getElem? (i := 11) rfl))) (by decide) (t := .int) (t' := (.array .char)) (by decide) (by decide)))
  have f14 := A5.other W11 (Ne.symm ne6)
  have f15 := f8.same W11
  have N11 := Fr.snoc X11 N0 ge_a
  have K11 : Keep h0 h11 [a] := K5.wr W11 (Or.inl (List.mem_of_getElem? (i := 0) rfl))
  have Z11 : n0 ≤ h11.size := Nat.le_trans Z5 (Keep.of_wr W11).1
  have k16 : ∀ t, Steps p.tables e below (T11.setTop (mkF m 11 #[.val (.ref a), .val (.int p1)] [])) t → Steps p.tables e below (s₁.setTop (entryFrame m #[(.ref a), (.int p1)] 2)) t := fun t k => k10 t (st11 t k)
  obtain ⟨fs, hr, hrun, hended, hW, hsame⟩ := X11.leave (v := none) (fun _ => rfl)
  refine ⟨_, _, k16 _ ?_, hrun, hended, _, _, rfl, ?_, ⟨_, rfl⟩, hW, hsame.mono (by decide) (by decide)⟩
  · exact X11.returnOut hx Bd.returns (hb hby own_d1_11) hr
  · show own_Qti Z a p1 u1 kk zz h0 n0 _ T11.heap _
    rw [e11]
    exact ⟨b5, rfl, N11, K11, bo5, f15, f13, f14⟩
theorem own_d33_0 : decode jdk_65_method_125_code 0 = .ok (.iload_n 1, 1) := by decide +kernel
theorem own_d33_1 : decode jdk_65_method_125_code 1 = .ok (.aload_n 0, 1) := by decide +kernel
theorem own_d33_2 : decode jdk_65_method_125_code 2 = .ok (.arraylength, 1) := by decide +kernel
theorem own_d33_3 : decode jdk_65_method_125_code 3 = .ok (.if_icmp .ne 11, 3) := by decide +kernel
theorem own_d33_14 : decode jdk_65_method_125_code 14 = .ok (.iload_n 1, 1) := by decide +kernel
theorem own_d33_15 : decode jdk_65_method_125_code 15 = .ok (.newarray .char, 2) := by decide +kernel
theorem own_d33_17 : decode jdk_65_method_125_code 17 = .ok (.astore_n 2, 1) := by decide +kernel
theorem own_d33_18 : decode jdk_65_method_125_code 18 = .ok (.aload_n 0, 1) := by decide +kernel
theorem own_d33_19 : decode jdk_65_method_125_code 19 = .ok (.iconst 0, 1) := by decide +kernel
theorem own_d33_20 : decode jdk_65_method_125_code 20 = .ok (.aload_n 2, 1) := by decide +kernel
theorem own_d33_21 : decode jdk_65_method_125_code 21 = .ok (.iconst 0, 1) := by decide +kernel
theorem own_d33_22 : decode jdk_65_method_125_code 22 = .ok (.aload_n 0, 1) := by decide +kernel
theorem own_d33_23 : decode jdk_65_method_125_code 23 = .ok (.arraylength, 1) := by decide +kernel
theorem own_d33_24 : decode jdk_65_method_125_code 24 = .ok (.iload_n 1, 1) := by decide +kernel
theorem own_d33_25 : decode jdk_65_method_125_code 25 = .ok (.invokestatic 304, 3) := by decide +kernel
theorem own_d33_28 : decode jdk_65_method_125_code 28 = .ok (.invokestatic 150, 3) := by decide +kernel
theorem own_d33_31 : decode jdk_65_method_125_code 31 = .ok (.aload_n 2, 1) := by decide +kernel
theorem own_d33_32 : decode jdk_65_method_125_code 32 = .ok (.areturn, 1) := by decide +kernel
theorem own_pd17 : parseMethodDescriptor "(II)I" = some ⟨[.int, .int], some .int⟩ := by decide +kernel
theorem own_pn5 : plainName "java/util/Arrays" = true := by first | (simp [plainName, overriddenIn]; done) | decide +kernel
theorem own_efco (m : MethodId) (x0 : Addr) (x1 : Int32) : entryFrame m #[(.ref x0), (.int x1)] 3 = mkF m 0 #[.val (.ref x0), .val (.int x1), .unset] [] := by first | (simp [entryFrame, mkF, argsToLocals, Value.category]; done) | rfl
def own_Qco (Z : State) (p1 : Addr) (p2 : Int32) (zz : Nat) (bf : Nat → Int32) (z2 : Nat) (h0 : Heap) (n0 : Nat) (v : Option Value) (h : Heap) (L : List Loc) : Prop := ∃ (b : Addr), v = some (.ref b) ∧ Fr n0 L ∧ Keep h0 h [] ∧ h0.size ≤ b ∧ own_G Z h b .char z2 (own_cpy bf own_zero zz)
def own_Rco : Room := { frames := 1, cells := 1, slots := 8, locals := 18 }
set_option maxRecDepth 65536 in
set_option maxHeartbeats 40000000 in
theorem own_rmco (l : Launch) (Z : State) (a0 : Array Value) (hw : ∀ d ∈ tables_1, d.before a0 Z = true) (ws : List Jvm.Cond) (p1 : Addr) (p2 : Int32) (zz : Nat) (bf : Nat → Int32) (z2 : Nat) (h0 : Heap) (n0 : Nat) (Z0 : n0 ≤ h0.size) (P0 : own_G Z h0 p1 .char zz bf) (hp2 : p2.toInt = (z2 : Int)) (hz : zz < z2) (hz2 : z2 ≤ 8) :
    MetFree l (⟨"java/util/Arrays", "copyOf", "([CI)[C"⟩ : MethodName) (head1 (Jvm.Cond.code (⟨"java/util/Arrays", "copyOf", "([CI)[C"⟩ : MethodName) jdk_65_method_125_code 3 (some (.array .char)) :: ws) own_Rco) (fun aa U => aa = #[(.ref p1), (.int p2)] ∧ Z.Warmed39 U.vm ∧ U.heap = h0) (fun _ _ _ _ _ => True) (fun _ U o U' => ∃ v L, o = .returned v ∧ own_Qco Z p1 p2 zz bf z2 h0 n0 v U'.heap L ∧ FrameEnd U o U' L own_Rco.cells own_Rco.slots) := by
  refine MetFree.of_bodySF (plainFor_of_name own_pn5) hisR ?_
  intro p e s m args below meth c s₁ Bd hml0 hP hK
  obtain ⟨rfl, hZ, hh⟩ := hP
  have hx := Bd.exec
  have hby := Bd.bytes
  have hml : c.maxLocals = 3 := hml0
  have hown : s.vm.findClass "java/util/Arrays" = some m.cls := findClass_of_methodNamed Bd.named
  have hnm := (name_of_methodNamed Bd.named Bd.method).1
  have X0 : Stand p l e own_Rco s m #[(.ref p1), (.int p2)] below meth c s₁ [] 0 0 := Stand.of_body Bd
  have e0 : s₁.heap = h0 := by rw [← hh, Bd.state]; rfl
  have N0 := Fr.nil n0
  have pre0 : ∀ t, Steps p.tables e below (s₁.setTop (mkF m 0 #[.val (.ref p1), .val (.int p2), .unset] [])) t → Steps p.tables e below (s₁.setTop (entryFrame m #[(.ref p1), (.int p2)] 3)) t := fun t k => castTop (own_efco m p1 p2) k
  have k1 : ∀ t, Steps p.tables e below (s₁.setTop (mkF m 15 #[.val (.ref p1), .val (.int p2), .unset] [(.int p2)])) t → Steps p.tables e below (s₁.setTop (entryFrame m #[(.ref p1), (.int p2)] 3)) t := by
    intro t k
    refine pre0 t ?_
    show Steps p.tables e below (s₁.setTop (mkF m 0 #[.val (.ref p1), .val (.int p2), .unset] [])) _
    refine XS.iloadN X0.here hx rfl (hb hby own_d33_0) rfl ?_
    show Steps p.tables e below (s₁.setTop (mkF m 1 #[.val (.ref p1), .val (.int p2), .unset] [(.int p2)])) _
    refine XS.aloadN X0.here hx rfl (hb hby own_d33_1) rfl rfl ?_
    show Steps p.tables e below (s₁.setTop (mkF m 2 #[.val (.ref p1), .val (.int p2), .unset] [(.ref p1), (.int p2)])) _
    refine own_len X0 hx hZ e0 P0 (g := (mkF m 2 #[.val (.ref p1), .val (.int p2), .unset] [(.ref p1), (.int p2)])) rfl rfl (hb hby own_d33_2) ?_
    show Steps p.tables e below (s₁.setTop (mkF m 3 #[.val (.ref p1), .val (.int p2), .unset] [(.int (Nat.toInt32 zz)), (.int p2)])) _
    refine XS.icmpYes X0.here hx rfl (pc0 := 3) (pc' := 14) rfl (hb hby own_d33_3) rfl (feq (own_nen hp2 (own_of_nat (n := zz) (by omega)) (by omega))).2 (by decide) (by decide) ?_
    show Steps p.tables e below (s₁.setTop (mkF m 14 #[.val (.ref p1), .val (.int p2), .unset] [])) _
    refine XS.iloadN X0.here hx rfl (hb hby own_d33_14) rfl ?_
    exact k
  obtain ⟨T2, h2, X2, e2, E2, A2, st2⟩ := own_newC X0 hx hZ (hw _ (List.mem_of_getElem? (i := 0) rfl)) e0 (g := (mkF m 15 #[.val (.ref p1), .val (.int p2), .unset] [(.int p2)])) rfl (hb hby own_d33_15) rfl (n := z2) hp2 (cap := 8) (by omega) (by decide) (by decide) (by decide)
  obtain ⟨b2, g2⟩ : ∃ z, z = h0.size := ⟨_, rfl⟩
  rw [← g2] at A2 st2
  have ge2 : n0 ≤ b2 := Nat.le_trans Z0 (Nat.le_of_eq g2.symm)
  have bo2 : h0.size ≤ b2 := Nat.le_trans (Keep.refl h0 []).1 (Nat.le_of_eq g2.symm)
  have ne3 : p1 ≠ b2 := Nat.ne_of_lt (Nat.lt_of_lt_of_le P0.lt (Nat.le_of_eq g2.symm))
  have Z2 : n0 ≤ h2.size := Nat.le_trans Z0 E2.1
  have K2 : Keep h0 h2 [] := (Keep.refl h0 []).ext E2
  have f4 := P0.ext E2
  have k5 : ∀ t, Steps p.tables e below (T2.setTop (mkF m 17 #[.val (.ref p1), .val (.int p2), .unset] [(.ref b2)])) t → Steps p.tables e below (s₁.setTop (entryFrame m #[(.ref p1), (.int p2)] 3)) t := fun t k => k1 t (st2 t k)
  have k6 : ∀ t, Steps p.tables e below (T2.setTop (mkF m 25 #[.val (.ref p1), .val (.int p2), .val (.ref b2)] [(.int p2), (.int (Nat.toInt32 zz)), (.int (0 : Int32)), (.ref b2), (.int (0 : Int32)), (.ref p1)])) t → Steps p.tables e below (s₁.setTop (entryFrame m #[(.ref p1), (.int p2)] 3)) t := by
    intro t k
    refine k5 t ?_
    show Steps p.tables e below (T2.setTop (mkF m 17 #[.val (.ref p1), .val (.int p2), .unset] [(.ref b2)])) _
    refine XS.astoreN X2.here hx rfl (hb hby own_d33_17) rfl rfl (l' := #[.val (.ref p1), .val (.int p2), .val (.ref b2)]) rfl ?_
    show Steps p.tables e below (T2.setTop (mkF m 18 #[.val (.ref p1), .val (.int p2), .val (.ref b2)] [])) _
    refine XS.aloadN X2.here hx rfl (hb hby own_d33_18) rfl rfl ?_
    show Steps p.tables e below (T2.setTop (mkF m 19 #[.val (.ref p1), .val (.int p2), .val (.ref b2)] [(.ref p1)])) _
    refine XS.iconst X2.here hx rfl (hb hby own_d33_19) ?_
    show Steps p.tables e below (T2.setTop (mkF m 20 #[.val (.ref p1), .val (.int p2), .val (.ref b2)] [(.int (0 : Int32)), (.ref p1)])) _
    refine XS.aloadN X2.here hx rfl (hb hby own_d33_20) rfl rfl ?_
    show Steps p.tables e below (T2.setTop (mkF m 21 #[.val (.ref p1), .val (.int p2), .val (.ref b2)] [(.ref b2), (.int (0 : Int32)), (.ref p1)])) _
    refine XS.iconst X2.here hx rfl (hb hby own_d33_21) ?_
    show Steps p.tables e below (T2.setTop (mkF m 22 #[.val (.ref p1), .val (.int p2), .val (.ref b2)] [(.int (0 : Int32)), (.ref b2), (.int (0 : Int32)), (.ref p1)])) _
    refine XS.aloadN X2.here hx rfl (hb hby own_d33_22) rfl rfl ?_
    show Steps p.tables e below (T2.setTop (mkF m 23 #[.val (.ref p1), .val (.int p2), .val (.ref b2)] [(.ref p1), (.int (0 : Int32)), (.ref b2), (.int (0 : Int32)), (.ref p1)])) _
    refine own_len X2 hx hZ e2 f4 (g := (mkF m 23 #[.val (.ref p1), .val (.int p2), .val (.ref b2)] [(.ref p1), (.int (0 : Int32)), (.ref b2), (.int (0 : Int32)), (.ref p1)])) rfl rfl (hb hby own_d33_23) ?_
    show Steps p.tables e below (T2.setTop (mkF m 24 #[.val (.ref p1), .val (.int p2), .val (.ref b2)] [(.int (Nat.toInt32 zz)), (.int (0 : Int32)), (.ref b2), (.int (0 : Int32)), (.ref p1)])) _
    refine XS.iloadN X2.here hx rfl (hb hby own_d33_24) rfl ?_
    exact k
  obtain ⟨_, _, ⟨T7, L7, k7c, n7⟩, -, X7, ⟨Lc7, hQ7, l7, y7, z7⟩, st7⟩ := Jvm.LawKit.callS X2 hx (y := (⟨"java/lang/Math", "min", "(II)I"⟩ : MethodName)) hown (mvT hZ (hw _ (List.mem_of_getElem? (i := 150) rfl))) (mvT hZ (hw _ (List.mem_of_getElem? (i := 151) rfl))) (mvT hZ (hw _ (List.mem_of_getElem? (i := 144) rfl))) (mvT hZ (hw _ (List.mem_of_getElem? (i := 152) rfl))) (by decide) (backOf (W := 4) (own_rmmn l Z a0 hw [] (Nat.toInt32 zz) p2 h2 n0 Z2) hZ (hw _ (List.mem_of_getElem? (i := 152) rfl)) (hw _ (List.mem_of_getElem? (i := 144) rfl)) (by decide) (by decide)) (g := (mkF m 25 #[.val (.ref p1), .val (.int p2), .val (.ref b2)] [(.int p2), (.int (Nat.toInt32 zz)), (.int (0 : Int32)), (.ref b2), (.int (0 : Int32)), (.ref p1)])) rfl (by rw [hml]; rfl) (argsL := [(.int (Nat.toInt32 zz)), (.int p2)]) (rest := [(.int (0 : Int32)), (.ref b2), (.int (0 : Int32)), (.ref p1)]) (lenOf own_pd17 rfl) rfl (by show 2 * 0 + _ ≤ _; exact Nat.le_of_eq rfl) (hb hby own_d33_25) (fun _ _ => ⟨rfl, e2, (by decide : 1 + 0 ≤ _), (by decide : 8 + 0 ≤ _)⟩)
  dsimp only [Pt.U, Pt.locs, Pt.cells, Pt.slots] at X7 l7 y7 z7 st7 hQ7
  subst l7 y7 z7
  obtain ⟨rfl, N7q, e7⟩ := hQ7
  have N7 := Fr.app N0 N7q
  have k8 : ∀ t, Steps p.tables e below (T7.setTop (mkF m 28 #[.val (.ref p1), .val (.int p2), .val (.ref b2)] [(.int (own_vmn (Nat.toInt32 zz) p2)), (.int (0 : Int32)), (.ref b2), (.int (0 : Int32)), (.ref p1)])) t → Steps p.tables e below (s₁.setTop (entryFrame m #[(.ref p1), (.int p2)] 3)) t := fun t k => k6 t (st7 t k)
  obtain ⟨T9, h9, L9, X9, e9, N9, Kc9, Vc9, st9⟩ := own_copy X7 hx hZ hown (hw _ (List.mem_of_getElem? (i := 153) rfl)) (hw _ (List.mem_of_getElem? (i := 156) rfl)) (hw _ (List.mem_of_getElem? (i := 154) rfl)) (hw _ (List.mem_of_getElem? (i := 155) rfl)) e7 f4 A2 (own_mnN (own_of_nat (by omega)) hp2 (by omega)) (by omega) (by omega) N7 ge2 (gf := (mkF m 28 #[.val (.ref p1), .val (.int p2), .val (.ref b2)] [(.int (own_vmn (Nat.toInt32 zz) p2)), (.int (0 : Int32)), (.ref b2), (.int (0 : Int32)), (.ref p1)])) rfl (by rw [hml]; rfl) (rest := []) rfl (hb hby own_d33_28) (by decide) (W := 0) (by show 2 * 0 + _ ≤ _; exact Nat.le_of_eq rfl) (by decide)
  have f10 := f4.keep Kc9 (List.not_mem_cons_of_ne_of_not_mem ne3 List.not_mem_nil)
  have Z9 : n0 ≤ h9.size := Nat.le_trans Z2 Kc9.1
  have K9 : Keep h0 h9 [] := K2.trans Kc9 (fun x hx => by rcases List.mem_cons.mp hx with rfl | hx; exact Or.inr bo2; exact nomatch hx)
  have k11 : ∀ t, Steps p.tables e below (T9.setTop (mkF m 31 #[.val (.ref p1), .val (.int p2), .val (.ref b2)] [])) t → Steps p.tables e below (s₁.setTop (entryFrame m #[(.ref p1), (.int p2)] 3)) t := fun t k => k8 t (st9 t k)
  have k12 : ∀ t, Steps p.tables e below (T9.setTop (mkF m 32 #[.val (.ref p1), .val (.int p2), .val (.ref b2)] [(.ref b2)])) t → Steps p.tables e below (s₁.setTop (entryFrame m #[(.ref p1), (.int p2)] 3)) t := by
    intro t k
    refine k11 t ?_
    show Steps p.tables e below (T9.setTop (mkF m 31 #[.val (.ref p1), .val (.int p2), .val (.ref b2)] [])) _
    refine XS.aloadN X9.here hx rfl (hb hby own_d33_31) rfl rfl ?_
    exact k
  obtain ⟨fs, hr, hrun, hended, hW, hsame⟩ := X9.leave (v := (some (.ref b2))) (fun h => by rw [Bd.returns] at h; cases h)
  refine ⟨_, _, k12 _ ?_, hrun, hended, _, _, rfl, ?_, ⟨_, rfl⟩, hW, hsame.mono (by decide) (by decide)⟩
  · exact retOut X9 hx Bd.returns rfl (Or.inr (Or.inr (Or.inr (Or.inr ⟨rfl, rfl, rfl⟩)))) (hb hby own_d33_32) hr
  · show own_Qco Z p1 p2 zz bf z2 h0 n0 _ T9.heap _
    rw [e9]
    exact ⟨b2, rfl, N9, K9, bo2, Vc9⟩
theorem own_d15_0 : decode prog_20_method_12_code 0 = .ok (.aload_n 0, 1) := by decide +kernel
theorem own_d15_1 : decode prog_20_method_12_code 1 = .ok (.getfield 13, 3) := by decide +kernel
theorem own_d15_4 : decode prog_20_method_12_code 4 = .ok (.iload_n 1, 1) := by decide +kernel
theorem own_d15_5 : decode prog_20_method_12_code 5 = .ok (.iadd, 1) := by decide +kernel
theorem own_d15_6 : decode prog_20_method_12_code 6 = .ok (.aload_n 0, 1) := by decide +kernel
theorem own_d15_7 : decode prog_20_method_12_code 7 = .ok (.getfield 7, 3) := by decide +kernel
theorem own_d15_10 : decode prog_20_method_12_code 10 = .ok (.arraylength, 1) := by decide +kernel
theorem own_d15_11 : decode prog_20_method_12_code 11 = .ok (.if_icmp .le 30, 3) := by decide +kernel
theorem own_d15_41 : decode prog_20_method_12_code 41 = .ok (.return_, 1) := by decide +kernel
theorem own_efmr0 (m : MethodId) (x0 : Addr) : entryFrame m #[(.ref x0), (.int (1 : Int32))] 2 = mkF m 0 #[.val (.ref x0), .val (.int (1 : Int32))] [] := by first | (simp [entryFrame, mkF, argsToLocals, Value.category]; done) | rfl
def own_Qmr0 (Z : State) (a : Addr) (bb : Addr) (kk : Int32) (zz : Nat) (bf : Nat → Int32) (k_ : Nat) (h0 : Heap) (n0 : Nat) (v : Option Value) (h : Heap) (L : List Loc) : Prop := v = none ∧ Fr n0 L ∧ h = h0
def own_Rmr0 : Room := { frames := 0, cells := 0, slots := 0, locals := 0 }
set_option maxRecDepth 65536 in
set_option maxHeartbeats 40000000 in
theorem own_rmmr0 (l : Launch) (Z : State) (a0 : Array Value) (hw : ∀ d ∈ tables_1, d.before a0 Z = true) (ws : List Jvm.Cond) (a : Addr) (bb : Addr) (kk : Int32) (zz : Nat) (bf : Nat → Int32) (k_ : Nat) (h0 : Heap) (n0 : Nat) (Z0 : n0 ≤ h0.size) (P0 : Exa Z h0 a "com/example/cureline/cureline/io/TextBuffer") (P1 : Fld Z h0 a "com/example/cureline/cureline/io/TextBuffer" "chars" "[C" (.ref bb)) (P2 : Fld Z h0 a "com/example/cureline/cureline/io/TextBuffer" "length" "I" (.int kk)) (P3 : own_G Z h0 bb .char zz bf) (hkk : kk.toInt = (k_ : Int)) (hg : k_ + 1 ≤ zz) (hz : zz ≤ 8) :
    MetFree l (⟨"com/example/cureline/cureline/io/TextBuffer", "makeRoom", "(I)V"⟩ : MethodName) (head1 (Jvm.Cond.code (⟨"com/example/cureline/cureline/io/TextBuffer", "makeRoom", "(I)V"⟩ : MethodName) prog_20_method_12_code 2 none :: ws) own_Rmr0) (fun aa U => aa = #[(.ref a), (.int (1 : Int32))] ∧ Z.Warmed39 U.vm ∧ U.heap = h0) (fun _ _ _ _ _ => True) (fun _ U o U' => ∃ v L, o = .returned v ∧ own_Qmr0 Z a bb kk zz bf k_ h0 n0 v U'.heap L ∧ FrameEnd U o U' L own_Rmr0.cells own_Rmr0.slots) := by
  refine MetFree.of_bodySF (plainFor_of_name own_pn4) hisR ?_
  intro p e s m args below meth c s₁ Bd hml0 hP hK
  obtain ⟨rfl, hZ, hh⟩ := hP
  have hx := Bd.exec
  have hby := Bd.bytes
  have hml : c.maxLocals = 2 := hml0
  have hown : s.vm.findClass "com/example/cureline/cureline/io/TextBuffer" = some m.cls := findClass_of_methodNamed Bd.named
  have hnm := (name_of_methodNamed Bd.named Bd.method).1
  have X0 : Stand p l e own_Rmr0 s m #[(.ref a), (.int (1 : Int32))] below meth c s₁ [] 0 0 := Stand.of_body Bd
  have e0 : s₁.heap = h0 := by rw [← hh, Bd.state]; rfl
  have N0 := Fr.nil n0
  have pre0 : ∀ t, Steps p.tables e below (s₁.setTop (mkF m 0 #[.val (.ref a), .val (.int (1 : Int32))] [])) t → Steps p.tables e below (s₁.setTop (entryFrame m #[(.ref a), (.int (1 : Int32))] 2)) t := fun t k => castTop (own_efmr0 m a) k
  have k1 : ∀ t, Steps p.tables e below (s₁.setTop (mkF m 1 #[.val (.ref a), .val (.int (1 : Int32))] [(.ref a)])) t → Steps p.tables e below (s₁.setTop (entryFrame m #[(.ref a), (.int (1 : Int32))] 2)) t := by
    intro t k
    refine pre0 t ?_
    show Steps p.tables e below (s₁.setTop (mkF m 0 #[.val (.ref a), .val (.int (1 : Int32))] [])) _
    refine XS.aloadN X0.here hx rfl (hb hby own_d15_0) rfl rfl ?_
    exact k
  obtain ⟨T2, X2, e2, st2⟩ := getF X0 hx hZ hown (host := "") (Or.inl (hw _ (List.mem_of_getElem? (i := 17) rfl))) Via.refl e0 P2 (g := (mkF m 1 #[.val (.ref a), .val (.int (1 : Int32))] [(.ref a)])) rfl rfl (hb hby own_d15_1)
  have k3 : ∀ t, Steps p.tables e below (T2.setTop (mkF m 4 #[.val (.ref a), .val (.int (1 : Int32))] [(.int kk)])) t → Steps p.tables e below (s₁.setTop (entryFrame m #[(.ref a), (.int (1 : Int32))] 2)) t := fun t k => k1 t (st2 t k)
  have k4 : ∀ t, Steps p.tables e below (T2.setTop (mkF m 7 #[.val (.ref a), .val (.int (1 : Int32))] [(.ref a), (.int (kk + (1 : Int32)))])) t → Steps p.tables e below (s₁.setTop (entryFrame m #[(.ref a), (.int (1 : Int32))] 2)) t := by
    intro t k
    refine k3 t ?_
    show Steps p.tables e below (T2.setTop (mkF m 4 #[.val (.ref a), .val (.int (1 : Int32))] [(.int kk)])) _
    refine XS.iloadN X2.here hx rfl (hb hby own_d15_4) rfl ?_
    show Steps p.tables e below (T2.setTop (mkF m 5 #[.val (.ref a), .val (.int (1 : Int32))] [(.int (1 : Int32)), (.int kk)])) _
    refine XS.iadd X2.here hx rfl (hb hby own_d15_5) rfl ?_
    show Steps p.tables e below (T2.setTop (mkF m 6 #[.val (.ref a), .val (.int (1 : Int32))] [(.int (kk + (1 : Int32)))])) _
    refine XS.aloadN X2.here hx rfl (hb hby own_d15_6) rfl rfl ?_
    exact k
  obtain ⟨T5, X5, e5, st5⟩ := getF X2 hx hZ hown (host := "") (Or.inl (hw _ (List.mem_of_getElem? (i := 10) rfl))) Via.refl e2 P1 (g := (mkF m 7 #[.val (.ref a), .val (.int (1 : Int32))] [(.ref a), (.int (kk + (1 : Int32)))])) rfl rfl (hb hby own_d15_7)
  have k6 : ∀ t, Steps p.tables e below (T5.setTop (mkF m 10 #[.val (.ref a), .val (.int (1 : Int32))] [(.ref bb), (.int (kk + (1 : Int32)))])) t → Steps p.tables e below (s₁.setTop (entryFrame m #[(.ref a), (.int (1 : Int32))] 2)) t := fun t k => k4 t (st5 t k)
  have k7 : ∀ t, Steps p.tables e below (T5.setTop (mkF m 41 #[.val (.ref a), .val (.int (1 : Int32))] [])) t → Steps p.tables e below (s₁.setTop (entryFrame m #[(.ref a), (.int (1 : Int32))] 2)) t := by
    intro t k
    refine k6 t ?_
    show Steps p.tables e below (T5.setTop (mkF m 10 #[.val (.ref a), .val (.int (1 : Int32))] [(.ref bb), (.int (kk + (1 : Int32)))])) _
    refine own_len X5 hx hZ e5 P3 (g := (mkF m 10 #[.val (.ref a), .val (.int (1 : Int32))] [(.ref bb), (.int (kk + (1 : Int32)))])) rfl rfl (hb hby own_d15_10) ?_
    show Steps p.tables e below (T5.setTop (mkF m 11 #[.val (.ref a), .val (.int (1 : Int32))] [(.int (Nat.toInt32 zz)), (.int (kk + (1 : Int32)))])) _
    refine XS.icmpYes X5.here hx rfl (pc0 := 11) (pc' := 41) rfl (hb hby own_d15_11) rfl (flt (own_nlt (own_of_nat (n := zz) (by omega)) (own_inc hkk (by omega)) (by omega))).2.2.2 (by decide) (by decide) ?_
    exact k
  obtain ⟨fs, hr, hrun, hended, hW, hsame⟩ := X5.leave (v := none) (fun _ => rfl)
  refine ⟨_, _, k7 _ ?_, hrun, hended, _, _, rfl, ?_, ⟨_, rfl⟩, hW, hsame.mono (by decide) (by decide)⟩
  · exact X5.returnOut hx Bd.returns (hb hby own_d15_41) hr
  · show own_Qmr0 Z a bb kk zz bf k_ h0 n0 _ T5.heap _
    exact ⟨rfl, N0, e5⟩
theorem own_d15_14 : decode prog_20_method_12_code 14 = .ok (.aload_n 0, 1) := by decide +kernel
theorem own_d15_15 : decode prog_20_method_12_code 15 = .ok (.aload_n 0, 1) := by decide +kernel
theorem own_d15_16 : decode prog_20_method_12_code 16 = .ok (.getfield 7, 3) := by decide +kernel
theorem own_d15_19 : decode prog_20_method_12_code 19 = .ok (.aload_n 0, 1) := by decide +kernel
theorem own_d15_20 : decode prog_20_method_12_code 20 = .ok (.getfield 13, 3) := by decide +kernel
theorem own_d15_23 : decode prog_20_method_12_code 23 = .ok (.iload_n 1, 1) := by decide +kernel
theorem own_d15_24 : decode prog_20_method_12_code 24 = .ok (.iadd, 1) := by decide +kernel
theorem own_d15_25 : decode prog_20_method_12_code 25 = .ok (.iconst 2, 1) := by decide +kernel
theorem own_d15_26 : decode prog_20_method_12_code 26 = .ok (.aload_n 0, 1) := by decide +kernel
theorem own_d15_27 : decode prog_20_method_12_code 27 = .ok (.getfield 7, 3) := by decide +kernel
theorem own_d15_30 : decode prog_20_method_12_code 30 = .ok (.arraylength, 1) := by decide +kernel
theorem own_d15_31 : decode prog_20_method_12_code 31 = .ok (.imul, 1) := by decide +kernel
theorem own_d15_32 : decode prog_20_method_12_code 32 = .ok (.invokestatic 43, 3) := by decide +kernel
theorem own_d15_35 : decode prog_20_method_12_code 35 = .ok (.invokestatic 61, 3) := by decide +kernel
theorem own_d15_38 : decode prog_20_method_12_code 38 = .ok (.putfield 7, 3) := by decide +kernel
theorem own_pd18 : parseMethodDescriptor "([CI)[C" = some ⟨[(.array .char), .int], some (.array .char)⟩ := by decide +kernel
theorem own_efmr1 (m : MethodId) (x0 : Addr) : entryFrame m #[(.ref x0), (.int (1 : Int32))] 2 = mkF m 0 #[.val (.ref x0), .val (.int (1 : Int32))] [] := by first | (simp [entryFrame, mkF, argsToLocals, Value.category]; done) | rfl
def own_Qmr1 (Z : State) (a : Addr) (bb : Addr) (kk : Int32) (zz : Nat) (bf : Nat → Int32) (k_ : Nat) (h0 : Heap) (n0 : Nat) (v : Option Value) (h : Heap) (L : List Loc) : Prop := ∃ (b : Addr), v = none ∧ Fr n0 L ∧ Keep h0 h [a] ∧ h0.size ≤ b ∧ Fld Z h a "com/example/cureline/cureline/io/TextBuffer" "chars" "[C" (.ref b) ∧ Fld Z h a "com/example/cureline/cureline/io/TextBuffer" "length" "I" (.int kk) ∧ own_G Z h b .char (max (k_ + 1) (2 * zz)) (own_cpy bf own_zero zz)
def own_Rmr1 : Room := { frames := 2, cells := 1, slots := 8, locals := 33 }
set_option maxRecDepth 65536 in
set_option maxHeartbeats 40000000 in
theorem own_rmmr1 (l : Launch) (Z : State) (a0 : Array Value) (hw : ∀ d ∈ tables_1, d.before a0 Z = true) (ws : List Jvm.Cond) (a : Addr) (bb : Addr) (kk : Int32) (zz : Nat) (bf : Nat → Int32) (k_ : Nat) (h0 : Heap) (n0 : Nat) (Z0 : n0 ≤ h0.size) (P0 : Exa Z h0 a "com/example/cureline/cureline/io/TextBuffer") (P1 : Fld Z h0 a "com/example/cureline/cureline/io/TextBuffer" "chars" "[C" (.ref bb)) (P2 : Fld Z h0 a "com/example/cureline/cureline/io/TextBuffer" "length" "I" (.int kk)) (P3 : own_G Z h0 bb .char zz bf) (ge_a : n0 ≤ a) (ne_bb_a : bb ≠ a) (hkk : kk.toInt = (k_ : Int)) (hg : ¬ (k_ + 1 ≤ zz)) (hk : k_ ≤ zz) (hk3 : k_ ≤ 3) :
    MetFree l (⟨"com/example/cureline/cureline/io/TextBuffer", "makeRoom", "(I)V"⟩ : MethodName) (head1 (Jvm.Cond.code (⟨"com/example/cureline/cureline/io/TextBuffer", "makeRoom", "(I)V"⟩ : MethodName) prog_20_method_12_code 2 none :: ws) own_Rmr1) (fun aa U => aa = #[(.ref a), (.int (1 : Int32))] ∧ Z.Warmed39 U.vm ∧ U.heap = h0) (fun _ _ _ _ _ => True) (fun _ U o U' => ∃ v L, o = .returned v ∧ own_Qmr1 Z a bb kk zz bf k_ h0 n0 v U'.heap L ∧ FrameEnd U o U' L own_Rmr1.cells own_Rmr1.slots) := by
  refine MetFree.of_bodySF (plainFor_of_name own_pn4) hisR ?_
  intro p e s m args below meth c s₁ Bd hml0 hP hK
  obtain ⟨rfl, hZ, hh⟩ := hP
  have hx := Bd.exec
  have hby := Bd.bytes
  have hml : c.maxLocals = 2 := hml0
  have hown : s.vm.findClass "com/example/cureline/cureline/io/TextBuffer" = some m.cls := findClass_of_methodNamed Bd.named
  have hnm := (name_of_methodNamed Bd.named Bd.method).1
  have X0 : Stand p l e own_Rmr1 s m #[(.ref a), (.int (1 : Int32))] below meth c s₁ [] 0 0 := Stand.of_body Bd
  have e0 : s₁.heap = h0 := by rw [← hh, Bd.state]; rfl
  have N0 := Fr.nil n0
  have pre0 : ∀ t, Steps p.tables e below (s₁.setTop (mkF m 0 #[.val (.ref a), .val (.int (1 : Int32))] [])) t → Steps p.tables e below (s₁.setTop (entryFrame m #[(.ref a), (.int (1 : Int32))] 2)) t := fun t k => castTop (own_efmr1 m a) k
  have k1 : ∀ t, Steps p.tables e below (s₁.setTop (mkF m 1 #[.val (.ref a), .val (.int (1 : Int32))] [(.ref a)])) t → Steps p.tables e below (s₁.setTop (entryFrame m #[(.ref a), (.int (1 : Int32))] 2)) t := by
    intro t k
    refine pre0 t ?_
    show Steps p.tables e below (s₁.setTop (mkF m 0 #[.val (.ref a), .val (.int (1 : Int32))] [])) _
    refine XS.aloadN X0.here hx rfl (hb hby own_d15_0) rfl rfl ?_
    exact k
  obtain ⟨T2, X2, e2, st2⟩ := getF X0 hx hZ hown (host := "") (Or.inl (hw _ (List.mem_of_getElem? (i := 17) rfl))) Via.refl e0 P2 (g := (mkF m 1 #[.val (.ref a), .val (.int (1 : Int32))] [(.ref a)])) rfl rfl (hb hby own_d15_1)
  have k3 : ∀ t, Steps p.tables e below (T2.setTop (mkF m 4 #[.val (.ref a), .val (.int (1 : Int32))] [(.int kk)])) t → Steps p.tables e below (s₁.setTop (entryFrame m #[(.ref a), (.int (1 : Int32))] 2)) t := fun t k => k1 t (st2 t k)
  have k4 : ∀ t, Steps p.tables e below (T2.setTop (mkF m 7 #[.val (.ref a), .val (.int (1 : Int32))] [(.ref a), (.int (kk + (1 : Int32)))])) t → Steps p.tables e below (s₁.setTop (entryFrame m #[(.ref a), (.int (1 : Int32))] 2)) t := by
    intro t k
    refine k3 t ?_
    show Steps p.tables e below (T2.setTop (mkF m 4 #[.val (.ref a), .val (.int (1 : Int32))] [(.int kk)])) _
    refine XS.iloadN X2.here hx rfl (hb hby own_d15_4) rfl ?_
    show Steps p.tables e below (T2.setTop (mkF m 5 #[.val (.ref a), .val (.int (1 : Int32))] [(.int (1 : Int32)), (.int kk)])) _
    refine XS.iadd X2.here hx rfl (hb hby own_d15_5) rfl ?_
    show Steps p.tables e below (T2.setTop (mkF m 6 #[.val (.ref a), .val (.int (1 : Int32))] [(.int (kk + (1 : Int32)))])) _
    refine XS.aloadN X2.here hx rfl (hb hby own_d15_6) rfl rfl ?_
    exact k
  obtain ⟨T5, X5, e5, st5⟩ := getF X2 hx hZ hown (host := "") (Or.inl (hw _ (List.mem_of_getElem? (i := 10) rfl))) Via.refl e2 P1 (g := (mkF m 7 #[.val (.ref a), .val (.int (1 : Int32))] [(.ref a), (.int (kk + (1 : Int32)))])) rfl rfl (hb hby own_d15_7)
  have k6 : ∀ t, Steps p.tables e below (T5.setTop (mkF m 10 #[.val (.ref a), .val (.int (1 : Int32))] [(.ref bb), (.int (kk + (1 : Int32)))])) t → Steps p.tables e below (s₁.setTop (entryFrame m #[(.ref a), (.int (1 : Int32))] 2)) t := fun t k => k4 t (st5 t k)
  have k7 : ∀ t, Steps p.tables e below (T5.setTop (mkF m 16 #[.val (.ref a), .val (.int (1 : Int32))] [(.ref a), (.ref a)])) t → Steps p.tables e below (s₁.setTop (entryFrame m #[(.ref a), (.int (1 : Int32))] 2)) t := by
    intro t k
    refine k6 t ?_
    show Steps p.tables e below (T5.setTop (mkF m 10 #[.val (.ref a), .val (.int (1 : Int32))] [(.ref bb), (.int (kk + (1 : Int32)))])) _
    refine own_len X5 hx hZ e5 P3 (g := (mkF m 10 #[.val (.ref a), .val (.int (1 : Int32))] [(.ref bb), (.int (kk + (1 : Int32)))])) rfl rfl (hb hby own_d15_10) ?_
    show Steps p.tables e below (T5.setTop (mkF m 11 #[.val (.ref a), .val (.int (1 : Int32))] [(.int (Nat.toInt32 zz)), (.int (kk + (1 : Int32)))])) _
    refine XS.icmpNo X5.here hx rfl (hb hby own_d15_11) rfl (tlt (own_lt (own_of_nat (n := zz) (by omega)) (own_inc hkk (by omega)) (by omega))).2.2.2 ?_
    show Steps p.tables e below (T5.setTop (mkF m 14 #[.val (.ref a), .val (.int (1 : Int32))] [])) _
    refine XS.aloadN X5.here hx rfl (hb hby own_d15_14) rfl rfl ?_
    show Steps p.tables e below (T5.setTop (mkF m 15 #[.val (.ref a), .val (.int (1 : Int32))] [(.ref a)])) _
    refine XS.aloadN X5.here hx rfl (hb hby own_d15_15) rfl rfl ?_
    exact k
  obtain ⟨T8, X8, e8, st8⟩ := getF X5 hx hZ hown (host := "") (Or.inl (hw _ (List.mem_of_getElem? (i := 10) rfl))) Via.refl e5 P1 (g := (mkF m 16 #[.val (.ref a), .val (.int (1 : Int32))] [(.ref a), (.ref a)])) rfl rfl (hb hby own_d15_16)
  have k9 : ∀ t, Steps p.tables e below (T8.setTop (mkF m 19 #[.val (.ref a), .val (.int (1 : Int32))] [(.ref bb), (.ref a)])) t → Steps p.tables e below (s₁.setTop (entryFrame m #[(.ref a), (.int (1 : Int32))] 2)) t := fun t k => k7 t (st8 t k)
  have k10 : ∀ t, Steps p.tables e below (T8.setTop (mkF m 20 #[.val (.ref a), .val (.int (1 : Int32))] [(.ref a), (.ref bb), (.ref a)])) t → Steps p.tables e below (s₁.setTop (entryFrame m #[(.ref a), (.int (1 : Int32))] 2)) t := by
    intro t k
    refine k9 t ?_
    show Steps p.tables e below (T8.setTop (mkF m 19 #[.val (.ref a), .val (.int (1 : Int32))] [(.ref bb), (.ref a)])) _
    refine XS.aloadN X8.here hx rfl (hb hby own_d15_19) rfl rfl ?_
    exact k
  obtain ⟨T11, X11, e11, st11⟩ := getF X8 hx hZ hown (host := "") (Or.inl (hw _ (List.mem_of_getElem? (i := 17) rfl))) Via.refl e8 P2 (g := (mkF m 20 #[.val (.ref a), .val (.int (1 : Int32))] [(.ref a), (.ref bb), (.ref a)])) rfl rfl (hb hby own_d15_20)
  have k12 : ∀ t, Steps p.tables e below (T11.setTop (mkF m 23 #[.val (.ref a), .val (.int (1 : Int32))] [(.int kk), (.ref bb), (.ref a)])) t → Steps p.tables e below (s₁.setTop (entryFrame m #[(.ref a), (.int (1 : Int32))] 2)) t := fun t k => k10 t (st11 t k)
  have k13 : ∀ t, Steps p.tables e below (T11.setTop (mkF m 27 #[.val (.ref a), .val (.int (1 : Int32))] [(.ref a), (.int (2 : Int32)), (.int (kk + (1 : Int32))), (.ref bb), (.ref a)])) t → Steps p.tables e below (s₁.setTop (entryFrame m #[(.ref a), (.int (1 : Int32))] 2)) t := by
    intro t k
    refine k12 t ?_
    show Steps p.tables e below (T11.setTop (mkF m 23 #[.val (.ref a), .val (.int (1 : Int32))] [(.int kk), (.ref bb), (.ref a)])) _
    refine XS.iloadN X11.here hx rfl (hb hby own_d15_23) rfl ?_
    show Steps p.tables e below (T11.setTop (mkF m 24 #[.val (.ref a), .val (.int (1 : Int32))] [(.int (1 : Int32)), (.int kk), (.ref bb), (.ref a)])) _
    refine XS.iadd X11.here hx rfl (hb hby own_d15_24) rfl ?_
    show Steps p.tables e below (T11.setTop (mkF m 25 #[.val (.ref a), .val (.int (1 : Int32))] [(.int (kk + (1 : Int32))), (.ref bb), (.ref a)])) _
    refine XS.iconst X11.here hx rfl (hb hby own_d15_25) ?_
    show Steps p.tables e below (T11.setTop (mkF m 26 #[.val (.ref a), .val (.int (1 : Int32))] [(.int (2 : Int32)), (.int (kk + (1 : Int32))), (.ref bb), (.ref a)])) _
    refine XS.aloadN X11.here hx rfl (hb hby own_d15_26) rfl rfl ?_
    exact k
  obtain ⟨T14, X14, e14, st14⟩ := getF X11 hx hZ hown (host := "") (Or.inl (hw _ (List.mem_of_getElem? (i := 10) rfl))) Via.refl e11 P1 (g := (mkF m 27 #[.val (.ref a), .val (.int (1 : Int32))] [(.ref a), (.int (2 : Int32)), (.int (kk + (1 : Int32))), (.ref bb), (.ref a)])) rfl rfl (hb hby own_d15_27)
  have k15 : ∀ t, Steps p.tables e below (T14.setTop (mkF m 30 #[.val (.ref a), .val (.int (1 : Int32))] [(.ref bb), (.int (2 : Int32)), (.int (kk + (1 : Int32))), (.ref bb), (.ref a)])) t → Steps p.tables e below (s₁.setTop (entryFrame m #[(.ref a), (.int (1 : Int32))] 2)) t := fun t k => k13 t (st14 t k)
  have k16 : ∀ t, Steps p.tables e below (T14.setTop (mkF m 32 #[.val (.ref a), .val (.int (1 : Int32))] [(.int ((2 : Int32) * (Nat.toInt32 zz))), (.int (kk + (1 : Int32))), (.ref bb), (.ref a)])) t → Steps p.tables e below (s₁.setTop (entryFrame m #[(.ref a), (.int (1 : Int32))] 2)) t := by
    intro t k
    refine k15 t ?_
    show Steps p.tables e below (T14.setTop (mkF m 30 #[.val (.ref a), .val (.int (1 : Int32))] [(.ref bb), (.int (2 : Int32)), (.int (kk + (1 : Int32))), (.ref bb), (.ref a)])) _
    refine own_len X14 hx hZ e14 P3 (g := (mkF m 30 #[.val (.ref a), .val (.int (1 : Int32))] [(.ref bb), (.int (2 : Int32)), (.int (kk + (1 : Int32))), (.ref bb), (.ref a)])) rfl rfl (hb hby own_d15_30) ?_
    show Steps p.tables e below (T14.setTop (mkF m 31 #[.val (.ref a), .val (.int (1 : Int32))] [(.int (Nat.toInt32 zz)), (.int (2 : Int32)), (.int (kk + (1 : Int32))), (.ref bb), (.ref a)])) _
    refine XS.imul X14.here hx rfl (hb hby own_d15_31) rfl ?_
    exact k
  obtain ⟨_, _, ⟨T17, L17, k17c, n17⟩, -, X17, ⟨Lc17, hQ17, l17, y17, z17⟩, st17⟩ := Jvm.LawKit.callS X14 hx (y := (⟨"java/lang/Math", "max", "(II)I"⟩ : MethodName)) hown (mvT hZ (hw _ (List.mem_of_getElem? (i := 142) rfl))) (mvT hZ (hw _ (List.mem_of_getElem? (i := 143) rfl))) (mvT hZ (hw _ (List.mem_of_getElem? (i := 144) rfl))) (mvT hZ (hw _ (List.mem_of_getElem? (i := 145) rfl))) (by decide) (backOf (W := 2) (own_rmmx l Z a0 hw [] (kk + (1 : Int32)) ((2 : Int32) * (Nat.toInt32 zz)) h0 n0 Z0) hZ (hw _ (List.mem_of_getElem? (i := 145) rfl)) (hw _ (List.mem_of_getElem? (i := 144) rfl)) (by decide) (by decide)) (g := (mkF m 32 #[.val (.ref a), .val (.int (1 : Int32))] [(.int ((2 : Int32) * (Nat.toInt32 zz))), (.int (kk + (1 : Int32))), (.ref bb), (.ref a)])) rfl (by rw [hml]; rfl) (argsL := [(.int (kk + (1 : Int32))), (.int ((2 : Int32) * (Nat.toInt32 zz)))]) (rest := [(.ref bb), (.ref a)]) (lenOf own_pd17 rfl) rfl (by show 2 * 0 + _ ≤ _; exact Nat.le_of_eq rfl) (hb hby own_d15_32) (fun _ _ => ⟨rfl, e14, (by decide : 0 + 0 ≤ _), (by decide : 0 + 0 ≤ _)⟩)
  dsimp only [Pt.U, Pt.locs, Pt.cells, Pt.slots] at X17 l17 y17 z17 st17 hQ17
  subst l17 y17 z17
  obtain ⟨rfl, N17q, e17⟩ := hQ17
  have N17 := Fr.app N0 N17q
  have k18 : ∀ t, Steps p.tables e below (T17.setTop (mkF m 35 #[.val (.ref a), .val (.int (1 : Int32))] [(.int (own_vmx (kk + (1 : Int32)) ((2 : Int32) * (Nat.toInt32 zz)))), (.ref bb), (.ref a)])) t → Steps p.tables e below (s₁.setTop (entryFrame m #[(.ref a), (.int (1 : Int32))] 2)) t := fun t k => k16 t (st17 t k)
  obtain ⟨_, _, ⟨T19, L19, k19c, n19⟩, -, X19, ⟨Lc19, hQ19, l19, y19, z19⟩, st19⟩ := Jvm.LawKit.callS X17 hx (y := (⟨"java/util/Arrays", "copyOf", "([CI)[C"⟩ : MethodName)) hown (mvT hZ (hw _ (List.mem_of_getElem? (i := 146) rfl))) (mvT hZ (hw _ (List.mem_of_getElem? (i := 147) rfl))) (mvT hZ (hw _ (List.mem_of_getElem? (i := 148) rfl))) (mvT hZ (hw _ (List.mem_of_getElem? (i := 149) rfl))) (by decide) (backOf (W := 1) (own_rmco l Z a0 hw [] bb (own_vmx (kk + (1 : Int32)) ((2 : Int32) * (Nat.toInt32 zz))) zz bf (max (k_ + 1) (2 * zz)) h0 n0 Z0 P3 (own_mxN (own_inc hkk (by omega)) (own_mul2 (own_of_nat (n := zz) (by omega)) (by omega))) (by omega) (by omega)) hZ (hw _ (List.mem_of_getElem? (i := 149) rfl)) (hw _ (List.mem_of_getElem? (i := 148) rfl)) (by decide) (by decide)) (g := (mkF m 35 #[.val (.ref a), .val (.int (1 : Int32))] [(.int (own_vmx (kk + (1 : Int32)) ((2 : Int32) * (Nat.toInt32 zz)))), (.ref bb), (.ref a)])) rfl (by rw [hml]; rfl) (argsL := [(.ref bb), (.int (own_vmx (kk + (1 : Int32)) ((2 : Int32) * (Nat.toInt32 zz))))]) (rest := [(.ref a)]) (lenOf own_pd18 rfl) rfl (by show 2 * 0 + _ ≤ _; exact Nat.le_of_eq rfl) (hb hby own_d15_35) (fun _ _ => ⟨rfl, e17, (by decide : 0 + 1 ≤ _), (by decide : 0 + 8 ≤ _)⟩)
  dsimp only [Pt.U, Pt.locs, Pt.cells, Pt.slots] at X19 l19 y19 z19 st19 hQ19
  subst l19 y19 z19
  obtain ⟨rb_19, rfl, N19q, Kq19, gz19_b, fq19_0⟩ := hQ19
  have N19 := Fr.app N17 N19q
  have ge19_b : n0 ≤ rb_19 := Nat.le_trans Z0 gz19_b
  have bo19_b : h0.size ≤ rb_19 := Nat.le_trans (Keep.refl h0 [a]).1 gz19_b
  have ne20 : a ≠ rb_19 := Nat.ne_of_lt (Nat.lt_of_lt_of_le P0.lt gz19_b)
  have ne21 : bb ≠ rb_19 := Nat.ne_of_lt (Nat.lt_of_lt_of_le P3.lt gz19_b)
  have f22 := P0.keep Kq19
  have f23 := P1.keep Kq19 List.not_mem_nil
  have f24 := P2.keep Kq19 List.not_mem_nil
  have f25 := P3.keep Kq19 List.not_mem_nil
  have Z19 : n0 ≤ T19.heap.size := Nat.le_trans Z0 Kq19.1
  have K19 : Keep h0 T19.heap [a] := (Keep.refl h0 [a]).trans Kq19 (fun x hx => nomatch hx)
  have k26 : ∀ t, Steps p.tables e below (T19.setTop (mkF m 38 #[.val (.ref a), .val (.int (1 : Int32))] [(.ref rb_19), (.ref a)])) t → Steps p.tables e below (s₁.setTop (entryFrame m #[(.ref a), (.int (1 : Int32))] 2)) t := fun t k => k18 t (st19 t k)
  obtain ⟨T27, h27, X27, e27, W27, st27⟩ := putF X19 hx hZ hown (host := "") (Or.inl (hw _ (List.mem_of_getElem? (i := 10) rfl))) Via.refl rfl f23 f22 (Or.inl (hw _ (List.mem_of_getElem? (i := 11) rfl))) (hw _ (List.mem_of_getElem? (i := 2) rfl)) (ty := (.array .char)) (by decide) rfl rfl (g := (mkF m 38 #[.val (.ref a), .val (.int (1 : Int32))] [(.ref rb_19), (.ref a)])) rfl rfl (hb hby own_d15_38)
  have f28 := f22.wr W27
  have f29 := f24.other W27 (Or.inr (slot_ne (Or.inl (hw _ (List.mem_of_getElem? (i := 18) rfl))) (Or.inl (hw _ (List.mem_of_getElem? (i := 11) rfl))) (by decide) (t := .int) (t' := (.array .char)) (by decide) (by decide)))
  have f30 := f25.other W27 ne_bb_a
  have f31 := fq19_0.other W27 (Ne.symm ne20)
  have f32 := f23.same W27
  have N27 := Fr.snoc X27 N19 ge_a
  have K27 : Keep h0 h27 [a] := K19.wr W27 (Or.inl (List.mem_of_getElem? (i := 0) rfl))
  have Z27 : n0 ≤ h27.size := Nat.le_trans Z19 (Keep.of_wr W27).1
  have k33 : ∀ t, Steps p.tables e below (T27.setTop (mkF m 41 #[.val (.ref a), .val (.int (1 : Int32))] [])) t → Steps p.tables e below (s₁.setTop (entryFrame m #[(.ref a), (.int (1 : Int32))] 2)) t := fun t k => k26 t (st27 t k)
  obtain ⟨fs, hr, hrun, hended, hW, hsame⟩ := X27.leave (v := none) (fun _ => rfl)
  refine ⟨_, _, k33 _ ?_, hrun, hended, _, _, rfl, ?_, ⟨_, rfl⟩, hW, hsame.mono (by decide) (by decide)⟩
  · exact X27.returnOut hx Bd.returns (hb hby own_d15_41) hr
  · show own_Qmr1 Z a bb kk zz bf k_ h0 n0 _ T27.heap _
    rw [e27]
    exact ⟨rb_19, rfl, N27, K27, bo19_b, f32, f29, f31⟩
theorem own_d14_0 : decode prog_20_method_5_code 0 = .ok (.aload_n 0, 1) := by decide +kernel
theorem own_d14_1 : decode prog_20_method_5_code 1 = .ok (.iconst 1, 1) := by decide +kernel
theorem own_d14_2 : decode prog_20_method_5_code 2 = .ok (.invokevirtual 17, 3) := by decide +kernel
theorem own_d14_5 : decode prog_20_method_5_code 5 = .ok (.aload_n 0, 1) := by decide +kernel
theorem own_d14_6 : decode prog_20_method_5_code 6 = .ok (.getfield 7, 3) := by decide +kernel
theorem own_d14_9 : decode prog_20_method_5_code 9 = .ok (.aload_n 0, 1) := by decide +kernel
theorem own_d14_10 : decode prog_20_method_5_code 10 = .ok (.dup, 1) := by decide +kernel
theorem own_d14_11 : decode prog_20_method_5_code 11 = .ok (.getfield 13, 3) := by decide +kernel
theorem own_d14_14 : decode prog_20_method_5_code 14 = .ok (.dup_x1, 1) := by decide +kernel
theorem own_d14_15 : decode prog_20_method_5_code 15 = .ok (.iconst 1, 1) := by decide +kernel
theorem own_d14_16 : decode prog_20_method_5_code 16 = .ok (.iadd, 1) := by decide +kernel
theorem own_d14_17 : decode prog_20_method_5_code 17 = .ok (.putfield 13, 3) := by decide +kernel
theorem own_d14_20 : decode prog_20_method_5_code 20 = .ok (.iload_n 1, 1) := by decide +kernel
theorem own_d14_21 : decode prog_20_method_5_code 21 = .ok (.castore, 1) := by decide +kernel
theorem own_d14_22 : decode prog_20_method_5_code 22 = .ok (.aload_n 0, 1) := by decide +kernel
theorem own_d14_23 : decode prog_20_method_5_code 23 = .ok (.areturn, 1) := by decide +kernel
theorem own_pd19 : parseMethodDescriptor "(I)V" = some ⟨[.int], none⟩ := by decide +kernel
theorem own_efap (m : MethodId) (x0 : Addr) (x1 : Int32) : entryFrame m #[(.ref x0), (.int x1)] 2 = mkF m 0 #[.val (.ref x0), .val (.int x1)] [] := by first | (simp [entryFrame, mkF, argsToLocals, Value.category]; done) | rfl
def own_Qap (Z : State) (a : Addr) (p2 : Int32) (bb : Addr) (kk : Int32) (zz : Nat) (bf : Nat → Int32) (k_ : Nat) (h0 : Heap) (n0 : Nat) (v : Option Value) (h : Heap) (L : List Loc) : Prop := ∃ (b2 : Addr) (z2 : Nat) (f2 : Nat → Int32), v = some (.ref a) ∧ Fr n0 L ∧ Keep h0 h [a, bb] ∧ Fld Z h a "com/example/cureline/cureline/io/TextBuffer" "chars" "[C" (.ref b2) ∧ Fld Z h a "com/example/cureline/cureline/io/TextBuffer" "length" "I" (.int (kk + (1 : Int32))) ∧ own_G Z h b2 .char z2 f2 ∧ (b2 = bb ∨ h0.size ≤ b2) ∧ (k_ + 1 ≤ z2 ∧ z2 ≤ 8) ∧ ((∀ i, i < k_ → f2 i = bf i) ∧ f2 k_ = nar .char p2)
def own_Rap : Room := { frames := 3, cells := 1, slots := 8, locals := 46 }
set_option maxRecDepth 65536 in
set_option maxHeartbeats 40000000 in
theorem own_rmap (l : Launch) (Z : State) (a0 : Array Value) (hw : ∀ d ∈ tables_1, d.before a0 Z = true) (ws : List Jvm.Cond) (a : Addr) (p2 : Int32) (bb : Addr) (kk : Int32) (zz : Nat) (bf : Nat → Int32) (k_ : Nat) (h0 : Heap) (n0 : Nat) (Z0 : n0 ≤ h0.size) (P0 : Exa Z h0 a "com/example/cureline/cureline/io/TextBuffer") (P1 : Fld Z h0 a "com/example/cureline/cureline/io/TextBuffer" "chars" "[C" (.ref bb)) (P2 : Fld Z h0 a "com/example/cureline/cureline/io/TextBuffer" "length" "I" (.int kk)) (P3 : own_G Z h0 bb .char zz bf) (ge_a : n0 ≤ a) (ge_bb : n0 ≤ bb) (ne_bb_a : bb ≠ a) (hkk : kk.toInt = (k_ : Int)) (hk : k_ ≤ zz) (hz : zz ≤ 8) (hk3 : k_ ≤ 3) :
    MetFree l (⟨"com/example/cureline/cureline/io/TextBuffer", "append", "(C)Lcom/example/cureline/cureline/io/TextBuffer;"⟩ : MethodName) (head1 (Jvm.Cond.code (⟨"com/example/cureline/cureline/io/TextBuffer", "append", "(C)Lcom/example/cureline/cureline/io/TextBuffer;"⟩ : MethodName) prog_20_method_5_code 2 (some (.object "com/example/cureline/cureline/io/TextBuffer")) :: ws) own_Rap) (fun aa U => aa = #[(.ref a), (.int p2)] ∧ Z.Warmed39 U.vm ∧ U.heap = h0) (fun _ _ _ _ _ => True) (fun _ U o U' => ∃ v L, o = .returned v ∧ own_Qap Z a p2 bb kk zz bf k_ h0 n0 v U'.heap L ∧ FrameEnd U o U' L own_Rap.cells own_Rap.slots) := by
  refine MetFree.of_bodySF (plainFor_of_name own_pn4) hisR ?_
  intro p e s m args below meth c s₁ Bd hml0 hP hK
  obtain ⟨rfl, hZ, hh⟩ := hP
  have hx := Bd.exec
  have hby := Bd.bytes
  have hml : c.maxLocals = 2 := hml0
  have hown : s.vm.findClass "com/example/cureline/cureline/io/TextBuffer" = some m.cls := findClass_of_methodNamed Bd.named
  have hnm := (name_of_methodNamed Bd.named Bd.method).1
  have X0 : Stand p l e own_Rap s m #[(.ref a), (.int p2)] below meth c s₁ [] 0 0 := Stand.of_body Bd
  have e0 : s₁.heap = h0 := by rw [← hh, Bd.state]; rfl
  have N0 := Fr.nil n0
  have pre0 : ∀ t, Steps p.tables e below (s₁.setTop (mkF m 0 #[.val (.ref a), .val (.int p2)] [])) t → Steps p.tables e below (s₁.setTop (entryFrame m #[(.ref a), (.int p2)] 2)) t := fun t k => castTop (own_efap m a p2) k
  by_cases hg : k_ + 1 ≤ zz
  · skip
    have k1 : ∀ t, Steps p.tables e below (s₁.setTop (mkF m 2 #[.val (.ref a), .val (.int p2)] [(.int (1 : Int32)), (.ref a)])) t → Steps p.tables e below (s₁.setTop (entryFrame m #[(.ref a), (.int p2)] 2)) t := by
      intro t k
      refine pre0 t ?_
      show Steps p.tables e below (s₁.setTop (mkF m 0 #[.val (.ref a), .val (.int p2)] [])) _
      refine XS.aloadN X0.here hx rfl (hb hby own_d14_0) rfl rfl ?_
      show Steps p.tables e below (s₁.setTop (mkF m 1 #[.val (.ref a), .val (.int p2)] [(.ref a)])) _
      refine XS.iconst X0.here hx rfl (hb hby own_d14_1) ?_
      exact k
    obtain ⟨cq2, qa2x, qb2x⟩ := P0.cell
    obtain ⟨_, _, ⟨T2, L2, k2c, n2⟩, -, X2, ⟨Lc2, hQ2, l2, y2, z2⟩, st2⟩ := X0.privateBack hx (y := (⟨"com/example/cureline/cureline/io/TextBuffer", "makeRoom", "(I)V"⟩ : MethodName)) hown (mvT hZ (hw _ (List.mem_of_getElem? (i := 79) rfl))) (mvT hZ (hw _ (List.mem_of_getElem? (i := 80) rfl))) (Jvm.Kit.selects_private (by decide) (mvT hZ (hw _ (List.mem_of_getElem? (i := 2) rfl))) (mvP hZ (hw _ (List.mem_of_getElem? (i := 81) rfl))) (mvT hZ (hw _ (List.mem_of_getElem? (i := 80) rfl)))) (Cond.privateMethod_at (mvP hZ (hw _ (List.mem_of_getElem? (i := 81) rfl)) (args := #[]))) (mvT hZ (hw _ (List.mem_of_getElem? (i := 82) rfl))) (by decide) (backOf (W := 0) (own_rmmr0 l Z a0 hw [] a bb kk zz bf k_ h0 n0 Z0 P0 P1 P2 P3 hkk (by omega) (by omega)) hZ (hw _ (List.mem_of_getElem? (i := 82) rfl)) (hw _ (List.mem_of_getElem? (i := 3) rfl)) (by decide) (by decide)) (g := (mkF m 2 #[.val (.ref a), .val (.int p2)] [(.int (1 : Int32)), (.ref a)])) rfl (by rw [hml]; rfl) (Steps.refl _) (a := a) (by rw [e0]; exact qa2x) qb2x (argsL := [(.int (1 : Int32))]) (rest := []) (lenOf own_pd19 rfl) rfl (by show 2 * 0 + _ ≤ _; exact Nat.le_of_eq rfl) (hb hby own_d14_2) (fun _ _ => ⟨rfl, e0, (by decide : 0 + 0 ≤ _), (by decide : 0 + 0 ≤ _)⟩)
    dsimp only [Pt.U, Pt.locs, Pt.cells, Pt.slots] at X2 l2 y2 z2 st2 hQ2
    subst l2 y2 z2
    obtain ⟨rfl, N2q, e2⟩ := hQ2
    have N2 := Fr.app N0 N2q
    have k3 : ∀ t, Steps p.tables e below (T2.setTop (mkF m 5 #[.val (.ref a), .val (.int p2)] [])) t → Steps p.tables e below (s₁.setTop (entryFrame m #[(.ref a), (.int p2)] 2)) t := fun t k => k1 t (st2.trans k)
    have k4 : ∀ t, Steps p.tables e below (T2.setTop (mkF m 6 #[.val (.ref a), .val (.int p2)] [(.ref a)])) t → Steps p.tables e below (s₁.setTop (entryFrame m #[(.ref a), (.int p2)] 2)) t := by
      intro t k
      refine k3 t ?_
      show Steps p.tables e below (T2.setTop (mkF m 5 #[.val (.ref a), .val (.int p2)] [])) _
      refine XS.aloadN X2.here hx rfl (hb hby own_d14_5) rfl rfl ?_
      exact k
    obtain ⟨T5, X5, e5, st5⟩ := getF X2 hx hZ hown (host := "") (Or.inl (hw _ (List.mem_of_getElem? (i := 10) rfl))) Via.refl e2 P1 (g := (mkF m 6 #[.val (.ref a), .val (.int p2)] [(.ref a)])) rfl rfl (hb hby own_d14_6)
    have k6 : ∀ t, Steps p.tables e below (T5.setTop (mkF m 9 #[.val (.ref a), .val (.int p2)] [(.ref bb)])) t → Steps p.tables e below (s₁.setTop (entryFrame m #[(.ref a), (.int p2)] 2)) t := fun t k => k4 t (st5 t k)
    have k7 : ∀ t, Steps p.tables e below (T5.setTop (mkF m 11 #[.val (.ref a), .val (.int p2)] [(.ref a), (.ref a), (.ref bb)])) t → Steps p.tables e below (s₁.setTop (entryFrame m #[(.ref a), (.int p2)] 2)) t := by
      intro t k
      refine k6 t ?_
      show Steps p.tables e below (T5.setTop (mkF m 9 #[.val (.ref a), .val (.int p2)] [(.ref bb)])) _
      refine XS.aloadN X5.here hx rfl (hb hby own_d14_9) rfl rfl ?_
      show Steps p.tables e below (T5.setTop (mkF m 10 #[.val (.ref a), .val (.int p2)] [(.ref a), (.ref bb)])) _
      refine XS.dup X5.here hx rfl (hb hby own_d14_10) rfl rfl ?_
      exact k
    obtain ⟨T8, X8, e8, st8⟩ := getF X5 hx hZ hown (host := "") (Or.inl (hw _ (List.mem_of_getElem? (i := 17) rfl))) Via.refl e5 P2 (g := (mkF m 11 #[.val (.ref a), .val (.int p2)] [(.ref a), (.ref a), (.ref bb)])) rfl rfl (hb hby own_d14_11)
    have k9 : ∀ t, Steps p.tables e below (T8.setTop (mkF m 14 #[.val (.ref a), .val (.int p2)] [(.int kk), (.ref a), (.ref bb)])) t → Steps p.tables e below (s₁.setTop (entryFrame m #[(.ref a), (.int p2)] 2)) t := fun t k => k7 t (st8 t k)
    have k10 : ∀ t, Steps p.tables e below (T8.setTop (mkF m 17 #[.val (.ref a), .val (.int p2)] [(.int (kk + (1 : Int32))), (.ref a), (.int kk), (.ref bb)])) t → Steps p.tables e below (s₁.setTop (entryFrame m #[(.ref a), (.int p2)] 2)) t := by
      intro t k
      refine k9 t ?_
      show Steps p.tables e below (T8.setTop (mkF m 14 #[.val (.ref a), .val (.int p2)] [(.int kk), (.ref a), (.ref bb)])) _
      refine XS.dupX1 X8.here hx rfl (hb hby own_d14_14) rfl rfl rfl ?_
      show Steps p.tables e below (T8.setTop (mkF m 15 #[.val (.ref a), .val (.int p2)] [(.int kk), (.ref a), (.int kk), (.ref bb)])) _
      refine XS.iconst X8.here hx rfl (hb hby own_d14_15) ?_
      show Steps p.tables e below (T8.setTop (mkF m 16 #[.val (.ref a), .val (.int p2)] [(.int (1 : Int32)), (.int kk), (.ref a), (.int kk), (.ref bb)])) _
      refine XS.iadd X8.here hx rfl (hb hby own_d14_16) rfl ?_
      exact k
    obtain ⟨T11, h11, X11, e11, W11, st11⟩ := putF X8 hx hZ hown (host := "") (Or.inl (hw _ (List.mem_of_getElem? (i := 17) rfl))) Via.refl e8 P2 P0 (Or.inl (hw _ (List.mem_of_getElem? (i := 18) rfl))) (hw _ (List.mem_of_getElem? (i := 2) rfl)) (ty := .int) (by decide) rfl rfl (g := (mkF m 17 #[.val (.ref a), .val (.int p2)] [(.int (kk + (1 : Int32))), (.ref a), (.int kk), (.ref bb)])) rfl rfl (hb hby own_d14_17)
    have f12 := P0.wr W11
    have f13 := P1.other W11 (Or.inr (slot_ne (Or.inl (hw _ (List.mem_of_getElem? (i := 11) rfl))) (Or.inl (hw _ (List.mem_of_getElem? (i := 18) rfl))) (by decide) (t := (.array .char)) (t' := .int) (by decide) (by decide)))
    have f14 := P3.other W11 ne_bb_a
    have f15 := P2.same W11
    have N11 := Fr.snoc X11 N2 ge_a
    have K11 : Keep h0 h11 [a, bb] := (Keep.refl h0 [a, bb]).wr W11 (Or.inl (List.mem_of_getElem? (i := 0) rfl))
    have Z11 : n0 ≤ h11.size := Nat.le_trans Z0 (Keep.of_wr W11).1
    have k16 : ∀ t, Steps p.tables e below (T11.setTop (mkF m 20 #[.val (.ref a), .val (.int p2)] [(.int kk), (.ref bb)])) t → Steps p.tables e below (s₁.setTop (entryFrame m #[(.ref a), (.int p2)] 2)) t := fun t k => k10 t (st11 t k)
    have k17 : ∀ t, Steps p.tables e below (T11.setTop (mkF m 21 #[.val (.ref a), .val (.int p2)] [(.int p2), (.int kk), (.ref bb)])) t → Steps p.tables e below (s₁.setTop (entryFrame m #[(.ref a), (.int p2)] 2)) t := by
      intro t k
      refine k16 t ?_
      show Steps p.tables e below (T11.setTop (mkF m 20 #[.val (.ref a), .val (.int p2)] [(.int kk), (.ref bb)])) _
      refine XS.iloadN X11.here hx rfl (hb hby own_d14_20) rfl ?_
      exact k
    obtain ⟨T18, h18, X18, e18, W18, G18, st18⟩ := own_stC X11 hx hZ e11 f14 (j := kk) hkk (by omega) (g := (mkF m 21 #[.val (.ref a), .val (.int p2)] [(.int p2), (.int kk), (.ref bb)])) rfl rfl (hb hby own_d14_21)
    have f19 := f12.wr W18
    have f20 := f13.other W18 (Or.inl (Ne.symm ne_bb_a))
    have f21 := f15.other W18 (Or.inl (Ne.symm ne_bb_a))
    have N18 := Fr.snoc X18 N11 ge_bb
    have K18 : Keep h0 h18 [a, bb] := K11.wr W18 (Or.inl (List.mem_of_getElem? (i := 1) rfl))
    have Z18 : n0 ≤ h18.size := Nat.le_trans Z11 (Keep.of_wr W18).1
    have k22 : ∀ t, Steps p.tables e below (T18.setTop (mkF m 22 #[.val (.ref a), .val (.int p2)] [])) t → Steps p.tables e below (s₁.setTop (entryFrame m #[(.ref a), (.int p2)] 2)) t := fun t k => k17 t (st18 t k)
    have k23 : ∀ t, Steps p.tables e below (T18.setTop (mkF m 23 #[.val (.ref a), .val (.int p2)] [(.ref a)])) t → Steps p.tables e below (s₁.setTop (entryFrame m #[(.ref a), (.int p2)] 2)) t := by
      intro t k
      refine k22 t ?_
      show Steps p.tables e below (T18.setTop (mkF m 22 #[.val (.ref a), .val (.int p2)] [])) _
      refine XS.aloadN X18.here hx rfl (hb hby own_d14_22) rfl rfl ?_
      exact k
    obtain ⟨fs, hr, hrun, hended, hW, hsame⟩ := X18.leave (v := (some (.ref a))) (fun h => by rw [Bd.returns] at h; cases h)
    refine ⟨_, _, k23 _ ?_, hrun, hended, _, _, rfl, ?_, ⟨_, rfl⟩, hW, hsame.mono (by decide) (by decide)⟩
    · exact retOut X18 hx Bd.returns rfl (Or.inr (Or.inr (Or.inr (Or.inr ⟨rfl, rfl, rfl⟩)))) (hb hby own_d14_23) hr
    · show own_Qap Z a p2 bb kk zz bf k_ h0 n0 _ T18.heap _
      rw [e18]
      exact ⟨bb, zz, (own_upd bf k_ (nar .char p2)), rfl, N18, K18, f20, f21, G18, (Or.inl rfl), (by omega), ⟨fun i hi => own_upd1 hi, own_upd2⟩⟩
  · skip
    have k24 : ∀ t, Steps p.tables e below (s₁.setTop (mkF m 2 #[.val (.ref a), .val (.int p2)] [(.int (1 : Int32)), (.ref a)])) t → Steps p.tables e below (s₁.setTop (entryFrame m #[(.ref a), (.int p2)] 2)) t := by
      intro t k
      refine pre0 t ?_
      show Steps p.tables e below (s₁.setTop (mkF m 0 #[.val (.ref a), .val (.int p2)] [])) _
      refine XS.aloadN X0.here hx rfl (hb hby own_d14_0) rfl rfl ?_
      show Steps p.tables e below (s₁.setTop (mkF m 1 #[.val (.ref a), .val (.int p2)] [(.ref a)])) _
      refine XS.iconst X0.here hx rfl (hb hby own_d14_1) ?_
      exact k
    obtain ⟨cq25, qa25x, qb25x⟩ := P0.cell
    obtain ⟨_, _, ⟨T25, L25, k25c, n25⟩, -, X25, ⟨Lc25, hQ25, l25, y25, z25⟩, st25⟩ := X0.privateBack hx (y := (⟨"com/example/cureline/cureline/io/TextBuffer", "makeRoom", "(I)V"⟩ : MethodName)) hown (mvT hZ (hw _ (List.mem_of_getElem? (i := 79) rfl))) (mvT hZ (hw _ (List.mem_of_getElem? (i := 80) rfl))) (Jvm.Kit.selects_private (by decide) (mvT hZ (hw _ (List.mem_of_getElem? (i := 2) rfl))) (mvP hZ (hw _ (List.mem_of_getElem? (i := 81) rfl))) (mvT hZ (hw _ (List.mem_of_getElem? (i := 80) rfl)))) (Cond.privateMethod_at (mvP hZ (hw _ (List.mem_of_getElem? (i := 81) rfl)) (args := #[]))) (mvT hZ (hw _ (List.mem_of_getElem? (i := 82) rfl))) (by decide) (backOf (W := 0) (own_rmmr1 l Z a0 hw [] a bb kk zz bf k_ h0 n0 Z0 P0 P1 P2 P3 ge_a ne_bb_a hkk (by omega) (by omega) (by omega)) hZ (hw _ (List.mem_of_getElem? (i := 82) rfl)) (hw _ (List.mem_of_getElem? (i := 3) rfl)) (by decide) (by decide)) (g := (mkF m 2 #[.val (.ref a), .val (.int p2)] [(.int (1 : Int32)), (.ref a)])) rfl (by rw [hml]; rfl) (Steps.refl _) (a := a) (by rw [e0]; exact qa25x) qb25x (argsL := [(.int (1 : Int32))]) (rest := []) (lenOf own_pd19 rfl) rfl (by show 2 * 0 + _ ≤ _; exact Nat.le_of_eq rfl) (hb hby own_d14_2) (fun _ _ => ⟨rfl, e0, (by decide : 0 + 1 ≤ _), (by decide : 0 + 8 ≤ _)⟩)
    dsimp only [Pt.U, Pt.locs, Pt.cells, Pt.slots] at X25 l25 y25 z25 st25 hQ25
    subst l25 y25 z25
    obtain ⟨rb_25, rfl, N25q, Kq25, gz25_b, fq25_0, fq25_1, fq25_2⟩ := hQ25
    have N25 := Fr.app N0 N25q
    have ge25_b : n0 ≤ rb_25 := Nat.le_trans Z0 gz25_b
    have bo25_b : h0.size ≤ rb_25 := Nat.le_trans (Keep.refl h0 [a, bb]).1 gz25_b
    have ne26 : a ≠ rb_25 := Nat.ne_of_lt (Nat.lt_of_lt_of_le P0.lt gz25_b)
    have ne27 : bb ≠ rb_25 := Nat.ne_of_lt (Nat.lt_of_lt_of_le P3.lt gz25_b)
    have f28 := P0.keep Kq25
    have f29 := P3.keep Kq25 (List.not_mem_cons_of_ne_of_not_mem ne_bb_a List.not_mem_nil)
    have Z25 : n0 ≤ T25.heap.size := Nat.le_trans Z0 Kq25.1
    have K25 : Keep h0 T25.heap [a, bb] := (Keep.refl h0 [a, bb]).trans Kq25 (fun x hx => by rcases List.mem_cons.mp hx with rfl | hx; exact Or.inl (List.mem_of_getElem? (i := 0) rfl); exact nomatch hx)
    have k30 : ∀ t, Steps p.tables e below (T25.setTop (mkF m 5 #[.val (.ref a), .val (.int p2)] [])) t → Steps p.tables e below (s₁.setTop (entryFrame m #[(.ref a), (.int p2)] 2)) t := fun t k => k24 t (st25.trans k)
    have k31 : ∀ t, Steps p.tables e below (T25.setTop (mkF m 6 #[.val (.ref a), .val (.int p2)] [(.ref a)])) t → Steps p.tables e below (s₁.setTop (entryFrame m #[(.ref a), (.int p2)] 2)) t := by
      intro t k
      refine k30 t ?_
      show Steps p.tables e below (T25.setTop (mkF m 5 #[.val (.ref a), .val (.int p2)] [])) _
      refine XS.aloadN X25.here hx rfl (hb hby own_d14_5) rfl rfl ?_
      exact k
    obtain ⟨T32, X32, e32, st32⟩ := getF X25 hx hZ hown (host := "") (Or.inl (hw _ (List.mem_of_getElem? (i := 10) rfl))) Via.refl rfl fq25_0 (g := (mkF m 6 #[.val (.ref a), .val (.int p2)] [(.ref a)])) rfl rfl (hb hby own_d14_6)
    have k33 : ∀ t, Steps p.tables e below (T32.setTop (mkF m 9 #[.val (.ref a), .val (.int p2)] [(.ref rb_25)])) t → Steps p.tables e below (s₁.setTop (entryFrame m #[(.ref a), (.int p2)] 2)) t := fun t k => k31 t (st32 t k)
    have k34 : ∀ t, Steps p.tables e below (T32.setTop (mkF m 11 #[.val (.ref a), .val (.int p2)] [(.ref a), (.ref a), (.ref rb_25)])) t → Steps p.tables e below (s₁.setTop (entryFrame m #[(.ref a), (.int p2)] 2)) t := by
      intro t k
      refine k33 t ?_
      show Steps p.tables e below (T32.setTop (mkF m 9 #[.val (.ref a), .val (.int p2)] [(.ref rb_25)])) _
      refine XS.aloadN X32.here hx rfl (hb hby own_d14_9) rfl rfl ?_
      show Steps p.tables e below (T32.setTop (mkF m 10 #[.val (.ref a), .val (.int p2)] [(.ref a), (.ref rb_25)])) _
      refine XS.dup X32.here hx rfl (hb hby own_d14_10) rfl rfl ?_
      exact k
    obtain ⟨T35, X35, e35, st35⟩ := getF X32 hx hZ hown (host := "") (Or.inl (hw _ (List.mem_of_getElem? (i := 17) rfl))) Via.refl e32 fq25_1 (g := (mkF m 11 #[.val (.ref a), .val (.int p2)] [(.ref a), (.ref a), (.ref rb_25)])) rfl rfl (hb hby own_d14_11)
    have k36 : ∀ t, Steps p.tables e below (T35.setTop (mkF m 14 #[.val (.ref a), .val (.int p2)] [(.int kk), (.ref a), (.ref rb_25)])) t → Steps p.tables e below (s₁.setTop (entryFrame m #[(.ref a), (.int p2)] 2)) t := fun t k => k34 t (st35 t k)
    have k37 : ∀ t, Steps p.tables e below (T35.setTop (mkF m 17 #[.val (.ref a), .val (.int p2)] [(.int (kk + (1 : Int32))), (.ref a), (.int kk), (.ref rb_25)])) t → Steps p.tables e below (s₁.setTop (entryFrame m #[(.ref a), (.int p2)] 2)) t := by
      intro t k
      refine k36 t ?_
      show Steps p.tables e below (T35.setTop (mkF m 14 #[.val (.ref a), .val (.int p2)] [(.int kk), (.ref a), (.ref rb_25)])) _
      refine XS.dupX1 X35.here hx rfl (hb hby own_d14_14) rfl rfl rfl ?_
      show Steps p.tables e below (T35.setTop (mkF m 15 #[.val (.ref a), .val (.int p2)] [(.int kk), (.ref a), (.int kk), (.ref rb_25)])) _
      refine XS.iconst X35.here hx rfl (hb hby own_d14_15) ?_
      show Steps p.tables e below (T35.setTop (mkF m 16 #[.val (.ref a), .val (.int p2)] [(.int (1 : Int32)), (.int kk), (.ref a), (.int kk), (.ref rb_25)])) _
      refine XS.iadd X35.here hx rfl (hb hby own_d14_16) rfl ?_
      exact k
    obtain ⟨T38, h38, X38, e38, W38, st38⟩ := putF X35 hx hZ hown (host := "") (Or.inl (hw _ (List.mem_of_getElem? (i := 17) rfl))) Via.refl e35 fq25_1 f28 (Or.inl (hw _ (List.mem_of_getElem? (i := 18) rfl))) (hw _ (List.mem_of_getElem? (i := 2) rfl)) (ty := .int) (by decide) rfl rfl (g := (mkF m 17 #[.val (.ref a), .val (.int p2)] [(.int (kk + (1 : Int32))), (.ref a), (.int kk), (.ref rb_25)])) rfl rfl (hb hby own_d14_17)
    have f39 := f28.wr W38
    have f40 := fq25_0.other W38 (Or.inr (slot_ne (Or.inl (hw _ (List.mem_of_getElem? (i := 11) rfl))) (Or.inl (hw _ (List.mem_of_getElem? (i := 18) rfl))) (by decide) (t := (.array .char)) (t' := .int) (by decide) (by decide)))
    have f41 := f29.other W38 ne_bb_a
    have f42 := fq25_2.other W38 (Ne.symm ne26)
    have f43 := fq25_1.same W38
    have N38 := Fr.snoc X38 N25 ge_a
    have K38 : Keep h0 h38 [a, bb] := K25.wr W38 (Or.inl (List.mem_of_getElem? (i := 0) rfl))
    have Z38 : n0 ≤ h38.size := Nat.le_trans Z25 (Keep.of_wr W38).1
    have k44 : ∀ t, Steps p.tables e below (T38.setTop (mkF m 20 #[.val (.ref a), .val (.int p2)] [(.int kk), (.ref rb_25)])) t → Steps p.tables e below (s₁.setTop (entryFrame m #[(.ref a), (.int p2)] 2)) t := fun t k => k37 t (st38 t k)
    have k45 : ∀ t, Steps p.tables e below (T38.setTop (mkF m 21 #[.val (.ref a), .val (.int p2)] [(.int p2), (.int kk), (.ref rb_25)])) t → Steps p.tables e below (s₁.setTop (entryFrame m #[(.ref a), (.int p2)] 2)) t := by
      intro t k
      refine k44 t ?_
      show Steps p.tables e below (T38.setTop (mkF m 20 #[.val (.ref a), .val (.int p2)] [(.int kk), (.ref rb_25)])) _
      refine XS.iloadN X38.here hx rfl (hb hby own_d14_20) rfl ?_
      exact k
    obtain ⟨T46, h46, X46, e46, W46, G46, st46⟩ := own_stC X38 hx hZ e38 f42 (j := kk) hkk (by omega) (g := (mkF m 21 #[.val (.ref a), .val (.int p2)] [(.int p2), (.int kk), (.ref rb_25)])) rfl rfl (hb hby own_d14_21)
    have f47 := f39.wr W46
    have f48 := f40.other W46 (Or.inl ne26)
    have f49 := f43.other W46 (Or.inl ne26)
    have f50 := f41.other W46 ne27
    have N46 := Fr.snoc X46 N38 ge25_b
    have K46 : Keep h0 h46 [a, bb] := K38.wr W46 (Or.inr bo25_b)
    have Z46 : n0 ≤ h46.size := Nat.le_trans Z38 (Keep.of_wr W46).1
    have k51 : ∀ t, Steps p.tables e below (T46.setTop (mkF m 22 #[.val (.ref a), .val (.int p2)] [])) t → Steps p.tables e below (s₁.setTop (entryFrame m #[(.ref a), (.int p2)] 2)) t := fun t k => k45 t (st46 t k)
    have k52 : ∀ t, Steps p.tables e below (T46.setTop (mkF m 23 #[.val (.ref a), .val (.int p2)] [(.ref a)])) t → Steps p.tables e below (s₁.setTop (entryFrame m #[(.ref a), (.int p2)] 2)) t := by
      intro t k
      refine k51 t ?_
      show Steps p.tables e below (T46.setTop (mkF m 22 #[.val (.ref a), .val (.int p2)] [])) _
      refine XS.aloadN X46.here hx rfl (hb hby own_d14_22) rfl rfl ?_
      exact k
    obtain ⟨fs, hr, hrun, hended, hW, hsame⟩ := X46.leave (v := (some (.ref a))) (fun h => by rw [Bd.returns] at h; cases h)
    refine ⟨_, _, k52 _ ?_, hrun, hended, _, _, rfl, ?_, ⟨_, rfl⟩, hW, hsame.mono (by decide) (by decide)⟩
    · exact retOut X46 hx Bd.returns rfl (Or.inr (Or.inr (Or.inr (Or.inr ⟨rfl, rfl, rfl⟩)))) (hb hby own_d14_23) hr
    · show own_Qap Z a p2 bb kk zz bf k_ h0 n0 _ T46.heap _
      rw [e46]
      exact ⟨rb_25, (max (k_ + 1) (2 * zz)), (own_upd (own_cpy bf own_zero zz) k_ (nar .char p2)), rfl, N46, K46, f48, f49, G46, (Or.inr bo25_b), (by omega), ⟨fun i hi => (own_upd1 hi).trans (own_cpy1 (by omega)), own_upd2⟩⟩
theorem own_d3_0 : decode prog_20_method_4_code 0 = .ok (.aload_n 0, 1) := by decide +kernel
theorem own_d3_1 : decode prog_20_method_4_code 1 = .ok (.iload_n 1, 1) := by decide +kernel
theorem own_d3_2 : decode prog_20_method_4_code 2 = .ok (.putfield 13, 3) := by decide +kernel
theorem own_d3_5 : decode prog_20_method_4_code 5 = .ok (.return_, 1) := by decide +kernel
theorem own_efsl (m : MethodId) (x0 : Addr) (x1 : Int32) : entryFrame m #[(.ref x0), (.int x1)] 2 = mkF m 0 #[.val (.ref x0), .val (.int x1)] [] := by first | (simp [entryFrame, mkF, argsToLocals, Value.category]; done) | rfl
def own_Qsl (Z : State) (a : Addr) (p2 : Int32) (bb : Addr) (kk : Int32) (h0 : Heap) (n0 : Nat) (v : Option Value) (h : Heap) (L : List Loc) : Prop := v = none ∧ Fr n0 L ∧ Keep h0 h [a] ∧ Fld Z h a "com/example/cureline/cureline/io/TextBuffer" "chars" "[C" (.ref bb) ∧ Fld Z h a "com/example/cureline/cureline/io/TextBuffer" "length" "I" (.int p2)
def own_Rsl : Room := { frames := 0, cells := 0, slots := 0, locals := 0 }
set_option maxRecDepth 65536 in
set_option maxHeartbeats 40000000 in
theorem own_rmsl (l : Launch) (Z : State) (a0 : Array Value) (hw : ∀ d ∈ tables_1, d.before a0 Z = true) (ws : List Jvm.Cond) (a : Addr) (p2 : Int32) (bb : Addr) (kk : Int32) (h0 : Heap) (n0 : Nat) (Z0 : n0 ≤ h0.size) (P0 : Exa Z h0 a "com/example/cureline/cureline/io/TextBuffer") (P1 : Fld Z h0 a "com/example/cureline/cureline/io/TextBuffer" "chars" "[C" (.ref bb)) (P2 : Fld Z h0 a "com/example/cureline/cureline/io/TextBuffer" "length" "I" (.int kk)) (ge_a : n0 ≤ a) :
    MetFree l (⟨"com/example/cureline/cureline/io/TextBuffer", "setLength", "(I)V"⟩ : MethodName) (head1 (Jvm.Cond.code (⟨"com/example/cureline/cureline/io/TextBuffer", "setLength", "(I)V"⟩ : MethodName) prog_20_method_4_code 2 none :: ws) own_Rsl) (fun aa U => aa = #[(.ref a), (.int p2)] ∧ Z.Warmed39 U.vm ∧ U.heap = h0) (fun _ _ _ _ _ => True) (fun _ U o U' => ∃ v L, o = .returned v ∧ own_Qsl Z a p2 bb kk h0 n0 v U'.heap L ∧ FrameEnd U o U' L own_Rsl.cells own_Rsl.slots) := by
  refine MetFree.of_bodySF (plainFor_of_name own_pn4) hisR ?_
  intro p e s m args below meth c s₁ Bd hml0 hP hK
  obtain ⟨rfl, hZ, hh⟩ := hP
  have hx := Bd.exec
  have hby := Bd.bytes
  have hml : c.maxLocals = 2 := hml0
  have hown : s.vm.findClass "com/example/cureline/cureline/io/TextBuffer" = some m.cls := findClass_of_methodNamed Bd.named
  have hnm := (name_of_methodNamed Bd.named Bd.method).1
  have X0 : Stand p l e own_Rsl s m #[(.ref a), (.int p2)] below meth c s₁ [] 0 0 := Stand.of_body Bd
  have e0 : s₁.heap = h0 := by rw [← hh, Bd.state]; rfl
  have N0 := Fr.nil n0
  have pre0 : ∀ t, Steps p.tables e below (s₁.setTop (mkF m 0 #[.val (.ref a), .val (.int p2)] [])) t → Steps p.tables e below (s₁.setTop (entryFrame m #[(.ref a), (.int p2)] 2)) t := fun t k => castTop (own_efsl m a p2) k
  have k1 : ∀ t, Steps p.tables e below (s₁.setTop (mkF m 2 #[.val (.ref a), .val (.int p2)] [(.int p2), (.ref a)])) t → Steps p.tables e below (s₁.setTop (entryFrame m #[(.ref a), (.int p2)] 2)) t := by
    intro t k
    refine pre0 t ?_
    show Steps p.tables e below (s₁.setTop (mkF m 0 #[.val (.ref a), .val (.int p2)] [])) _
    refine XS.aloadN X0.here hx rfl (hb hby own_d3_0) rfl rfl ?_
    show Steps p.tables e below (s₁.setTop (mkF m 1 #[.val (.ref a), .val (.int p2)] [(.ref a)])) _
    refine XS.iloadN X0.here hx rfl (hb hby own_d3_1) rfl ?_
    exact k
  obtain ⟨T2, h2, X2, e2, W2, st2⟩ := putF X0 hx hZ hown (host := "") (Or.inl (hw _ (List.mem_of_getElem? (i := 17) rfl))) Via.refl e0 P2 P0 (Or.inl (hw _ (List.mem_of_getElem? (i := 18) rfl))) (hw _ (List.mem_of_getElem? (i := 2) rfl)) (ty := .int) (by decide) rfl rfl (g := (mkF m 2 #[.val (.ref a), .val (.int p2)] [(.int p2), (.ref a)])) rfl rfl (hb hby own_d3_2)
  have f3 := P0.wr W2
  have f4 := P1.other W2 (Or.inr (slot_ne (Or.inl (hw _ (List.mem_of_getElem? (i := 11) rfl))) (Or.inl (hw _ (List.mem_of_getElem? (i := 18) rfl))) (by decide) (t := (.array .char)) (t' := .int) (by decide) (by decide)))
  have f5 := P2.same W2
  have N2 := Fr.snoc X2 N0 ge_a
  have K2 : Keep h0 h2 [a] := (Keep.refl h0 [a]).wr W2 (Or.inl (List.mem_of_getElem? (i := 0) rfl))
  have Z2 : n0 ≤ h2.size := Nat.le_trans Z0 (Keep.of_wr W2).1
  have k6 : ∀ t, Steps p.tables e below (T2.setTop (mkF m 5 #[.val (.ref a), .val (.int p2)] [])) t → Steps p.tables e below (s₁.setTop (entryFrame m #[(.ref a), (.int p2)] 2)) t := fun t k => k1 t (st2 t k)
  obtain ⟨fs, hr, hrun, hended, hW, hsame⟩ := X2.leave (v := none) (fun _ => rfl)
  refine ⟨_, _, k6 _ ?_, hrun, hended, _, _, rfl, ?_, ⟨_, rfl⟩, hW, hsame.mono (by decide) (by decide)⟩
  · exact X2.returnOut hx Bd.returns (hb hby own_d3_5) hr
  · show own_Qsl Z a p2 bb kk h0 n0 _ T2.heap _
    rw [e2]
    exact ⟨rfl, N2, K2, f4, f5⟩
theorem own_d12_0 : decode prog_20_method_2_code 0 = .ok (.aload_n 0, 1) := by decide +kernel
theorem own_d12_1 : decode prog_20_method_2_code 1 = .ok (.getfield 13, 3) := by decide +kernel
theorem own_d12_4 : decode prog_20_method_2_code 4 = .ok (.ireturn, 1) := by decide +kernel
theorem own_eftl (m : MethodId) (x0 : Addr) : entryFrame m #[(.ref x0)] 1 = mkF m 0 #[.val (.ref x0)] [] := by first | (simp [entryFrame, mkF, argsToLocals, Value.category]; done) | rfl
def own_Qtl (Z : State) (a : Addr) (kk : Int32) (h0 : Heap) (n0 : Nat) (v : Option Value) (h : Heap) (L : List Loc) : Prop := v = some (.int kk) ∧ Fr n0 L ∧ h = h0
def own_Rtl : Room := { frames := 0, cells := 0, slots := 0, locals := 0 }
set_option maxRecDepth 65536 in
set_option maxHeartbeats 40000000 in
theorem own_rmtl (l : Launch) (Z : State) (a0 : Array Value) (hw : ∀ d ∈ tables_1, d.before a0 Z = true) (ws : List Jvm.Cond) (a : Addr) (kk : Int32) (h0 : Heap) (n0 : Nat) (Z0 : n0 ≤ h0.size) (P0 : Exa Z h0 a "com/example/cureline/cureline/io/TextBuffer") (P1 : Fld Z h0 a "com/example/cureline/cureline/io/TextBuffer" "length" "I" (.int kk)) :
    MetFree l (⟨"com/example/cureline/cureline/io/TextBuffer", "length", "()I"⟩ : MethodName) (head1 (Jvm.Cond.code (⟨"com/example/cureline/cureline/io/TextBuffer", "length", "()I"⟩ : MethodName) prog_20_method_2_code 1 (some .int) :: ws) own_Rtl) (fun aa U => aa = #[(.ref a)] ∧ Z.Warmed39 U.vm ∧ U.heap = h0) (fun _ _ _ _ _ => True) (fun _ U o U' => ∃ v L, o = .returned v ∧ own_Qtl Z a kk h0 n0 v U'.heap L ∧ FrameEnd U o U' L own_Rtl.cells own_Rtl.slots) := by
  refine MetFree.of_bodySF (plainFor_of_name own_pn4) hisR ?_
  intro p e s m args below meth c s₁ Bd hml0 hP hK
  obtain ⟨rfl, hZ, hh⟩ := hP
  have hx := Bd.exec
  have hby := Bd.bytes
  have hml : c.maxLocals = 1 := hml0
  have hown : s.vm.findClass "com/example/cureline/cureline/io/TextBuffer" = some m.cls := findClass_of_methodNamed Bd.named
  have hnm := (name_of_methodNamed Bd.named Bd.method).1
  have X0 : Stand p l e own_Rtl s m #[(.ref a)] below meth c s₁ [] 0 0 := Stand.of_body Bd
  have e0 : s₁.heap = h0 := by rw [← hh, Bd.state]; rfl
  have N0 := Fr.nil n0
  have pre0 : ∀ t, Steps p.tables e below (s₁.setTop (mkF m 0 #[.val (.ref a)] [])) t → Steps p.tables e below (s₁.setTop (entryFrame m #[(.ref a)] 1)) t := fun t k => castTop (own_eftl m a) k
  have k1 : ∀ t, Steps p.tables e below (s₁.setTop (mkF m 1 #[.val (.ref a)] [(.ref a)])) t → Steps p.tables e below (s₁.setTop (entryFrame m #[(.ref a)] 1)) t := by
    intro t k
    refine pre0 t ?_
    show Steps p.tables e below (s₁.setTop (mkF m 0 #[.val (.ref a)] [])) _
    refine XS.aloadN X0.here hx rfl (hb hby own_d12_0) rfl rfl ?_
    exact k
  obtain ⟨T2, X2, e2, st2⟩ := getF X0 hx hZ hown (host := "") (Or.inl (hw _ (List.mem_of_getElem? (i := 17) rfl))) Via.refl e0 P1 (g := (mkF m 1 #[.val (.ref a)] [(.ref a)])) rfl rfl (hb hby own_d12_1)
  have k3 : ∀ t, Steps p.tables e below (T2.setTop (mkF m 4 #[.val (.ref a)] [(.int kk)])) t → Steps p.tables e below (s₁.setTop (entryFrame m #[(.ref a)] 1)) t := fun t k => k1 t (st2 t k)
  obtain ⟨fs, hr, hrun, hended, hW, hsame⟩ := X2.leave (v := (some (.int kk))) (fun h => by rw [Bd.returns] at h; cases h)
  refine ⟨_, _, k3 _ ?_, hrun, hended, _, _, rfl, ?_, ⟨_, rfl⟩, hW, hsame.mono (by decide) (by decide)⟩
  · exact retI X2 hx Bd.returns (hb hby own_d12_4) hr
  · show own_Qtl Z a kk h0 n0 _ T2.heap _
    exact ⟨rfl, N0, e2⟩
theorem own_d4_0 : decode prog_20_method_9_code 0 = .ok (.new 22, 3) := by decide +kernel
theorem own_d4_3 : decode prog_20_method_9_code 3 = .ok (.dup, 1) := by decide +kernel
theorem own_d4_4 : decode prog_20_method_9_code 4 = .ok (.aload_n 0, 1) := by decide +kernel
theorem own_d4_5 : decode prog_20_method_9_code 5 = .ok (.getfield 7, 3) := by decide +kernel
theorem own_d4_8 : decode prog_20_method_9_code 8 = .ok (.iload_n 1, 1) := by decide +kernel
theorem own_d4_9 : decode prog_20_method_9_code 9 = .ok (.aload_n 0, 1) := by decide +kernel
theorem own_d4_10 : decode prog_20_method_9_code 10 = .ok (.getfield 13, 3) := by decide +kernel
theorem own_d4_13 : decode prog_20_method_9_code 13 = .ok (.iload_n 1, 1) := by decide +kernel
theorem own_d4_14 : decode prog_20_method_9_code 14 = .ok (.isub, 1) := by decide +kernel
theorem own_d4_15 : decode prog_20_method_9_code 15 = .ok (.invokespecial 59, 3) := by decide +kernel
theorem own_d4_18 : decode prog_20_method_9_code 18 = .ok (.areturn, 1) := by decide +kernel
theorem own_pd20 : parseMethodDescriptor "([CII)V" = some ⟨[(.array .char), .int, .int], none⟩ := by decide +kernel
theorem own_efsb (m : MethodId) (x0 : Addr) (x1 : Int32) : entryFrame m #[(.ref x0), (.int x1)] 2 = mkF m 0 #[.val (.ref x0), .val (.int x1)] [] := by first | (simp [entryFrame, mkF, argsToLocals, Value.category]; done) | rfl
def own_Qsb (Z : State) (a : Addr) (p1 : Int32) (bb : Addr) (kk : Int32) (zz : Nat) (bf : Nat → Int32) (k_ : Nat) (o_ : Nat) (cs : Int32) (fm : Value) (h0 : Heap) (n0 : Nat) (v : Option Value) (h : Heap) (L : List Loc) : Prop := ∃ (s_ : Addr), v = some (.ref s_) ∧ Fr n0 L ∧ Keep h0 h [] ∧ h0.size ≤ s_ ∧ Exa Z h s_ "java/lang/String" ∧ own_Str Z h s_ (k_ - o_) o_ bf
def own_Rsb : Room := { frames := 6, cells := 3, slots := 16, locals := 90 }
set_option maxRecDepth 65536 in
set_option maxHeartbeats 40000000 in
theorem own_rmsb (l : Launch) (Z : State) (a0 : Array Value) (hw : ∀ d ∈ tables_1, d.before a0 Z = true) (ws : List Jvm.Cond) (a : Addr) (p1 : Int32) (bb : Addr) (kk : Int32) (zz : Nat) (bf : Nat → Int32) (k_ : Nat) (o_ : Nat) (cs : Int32) (fm : Value) (h0 : Heap) (n0 : Nat) (Z0 : n0 ≤ h0.size) (P0 : Exa Z h0 a "com/example/cureline/cureline/io/TextBuffer") (P1 : Fld Z h0 a "com/example/cureline/cureline/io/TextBuffer" "chars" "[C" (.ref bb)) (P2 : Fld Z h0 a "com/example/cureline/cureline/io/TextBuffer" "length" "I" (.int kk)) (P3 : own_G Z h0 bb .char zz bf) (Xo : Old Z n0 h0) (hkk : kk.toInt = (k_ : Int)) (hp1 : p1.toInt = (o_ : Int)) (SC : Sta Z Z.heap "java/lang/String" "COMPACT_STRINGS" "Z" (.int cs)) (SA : Sta Z Z.heap "java/lang/StringUTF16" "$assertionsDisabled" "Z" (.int (1 : Int32))) (SH : Sta Z Z.heap "java/lang/StringUTF16" "HI_BYTE_SHIFT" "I" (.int (0 : Int32))) (SL : Sta Z Z.heap "java/lang/StringUTF16" "LO_BYTE_SHIFT" "I" (.int (8 : Int32))) (SF : Sta Z Z.heap "jdk/internal/util/Preconditions" "SIOOBE_FORMATTER" "Ljava/util/function/BiFunction;" fm) (hcs : ¬ (cs = (0 : Int32))) (hfm : fm.isRef = true) (hk : k_ ≤ zz) (hz : zz ≤ 8) (ho : o_ < k_) (hk4 : k_ ≤ 4) (hch : ∀ i, i < k_ - o_ → own_ch (bf (o_ + i))) :
    MetFree l (⟨"com/example/cureline/cureline/io/TextBuffer", "substring", "(I)Ljava/lang/String;"⟩ : MethodName) (head1 (Jvm.Cond.code (⟨"com/example/cureline/cureline/io/TextBuffer", "substring", "(I)Ljava/lang/String;"⟩ : MethodName) prog_20_method_9_code 2 (some (.object "java/lang/String")) :: ws) own_Rsb) (fun aa U => aa = #[(.ref a), (.int p1)] ∧ Z.Warmed39 U.vm ∧ U.heap = h0) (fun _ _ _ _ _ => True) (fun _ U o U' => ∃ v L, o = .returned v ∧ own_Qsb Z a p1 bb kk zz bf k_ o_ cs fm h0 n0 v U'.heap L ∧ FrameEnd U o U' L own_Rsb.cells own_Rsb.slots) := by
  refine MetFree.of_bodySF (plainFor_of_name own_pn4) hisR ?_
  intro p e s m args below meth c s₁ Bd hml0 hP hK
  obtain ⟨rfl, hZ, hh⟩ := hP
  have hx := Bd.exec
  have hby := Bd.bytes
  have hml : c.maxLocals = 2 := hml0
  have hown : s.vm.findClass "com/example/cureline/cureline/io/TextBuffer" = some m.cls := findClass_of_methodNamed Bd.named
  have hnm := (name_of_methodNamed Bd.named Bd.method).1
  have X0 : Stand p l e own_Rsb s m #[(.ref a), (.int p1)] below meth c s₁ [] 0 0 := Stand.of_body Bd
  have e0 : s₁.heap = h0 := by rw [← hh, Bd.state]; rfl
  have N0 := Fr.nil n0
  have pre0 : ∀ t, Steps p.tables e below (s₁.setTop (mkF m 0 #[.val (.ref a), .val (.int p1)] [])) t → Steps p.tables e below (s₁.setTop (entryFrame m #[(.ref a), (.int p1)] 2)) t := fun t k => castTop (own_efsb m a p1) k
  obtain ⟨T1, h1, X1, e1, E1, A1, D1, -, st1⟩ := newO X0 hx hZ hown (hw _ (List.mem_of_getElem? (i := 24) rfl)) (hw _ (List.mem_of_getElem? (i := 25) rfl)) (hw _ (List.mem_of_getElem? (i := 26) rfl)) e0 (g := (mkF m 0 #[.val (.ref a), .val (.int p1)] [])) rfl (hb hby own_d4_0) (by decide) (by decide)
  obtain ⟨b1, g1⟩ : ∃ z, z = h0.size := ⟨_, rfl⟩
  rw [← g1] at A1 D1 st1
  have ge1 : n0 ≤ b1 := Nat.le_trans Z0 (Nat.le_of_eq g1.symm)
  have bo1 : h0.size ≤ b1 := Nat.le_trans (Keep.refl h0 []).1 (Nat.le_of_eq g1.symm)
  have ne2 : a ≠ b1 := Nat.ne_of_lt (Nat.lt_of_lt_of_le P0.lt (Nat.le_of_eq g1.symm))
  have ne3 : bb ≠ b1 := Nat.ne_of_lt (Nat.lt_of_lt_of_le P3.lt (Nat.le_of_eq g1.symm))
  have Z1 : n0 ≤ h1.size := Nat.le_trans Z0 E1.1
  have K1 : Keep h0 h1 [] := (Keep.refl h0 []).ext E1
  have Xo1 := Xo.ext E1
  have f4 := P0.ext E1
  have f5 := P1.ext E1
  have f6 := P2.ext E1
  have f7 := P3.ext E1
  have f8 : Fld Z h1 b1 "java/lang/String" "value" "[B" .null := D1 (Or.inr (hw _ (List.mem_of_getElem? (i := 48) rfl))) (ty := (.array .byte)) (by decide)
  have f9 : Fld Z h1 b1 "java/lang/String" "coder" "B" (.int (0 : Int32)) := D1 (Or.inr (hw _ (List.mem_of_getElem? (i := 49) rfl))) (ty := .byte) (by decide)
  have k10 : ∀ t, Steps p.tables e below (T1.setTop (mkF m 3 #[.val (.ref a), .val (.int p1)] [(.ref b1)])) t → Steps p.tables e below (s₁.setTop (entryFrame m #[(.ref a), (.int p1)] 2)) t := fun t k => pre0 t (st1 t k)
  have k11 : ∀ t, Steps p.tables e below (T1.setTop (mkF m 5 #[.val (.ref a), .val (.int p1)] [(.ref a), (.ref b1), (.ref b1)])) t → Steps p.tables e below (s₁.setTop (entryFrame m #[(.ref a), (.int p1)] 2)) t := by
    intro t k
    refine k10 t ?_
    show Steps p.tables e below (T1.setTop (mkF m 3 #[.val (.ref a), .val (.int p1)] [(.ref b1)])) _
    refine XS.dup X1.here hx rfl (hb hby own_d4_3) rfl rfl ?_
    show Steps p.tables e below (T1.setTop (mkF m 4 #[.val (.ref a), .val (.int p1)] [(.ref b1), (.ref b1)])) _
    refine XS.aloadN X1.here hx rfl (hb hby own_d4_4) rfl rfl ?_
    exact k
  obtain ⟨T12, X12, e12, st12⟩ := getF X1 hx hZ hown (host := "") (Or.inl (hw _ (List.mem_of_getElem? (i := 10) rfl))) Via.refl e1 f5 (g := (mkF m 5 #[.val (.ref a), .val (.int p1)] [(.ref a), (.ref b1), (.ref b1)])) rfl rfl (hb hby own_d4_5)
  have k13 : ∀ t, Steps p.tables e below (T12.setTop (mkF m 8 #[.val (.ref a), .val (.int p1)] [(.ref bb), (.ref b1), (.ref b1)])) t → Steps p.tables e below (s₁.setTop (entryFrame m #[(.ref a), (.int p1)] 2)) t := fun t k => k11 t (st12 t k)
  have k14 : ∀ t, Steps p.tables e below (T12.setTop (mkF m 10 #[.val (.ref a), .val (.int p1)] [(.ref a), (.int p1), (.ref bb), (.ref b1), (.ref b1)])) t → Steps p.tables e below (s₁.setTop (entryFrame m #[(.ref a), (.int p1)] 2)) t := by
    intro t k
    refine k13 t ?_
    show Steps p.tables e below (T12.setTop (mkF m 8 #[.val (.ref a), .val (.int p1)] [(.ref bb), (.ref b1), (.ref b1)])) _
    refine XS.iloadN X12.here hx rfl (hb hby own_d4_8) rfl ?_
    show Steps p.tables e below (T12.setTop (mkF m 9 #[.val (.ref a), .val (.int p1)] [(.int p1), (.ref bb), (.ref b1), (.ref b1)])) _
    refine XS.aloadN X12.here hx rfl (hb hby own_d4_9) rfl rfl ?_
    exact k
  obtain ⟨T15, X15, e15, st15⟩ := getF X12 hx hZ hown (host := "") (Or.inl (hw _ (List.mem_of_getElem? (i := 17) rfl))) Via.refl e12 f6 (g := (mkF m 10 #[.val (.ref a), .val (.int p1)] [(.ref a), (.int p1), (.ref bb), (.ref b1), (.ref b1)])) rfl rfl (hb hby own_d4_10)
  have k16 : ∀ t, Steps p.tables e below (T15.setTop (mkF m 13 #[.val (.ref a), .val (.int p1)] [(.int kk), (.int p1), (.ref bb), (.ref b1), (.ref b1)])) t → Steps p.tables e below (s₁.setTop (entryFrame m #[(.ref a), (.int p1)] 2)) t := fun t k => k14 t (st15 t k)
  have k17 : ∀ t, Steps p.tables e below (T15.setTop (mkF m 15 #[.val (.ref a), .val (.int p1)] [(.int (kk - p1)), (.int p1), (.ref bb), (.ref b1), (.ref b1)])) t → Steps p.tables e below (s₁.setTop (entryFrame m #[(.ref a), (.int p1)] 2)) t := by
    intro t k
    refine k16 t ?_
    show Steps p.tables e below (T15.setTop (mkF m 13 #[.val (.ref a), .val (.int p1)] [(.int kk), (.int p1), (.ref bb), (.ref b1), (.ref b1)])) _
    refine XS.iloadN X15.here hx rfl (hb hby own_d4_13) rfl ?_
    show Steps p.tables e below (T15.setTop (mkF m 14 #[.val (.ref a), .val (.int p1)] [(.int p1), (.int kk), (.int p1), (.ref bb), (.ref b1), (.ref b1)])) _
    refine XS.isub X15.here hx rfl (hb hby own_d4_14) rfl ?_
    exact k
  obtain ⟨_, _, ⟨T18, L18, k18c, n18⟩, -, X18, ⟨Lc18, hQ18, l18, y18, z18⟩, st18⟩ := X15.specialBack hx (y := (⟨"java/lang/String", "<init>", "([CII)V"⟩ : MethodName)) rfl hown (mvT hZ (hw _ (List.mem_of_getElem? (i := 27) rfl))) (mvT hZ (hw _ (List.mem_of_getElem? (i := 28) rfl))) (mvT hZ (hw _ (List.mem_of_getElem? (i := 29) rfl))) (by decide) (backOf (W := 1) (own_rms3 l Z a0 hw [] b1 bb p1 (kk - p1) .null (.int (0 : Int32)) zz bf o_ (k_ - o_) cs fm h1 n0 Z1 A1 f8 f9 f7 ge1 ne3 Xo1 hp1 (own_subn hkk hp1 (by omega)) SC SA SH SL SF hcs hfm (by omega) (by omega) (by omega) (by omega) hch) hZ (hw _ (List.mem_of_getElem? (i := 29) rfl)) (hw _ (List.mem_of_getElem? (i := 26) rfl)) (by decide) (by decide)) (g := (mkF m 15 #[.val (.ref a), .val (.int p1)] [(.int (kk - p1)), (.int p1), (.ref bb), (.ref b1), (.ref b1)])) rfl (by rw [hml]; rfl) (Steps.refl _) (a := b1) (argsL := [(.ref bb), (.int p1), (.int (kk - p1))]) (rest := [(.ref b1)]) (lenOf own_pd20 rfl) rfl (by show 2 * 0 + _ ≤ _; exact Nat.le_of_eq rfl) (hb hby own_d4_15) (fun _ _ => ⟨rfl, e15, (by decide : 1 + 2 ≤ _), (by decide : 4 + 12 ≤ _)⟩)
  dsimp only [Pt.U, Pt.locs, Pt.cells, Pt.slots] at X18 l18 y18 z18 st18 hQ18
  subst l18 y18 z18
  obtain ⟨rfl, N18q, Kq18, fq18_0⟩ := hQ18
  have N18 := Fr.app N0 N18q
  have f19 := f4.keep Kq18
  have f20 := f5.keep Kq18 (List.not_mem_cons_of_ne_of_not_mem ne2 List.not_mem_nil)
  have f21 := f6.keep Kq18 (List.not_mem_cons_of_ne_of_not_mem ne2 List.not_mem_nil)
  have f22 := f7.keep Kq18 (List.not_mem_cons_of_ne_of_not_mem ne3 List.not_mem_nil)
  have f23 := A1.keep Kq18
  have Z18 : n0 ≤ T18.heap.size := Nat.le_trans Z1 Kq18.1
  have K18 : Keep h0 T18.heap [] := K1.trans Kq18 (fun x hx => by rcases List.mem_cons.mp hx with rfl | hx; exact Or.inr bo1; exact nomatch hx)
  have Xo18 := Xo1.keep Kq18 (allS ge1 all0)
  have k24 : ∀ t, Steps p.tables e below (T18.setTop (mkF m 18 #[.val (.ref a), .val (.int p1)] [(.ref b1)])) t → Steps p.tables e below (s₁.setTop (entryFrame m #[(.ref a), (.int p1)] 2)) t := fun t k => k17 t (st18.trans k)
  obtain ⟨fs, hr, hrun, hended, hW, hsame⟩ := X18.leave (v := (some (.ref b1))) (fun h => by rw [Bd.returns] at h; cases h)
  refine ⟨_, _, k24 _ ?_, hrun, hended, _, _, rfl, ?_, ⟨_, rfl⟩, hW, hsame.mono (by decide) (by decide)⟩
  · exact retOut X18 hx Bd.returns rfl (Or.inr (Or.inr (Or.inr (Or.inr ⟨rfl, rfl, rfl⟩)))) (hb hby own_d4_18) hr
  · show own_Qsb Z a p1 bb kk zz bf k_ o_ cs fm h0 n0 _ T18.heap _
    exact ⟨b1, rfl, N18, K18, bo1, f23, fq18_0⟩
theorem own_efsbw (m : MethodId) (x0 : Addr) (x1 : Int32) : entryFrame m #[(.ref x0), (.int x1)] 2 = mkF m 0 #[.val (.ref x0), .val (.int x1)] [] := by first | (simp [entryFrame, mkF, argsToLocals, Value.category]; done) | rfl
def own_Qsbw (Z : State) (a : Addr) (p1 : Int32) (bb : Addr) (kk : Int32) (zz : Nat) (bf : Nat → Int32) (k_ : Nat) (fm : Value) (h0 : Heap) (n0 : Nat) (v : Option Value) (h : Heap) (L : List Loc) : Prop := ∃ (s_ : Addr), v = some (.ref s_) ∧ Fr n0 L ∧ Keep h0 h [] ∧ h0.size ≤ s_ ∧ Exa Z h s_ "java/lang/String" ∧ own_Str Z h s_ 0 k_ bf
def own_Rsbw : Room := { frames := 4, cells := 3, slots := 8, locals := 63 }
set_option maxRecDepth 65536 in
set_option maxHeartbeats 40000000 in
theorem own_rmsbw (l : Launch) (Z : State) (a0 : Array Value) (hw : ∀ d ∈ tables_1, d.before a0 Z = true) (ws : List Jvm.Cond) (a : Addr) (p1 : Int32) (bb : Addr) (kk : Int32) (zz : Nat) (bf : Nat → Int32) (k_ : Nat) (fm : Value) (h0 : Heap) (n0 : Nat) (Z0 : n0 ≤ h0.size) (P0 : Exa Z h0 a "com/example/cureline/cureline/io/TextBuffer") (P1 : Fld Z h0 a "com/example/cureline/cureline/io/TextBuffer" "chars" "[C" (.ref bb)) (P2 : Fld Z h0 a "com/example/cureline/cureline/io/TextBuffer" "length" "I" (.int kk)) (P3 : own_G Z h0 bb .char zz bf) (Xo : Old Z n0 h0) (hkk : kk.toInt = (k_ : Int)) (hp1 : p1.toInt = (k_ : Int)) (SF : Sta Z Z.heap "jdk/internal/util/Preconditions" "SIOOBE_FORMATTER" "Ljava/util/function/BiFunction;" fm) (hfm : fm.isRef = true) (hk : k_ ≤ zz) (hz : zz ≤ 8) :
    MetFree l (⟨"com/example/cureline/cureline/io/TextBuffer", "substring", "(I)Ljava/lang/String;"⟩ : MethodName) (head1 (Jvm.Cond.code (⟨"com/example/cureline/cureline/io/TextBuffer", "substring", "(I)Ljava/lang/String;"⟩ : MethodName) prog_20_method_9_code 2 (some (.object "java/lang/String")) :: ws) own_Rsbw) (fun aa U => aa = #[(.ref a), (.int p1)] ∧ Z.Warmed39 U.vm ∧ U.heap = h0 ∧ CHv Z own_EL U.vm h0) (fun _ _ _ _ _ => True) (fun _ U o U' => ∃ v L, o = .returned v ∧ own_Qsbw Z a p1 bb kk zz bf k_ fm h0 n0 v U'.heap L ∧ ReturnedEndW U o U' L own_Rsbw.cells own_Rsbw.slots) := by
  refine MetFree.of_bodySF (plainFor_of_name own_pn4) hisR ?_
  intro p e s m args below meth c s₁ Bd hml0 hP hK
  obtain ⟨rfl, hZ, hh, hH0⟩ := hP
  have hx := Bd.exec
  have hby := Bd.bytes
  have hml : c.maxLocals = 2 := hml0
  have hown : s.vm.findClass "com/example/cureline/cureline/io/TextBuffer" = some m.cls := findClass_of_methodNamed Bd.named
  have hnm := (name_of_methodNamed Bd.named Bd.method).1
  have X0 : Stand p l e own_Rsbw s m #[(.ref a), (.int p1)] below meth c s₁ [] 0 0 := Stand.of_body Bd
  have e0 : s₁.heap = h0 := by rw [← hh, Bd.state]; rfl
  have N0 := Fr.nil n0
  have pre0 : ∀ t, Steps p.tables e below (s₁.setTop (mkF m 0 #[.val (.ref a), .val (.int p1)] [])) t → Steps p.tables e below (s₁.setTop (entryFrame m #[(.ref a), (.int p1)] 2)) t := fun t k => castTop (own_efsbw m a p1) k
  obtain ⟨T1, h1, X1, e1, E1, A1, D1, -, st1⟩ := newO X0 hx hZ hown (hw _ (List.mem_of_getElem? (i := 24) rfl)) (hw _ (List.mem_of_getElem? (i := 25) rfl)) (hw _ (List.mem_of_getElem? (i := 26) rfl)) e0 (g := (mkF m 0 #[.val (.ref a), .val (.int p1)] [])) rfl (hb hby own_d4_0) (by decide) (by decide)
  obtain ⟨b1, g1⟩ : ∃ z, z = h0.size := ⟨_, rfl⟩
  rw [← g1] at A1 D1 st1
  have ge1 : n0 ≤ b1 := Nat.le_trans Z0 (Nat.le_of_eq g1.symm)
  have bo1 : h0.size ≤ b1 := Nat.le_trans (Keep.refl h0 []).1 (Nat.le_of_eq g1.symm)
  have ne2 : a ≠ b1 := Nat.ne_of_lt (Nat.lt_of_lt_of_le P0.lt (Nat.le_of_eq g1.symm))
  have ne3 : bb ≠ b1 := Nat.ne_of_lt (Nat.lt_of_lt_of_le P3.lt (Nat.le_of_eq g1.symm))
  have Z1 : n0 ≤ h1.size := Nat.le_trans Z0 E1.1
  have K1 : Keep h0 h1 [] := (Keep.refl h0 []).ext E1
  have Xo1 := Xo.ext E1
  have f4 := P0.ext E1
  have f5 := P1.ext E1
  have f6 := P2.ext E1
  have f7 := P3.ext E1
  have f8 : Fld Z h1 b1 "java/lang/String" "value" "[B" .null := D1 (Or.inr (hw _ (List.mem_of_getElem? (i := 48) rfl))) (ty := (.array .byte)) (by decide)
  have f9 : Fld Z h1 b1 "java/lang/String" "coder" "B" (.int (0 : Int32)) := D1 (Or.inr (hw _ (List.mem_of_getElem? (i := 49) rfl))) (ty := .byte) (by decide)
  have k10 : ∀ t, Steps p.tables e below (T1.setTop (mkF m 3 #[.val (.ref a), .val (.int p1)] [(.ref b1)])) t → Steps p.tables e below (s₁.setTop (entryFrame m #[(.ref a), (.int p1)] 2)) t := fun t k => pre0 t (st1 t k)
  have k11 : ∀ t, Steps p.tables e below (T1.setTop (mkF m 5 #[.val (.ref a), .val (.int p1)] [(.ref a), (.ref b1), (.ref b1)])) t → Steps p.tables e below (s₁.setTop (entryFrame m #[(.ref a), (.int p1)] 2)) t := by
    intro t k
    refine k10 t ?_
    show Steps p.tables e below (T1.setTop (mkF m 3 #[.val (.ref a), .val (.int p1)] [(.ref b1)])) _
    refine XS.dup X1.here hx rfl (hb hby own_d4_3) rfl rfl ?_
    show Steps p.tables e below (T1.setTop (mkF m 4 #[.val (.ref a), .val (.int p1)] [(.ref b1), (.ref b1)])) _
    refine XS.aloadN X1.here hx rfl (hb hby own_d4_4) rfl rfl ?_
    exact k
  obtain ⟨T12, X12, e12, st12⟩ := getF X1 hx hZ hown (host := "") (Or.inl (hw _ (List.mem_of_getElem? (i := 10) rfl))) Via.refl e1 f5 (g := (mkF m 5 #[.val (.ref a), .val (.int p1)] [(.ref a), (.ref b1), (.ref b1)])) rfl rfl (hb hby own_d4_5)
  have k13 : ∀ t, Steps p.tables e below (T12.setTop (mkF m 8 #[.val (.ref a), .val (.int p1)] [(.ref bb), (.ref b1), (.ref b1)])) t → Steps p.tables e below (s₁.setTop (entryFrame m #[(.ref a), (.int p1)] 2)) t := fun t k => k11 t (st12 t k)
  have k14 : ∀ t, Steps p.tables e below (T12.setTop (mkF m 10 #[.val (.ref a), .val (.int p1)] [(.ref a), (.int p1), (.ref bb), (.ref b1), (.ref b1)])) t → Steps p.tables e below (s₁.setTop (entryFrame m #[(.ref a), (.int p1)] 2)) t := by
    intro t k
    refine k13 t ?_
    show Steps p.tables e below (T12.setTop (mkF m 8 #[.val (.ref a), .val (.int p1)] [(.ref bb), (.ref b1), (.ref b1)])) _
    refine XS.iloadN X12.here hx rfl (hb hby own_d4_8) rfl ?_
    show Steps p.tables e below (T12.setTop (mkF m 9 #[.val (.ref a), .val (.int p1)] [(.int p1), (.ref bb), (.ref b1), (.ref b1)])) _
    refine XS.aloadN X12.here hx rfl (hb hby own_d4_9) rfl rfl ?_
    exact k
  obtain ⟨T15, X15, e15, st15⟩ := getF X12 hx hZ hown (host := "") (Or.inl (hw _ (List.mem_of_getElem? (i := 17) rfl))) Via.refl e12 f6 (g := (mkF m 10 #[.val (.ref a), .val (.int p1)] [(.ref a), (.int p1), (.ref bb), (.ref b1), (.ref b1)])) rfl rfl (hb hby own_d4_10)
  have k16 : ∀ t, Steps p.tables e below (T15.setTop (mkF m 13 #[.val (.ref a), .val (.int p1)] [(.int kk), (.int p1), (.ref bb), (.ref b1), (.ref b1)])) t → Steps p.tables e below (s₁.setTop (entryFrame m #[(.ref a), (.int p1)] 2)) t := fun t k => k14 t (st15 t k)
  have k17 : ∀ t, Steps p.tables e below (T15.setTop (mkF m 15 #[.val (.ref a), .val (.int p1)] [(.int (kk - p1)), (.int p1), (.ref bb), (.ref b1), (.ref b1)])) t → Steps p.tables e below (s₁.setTop (entryFrame m #[(.ref a), (.int p1)] 2)) t := by
    intro t k
    refine k16 t ?_
    show Steps p.tables e below (T15.setTop (mkF m 13 #[.val (.ref a), .val (.int p1)] [(.int kk), (.int p1), (.ref bb), (.ref b1), (.ref b1)])) _
    refine XS.iloadN X15.here hx rfl (hb hby own_d4_13) rfl ?_
    show Steps p.tables e below (T15.setTop (mkF m 14 #[.val (.ref a), .val (.int p1)] [(.int p1), (.int kk), (.int p1), (.ref bb), (.ref b1), (.ref b1)])) _
    refine XS.isub X15.here hx rfl (hb hby own_d4_14) rfl ?_
    exact k
  obtain ⟨_, T18, L18, X18, Si18, hZ, hown, hQ18, st18⟩ := own_callIW (W := 1) X15 hx hw hZ hown (hH0.keep K1 (fun x hx => nomatch hx)) (hw _ (List.mem_of_getElem? (i := 27) rfl)) (hw _ (List.mem_of_getElem? (i := 28) rfl)) (hw _ (List.mem_of_getElem? (i := 26) rfl)) (hw _ (List.mem_of_getElem? (i := 29) rfl)) rfl (by decide) (own_rms3w l Z a0 hw [] b1 bb p1 (kk - p1) (.int (0 : Int32)) zz bf k_ fm h1 n0 Z1 A1 f8 f9 f7 ge1 ne3 Xo1 hp1 (own_subz hkk hp1) SF hfm (by omega) (by omega)) (by decide) (by decide) e15 (g := (mkF m 15 #[.val (.ref a), .val (.int p1)] [(.int (kk - p1)), (.int p1), (.ref bb), (.ref b1), (.ref b1)])) rfl (by rw [hml]; rfl) own_pd20 (a := b1) (argsL := [(.ref bb), (.int p1), (.int (kk - p1))]) (rest := [(.ref b1)]) rfl rfl rfl (by show 2 * 0 + _ ≤ _; exact Nat.le_of_eq rfl) (hb hby own_d4_15) (by decide) (by decide)
  obtain ⟨rfl, N18q, Kq18, fq18_0⟩ := hQ18
  have N18 := Fr.app N0 N18q
  have f19 := f4.keep Kq18
  have f20 := f5.keep Kq18 (List.not_mem_cons_of_ne_of_not_mem ne2 List.not_mem_nil)
  have f21 := f6.keep Kq18 (List.not_mem_cons_of_ne_of_not_mem ne2 List.not_mem_nil)
  have f22 := f7.keep Kq18 (List.not_mem_cons_of_ne_of_not_mem ne3 List.not_mem_nil)
  have f23 := A1.keep Kq18
  have Z18 : n0 ≤ T18.heap.size := Nat.le_trans Z1 Kq18.1
  have K18 : Keep h0 T18.heap [] := K1.trans Kq18 (fun x hx => by rcases List.mem_cons.mp hx with rfl | hx; exact Or.inr bo1; exact nomatch hx)
  have Xo18 := Xo1.keep Kq18 (allS ge1 all0)
  have k24 : ∀ t, Steps p.tables e below (T18.setTop (mkF m 18 #[.val (.ref a), .val (.int p1)] [(.ref b1)])) t → Steps p.tables e below (s₁.setTop (entryFrame m #[(.ref a), (.int p1)] 2)) t := fun t k => k17 t (st18 t k)
  obtain ⟨fs, hr, hrun, hended, hE⟩ := Stand.leaveW (s := s) X18 Si18 (Nat.le_refl _) (v := (some (.ref b1))) (fun h => by rw [Bd.returns] at h; cases h)
  refine ⟨_, _, k24 _ ?_, hrun, hended, _, _, rfl, ?_, ⟨_, rfl⟩, hE.2.1, hE.2.2.1, hE.2.2.2.mono (by decide) (by decide)⟩
  · exact retOut X18 hx Bd.returns rfl (Or.inr (Or.inr (Or.inr (Or.inr ⟨rfl, rfl, rfl⟩)))) (hb hby own_d4_18) hr
  · show own_Qsbw Z a p1 bb kk zz bf k_ fm h0 n0 _ T18.heap _
    exact ⟨b1, rfl, N18, K18, bo1, f23, fq18_0⟩
theorem own_d13_0 : decode method_3_code 0 = .ok (.iload_n 1, 1) := by decide +kernel
theorem own_d13_1 : decode method_3_code 1 = .ok (.iload 4, 2) := by decide +kernel
theorem own_d13_3 : decode method_3_code 3 = .ok (.if_icmp .ge 16, 3) := by decide +kernel
theorem own_d13_6 : decode method_3_code 6 = .ok (.aload_n 0, 1) := by decide +kernel
theorem own_d13_7 : decode method_3_code 7 = .ok (.iload_n 1, 1) := by decide +kernel
theorem own_d13_8 : decode method_3_code 8 = .ok (.invokevirtual 36, 3) := by decide +kernel
theorem own_d13_11 : decode method_3_code 11 = .ok (.aload_n 2, 1) := by decide +kernel
theorem own_d13_12 : decode method_3_code 12 = .ok (.iload_n 3, 1) := by decide +kernel
theorem own_d13_13 : decode method_3_code 13 = .ok (.iload_n 1, 1) := by decide +kernel
theorem own_d13_14 : decode method_3_code 14 = .ok (.iadd, 1) := by decide +kernel
theorem own_d13_15 : decode method_3_code 15 = .ok (.caload, 1) := by decide +kernel
theorem own_d13_16 : decode method_3_code 16 = .ok (.if_icmp .ne 7, 3) := by decide +kernel
theorem own_d13_19 : decode method_3_code 19 = .ok (.iconst 1, 1) := by decide +kernel
theorem own_d13_20 : decode method_3_code 20 = .ok (.goto 4, 3) := by decide +kernel
theorem own_d13_24 : decode method_3_code 24 = .ok (.ireturn, 1) := by decide +kernel
theorem own_pd21 : parseMethodDescriptor "(I)C" = some ⟨[.int], some .char⟩ := by decide +kernel
theorem own_pn6 : plainName "com/example/cureline/cureline/io/TextBufferSubstringPinLaw" = true := by first | (simp [plainName, overriddenIn]; done) | decide +kernel
theorem own_efat (m : MethodId) (x0 : Addr) (x1 : Int32) (x2 : Addr) (x3 : Int32) (x4 : Int32) : entryFrame m #[(.ref x0), (.int x1), (.ref x2), (.int x3), (.int x4)] 5 = mkF m 0 #[.val (.ref x0), .val (.int x1), .val (.ref x2), .val (.int x3), .val (.int x4)] [] := by first | (simp [entryFrame, mkF, argsToLocals, Value.category]; done) | rfl
def own_Qat (Z : State) (a : Addr) (p2 : Int32) (p3 : Addr) (p4 : Int32) (p5 : Int32) (nn : Nat) (oo : Nat) (cf : Nat → Int32) (zz : Nat) (gf : Nat → Int32) (ii : Nat) (cs : Int32) (fm : Value) (h0 : Heap) (n0 : Nat) (v : Option Value) (h : Heap) (L : List Loc) : Prop := v = some (.int (1 : Int32)) ∧ Fr n0 L ∧ h = h0
def own_Rat : Room := { frames := 5, cells := 0, slots := 0, locals := 66 }
set_option maxRecDepth 65536 in
set_option maxHeartbeats 40000000 in
theorem own_rmat (l : Launch) (Z : State) (a0 : Array Value) (hw : ∀ d ∈ tables_1, d.before a0 Z = true) (ws : List Jvm.Cond) (a : Addr) (p2 : Int32) (p3 : Addr) (p4 : Int32) (p5 : Int32) (nn : Nat) (oo : Nat) (cf : Nat → Int32) (zz : Nat) (gf : Nat → Int32) (ii : Nat) (cs : Int32) (fm : Value) (h0 : Heap) (n0 : Nat) (Z0 : n0 ≤ h0.size) (P0 : Exa Z h0 a "java/lang/String") (P1 : own_Str Z h0 a nn oo cf) (P2 : own_G Z h0 p3 .char zz gf) (Xo : Old Z n0 h0) (hp2 : p2.toInt = (ii : Int)) (hp4 : p4.toInt = (oo : Int)) (hp5 : p5.toInt = (nn : Int)) (SC : Sta Z Z.heap "java/lang/String" "COMPACT_STRINGS" "Z" (.int cs)) (SA : Sta Z Z.heap "java/lang/StringUTF16" "$assertionsDisabled" "Z" (.int (1 : Int32))) (SH : Sta Z Z.heap "java/lang/StringUTF16" "HI_BYTE_SHIFT" "I" (.int (0 : Int32))) (SL : Sta Z Z.heap "java/lang/StringUTF16" "LO_BYTE_SHIFT" "I" (.int (8 : Int32))) (SF : Sta Z Z.heap "jdk/internal/util/Preconditions" "SIOOBE_FORMATTER" "Ljava/util/function/BiFunction;" fm) (hcs : ¬ (cs = (0 : Int32))) (hfm : fm.isRef = true) (hb3 : oo + nn ≤ zz) (hz : zz ≤ 8) (hgf : ∀ i, i < nn → cf (oo + i) = gf (oo + i)) :
    MetFree l (⟨"com/example/cureline/cureline/io/TextBufferSubstringPinLaw", "at", "(Ljava/lang/String;I[CII)Z"⟩ : MethodName) (head1 (Jvm.Cond.code (⟨"com/example/cureline/cureline/io/TextBufferSubstringPinLaw", "at", "(Ljava/lang/String;I[CII)Z"⟩ : MethodName) method_3_code 5 (some .boolean) :: ws) own_Rat) (fun aa U => aa = #[(.ref a), (.int p2), (.ref p3), (.int p4), (.int p5)] ∧ Z.Warmed39 U.vm ∧ U.heap = h0) (fun _ _ _ _ _ => True) (fun _ U o U' => ∃ v L, o = .returned v ∧ own_Qat Z a p2 p3 p4 p5 nn oo cf zz gf ii cs fm h0 n0 v U'.heap L ∧ FrameEnd U o U' L own_Rat.cells own_Rat.slots) := by
  refine MetFree.of_bodySF (plainFor_of_name own_pn6) hisR ?_
  intro p e s m args below meth c s₁ Bd hml0 hP hK
  obtain ⟨rfl, hZ, hh⟩ := hP
  have hx := Bd.exec
  have hby := Bd.bytes
  have hml : c.maxLocals = 5 := hml0
  have hown : s.vm.findClass "com/example/cureline/cureline/io/TextBufferSubstringPinLaw" = some m.cls := findClass_of_methodNamed Bd.named
  have hnm := (name_of_methodNamed Bd.named Bd.method).1
  have X0 : Stand p l e own_Rat s m #[(.ref a), (.int p2), (.ref p3), (.int p4), (.int p5)] below meth c s₁ [] 0 0 := Stand.of_body Bd
  have e0 : s₁.heap = h0 := by rw [← hh, Bd.state]; rfl
  have N0 := Fr.nil n0
  have pre0 : ∀ t, Steps p.tables e below (s₁.setTop (mkF m 0 #[.val (.ref a), .val (.int p2), .val (.ref p3), .val (.int p4), .val (.int p5)] [])) t → Steps p.tables e below (s₁.setTop (entryFrame m #[(.ref a), (.int p2), (.ref p3), (.int p4), (.int p5)] 5)) t := fun t k => castTop (own_efat m a p2 p3 p4 p5) k
  have k1 : ∀ t, Steps p.tables e below (s₁.setTop (mkF m 3 #[.val (.ref a), .val (.int p2), .val (.ref p3), .val (.int p4), .val (.int p5)] [(.int p5), (.int p2)])) t → Steps p.tables e below (s₁.setTop (entryFrame m #[(.ref a), (.int p2), (.ref p3), (.int p4), (.int p5)] 5)) t := by
    intro t k
    refine pre0 t ?_
    show Steps p.tables e below (s₁.setTop (mkF m 0 #[.val (.ref a), .val (.int p2), .val (.ref p3), .val (.int p4), .val (.int p5)] [])) _
    refine XS.iloadN X0.here hx rfl (hb hby own_d13_0) rfl ?_
    show Steps p.tables e below (s₁.setTop (mkF m 1 #[.val (.ref a), .val (.int p2), .val (.ref p3), .val (.int p4), .val (.int p5)] [(.int p2)])) _
    refine XS.iload X0.here hx rfl (hb hby own_d13_1) rfl ?_
    exact k
  by_cases hc3_2 : p2 < p5
  · have k3 : ∀ t, Steps p.tables e below (s₁.setTop (mkF m 6 #[.val (.ref a), .val (.int p2), .val (.ref p3), .val (.int p4), .val (.int p5)] [])) t → Steps p.tables e below (s₁.setTop (entryFrame m #[(.ref a), (.int p2), (.ref p3), (.int p4), (.int p5)] 5)) t := by
      intro t k
      refine k1 t ?_
      show Steps p.tables e below (s₁.setTop (mkF m 3 #[.val (.ref a), .val (.int p2), .val (.ref p3), .val (.int p4), .val (.int p5)] [(.int p5), (.int p2)])) _
      refine XS.icmpNo X0.here hx rfl (hb hby own_d13_3) rfl (tlt hc3_2).2.1 ?_
      exact k
    have hii : ii < nn := own_ltr hp2 hp5 hc3_2
    have k4 : ∀ t, Steps p.tables e below (s₁.setTop (mkF m 8 #[.val (.ref a), .val (.int p2), .val (.ref p3), .val (.int p4), .val (.int p5)] [(.int p2), (.ref a)])) t → Steps p.tables e below (s₁.setTop (entryFrame m #[(.ref a), (.int p2), (.ref p3), (.int p4), (.int p5)] 5)) t := by
      intro t k
      refine k3 t ?_
      show Steps p.tables e below (s₁.setTop (mkF m 6 #[.val (.ref a), .val (.int p2), .val (.ref p3), .val (.int p4), .val (.int p5)] [])) _
      refine XS.aloadN X0.here hx rfl (hb hby own_d13_6) rfl rfl ?_
      show Steps p.tables e below (s₁.setTop (mkF m 7 #[.val (.ref a), .val (.int p2), .val (.ref p3), .val (.int p4), .val (.int p5)] [(.ref a)])) _
      refine XS.iloadN X0.here hx rfl (hb hby own_d13_7) rfl ?_
      exact k
    obtain ⟨cq5, kq5, q5a, q5b, q5c⟩ := isOf hZ e0 P0
    obtain ⟨_, _, ⟨T5, L5, k5c, n5⟩, -, X5, ⟨Lc5, hQ5, l5, y5, z5⟩, st5⟩ := X0.virtualBack hx (y := (⟨"java/lang/String", "charAt", "(I)C"⟩ : MethodName)) (z := (⟨"java/lang/String", "charAt", "(I)C"⟩ : MethodName)) hown (mvT hZ (hw _ (List.mem_of_getElem? (i := 93) rfl))) (mvT hZ (hw _ (List.mem_of_getElem? (i := 94) rfl))) (notFace_of_selects (args := #[]) (mvT hZ (hw _ (List.mem_of_getElem? (i := 96) rfl)))) (mvT hZ (hw _ (List.mem_of_getElem? (i := 96) rfl))) (mvT hZ (hw _ (List.mem_of_getElem? (i := 95) rfl))) (by decide) (backOf (W := 0) (own_rmca l Z a0 hw [] a p2 nn oo cf ii cs fm h0 n0 Z0 P0 P1 Xo hp2 SC SA SH SL SF hcs hfm (by omega)) hZ (hw _ (List.mem_of_getElem? (i := 97) rfl)) (hw _ (List.mem_of_getElem? (i := 26) rfl)) (by decide) (by decide)) q5a q5c (g := (mkF m 8 #[.val (.ref a), .val (.int p2), .val (.ref p3), .val (.int p4), .val (.int p5)] [(.int p2), (.ref a)])) rfl (by rw [hml]; rfl) (Steps.refl _) (argsL := [(.int p2)]) (rest := []) (lenOf own_pd21 rfl) rfl (by show 2 * 0 + _ ≤ _; exact Nat.le_of_eq rfl) (hb hby own_d13_8) (fun _ _ => ⟨rfl, e0, (by decide : 0 + 0 ≤ _), (by decide : 0 + 0 ≤ _)⟩)
    dsimp only [Pt.U, Pt.locs, Pt.cells, Pt.slots] at X5 l5 y5 z5 st5 hQ5
    subst l5 y5 z5
    obtain ⟨rfl, N5q, e5⟩ := hQ5
    have N5 := Fr.app N0 N5q
    have k6 : ∀ t, Steps p.tables e below (T5.setTop (mkF m 11 #[.val (.ref a), .val (.int p2), .val (.ref p3), .val (.int p4), .val (.int p5)] [(.int (cf (oo + ii)))])) t → Steps p.tables e below (s₁.setTop (entryFrame m #[(.ref a), (.int p2), (.ref p3), (.int p4), (.int p5)] 5)) t := fun t k => k4 t (st5.trans k)
    have k7 : ∀ t, Steps p.tables e below (T5.setTop (mkF m 24 #[.val (.ref a), .val (.int p2), .val (.ref p3), .val (.int p4), .val (.int p5)] [(.int (1 : Int32))])) t → Steps p.tables e below (s₁.setTop (entryFrame m #[(.ref a), (.int p2), (.ref p3), (.int p4), (.int p5)] 5)) t := by
      intro t k
      refine k6 t ?_
      show Steps p.tables e below (T5.setTop (mkF m 11 #[.val (.ref a), .val (.int p2), .val (.ref p3), .val (.int p4), .val (.int p5)] [(.int (cf (oo + ii)))])) _
      refine XS.aloadN X5.here hx rfl (hb hby own_d13_11) rfl rfl ?_
      show Steps p.tables e below (T5.setTop (mkF m 12 #[.val (.ref a), .val (.int p2), .val (.ref p3), .val (.int p4), .val (.int p5)] [(.ref p3), (.int (cf (oo + ii)))])) _
      refine XS.iloadN X5.here hx rfl (hb hby own_d13_12) rfl ?_
      show Steps p.tables e below (T5.setTop (mkF m 13 #[.val (.ref a), .val (.int p2), .val (.ref p3), .val (.int p4), .val (.int p5)] [(.int p4), (.ref p3), (.int (cf (oo + ii)))])) _
      refine XS.iloadN X5.here hx rfl (hb hby own_d13_13) rfl ?_
      show Steps p.tables e below (T5.setTop (mkF m 14 #[.val (.ref a), .val (.int p2), .val (.ref p3), .val (.int p4), .val (.int p5)] [(.int p2), (.int p4), (.ref p3), (.int (cf (oo + ii)))])) _
      refine XS.iadd X5.here hx rfl (hb hby own_d13_14) rfl ?_
      show Steps p.tables e below (T5.setTop (mkF m 15 #[.val (.ref a), .val (.int p2), .val (.ref p3), .val (.int p4), .val (.int p5)] [(.int (p4 + p2)), (.ref p3), (.int (cf (oo + ii)))])) _
      refine own_ldC X5 hx hZ e5 P2 (j := (p4 + p2)) (own_addn hp4 hp2 (by omega)) (by omega) (g := (mkF m 15 #[.val (.ref a), .val (.int p2), .val (.ref p3), .val (.int p4), .val (.int p5)] [(.int (p4 + p2)), (.ref p3), (.int (cf (oo + ii)))])) rfl rfl (hb hby own_d13_15) ?_
      show Steps p.tables e below (T5.setTop (mkF m 16 #[.val (.ref a), .val (.int p2), .val (.ref p3), .val (.int p4), .val (.int p5)] [(.int (gf (oo + ii))), (.int (cf (oo + ii)))])) _
      refine XS.icmpNo X5.here hx rfl (hb hby own_d13_16) rfl (teq (hgf ii hii)).2 ?_
      show Steps p.tables e below (T5.setTop (mkF m 19 #[.val (.ref a), .val (.int p2), .val (.ref p3), .val (.int p4), .val (.int p5)] [])) _
      refine XS.iconst X5.here hx rfl (hb hby own_d13_19) ?_
      show Steps p.tables e below (T5.setTop (mkF m 20 #[.val (.ref a), .val (.int p2), .val (.ref p3), .val (.int p4), .val (.int p5)] [(.int (1 : Int32))])) _
      refine XS.goto X5.here hx rfl (pc0 := 20) (pc' := 24) rfl (hb hby own_d13_20) (by decide) (by decide) ?_
      exact k
    obtain ⟨fs, hr, hrun, hended, hW, hsame⟩ := X5.leave (v := (some (.int (1 : Int32)))) (fun h => by rw [Bd.returns] at h; cases h)
    refine ⟨_, _, k7 _ ?_, hrun, hended, _, _, rfl, ?_, ⟨_, rfl⟩, hW, hsame.mono (by decide) (by decide)⟩
    · exact retN X5 hx (t := .boolean) Bd.returns (by simp) (hb hby own_d13_24) hr
    · show own_Qat Z a p2 p3 p4 p5 nn oo cf zz gf ii cs fm h0 n0 _ T5.heap _
      exact ⟨rfl, N5, e5⟩
  · have k8 : ∀ t, Steps p.tables e below (s₁.setTop (mkF m 24 #[.val (.ref a), .val (.int p2), .val (.ref p3), .val (.int p4), .val (.int p5)] [(.int (1 : Int32))])) t → Steps p.tables e below (s₁.setTop (entryFrame m #[(.ref a), (.int p2), (.ref p3), (.int p4), (.int p5)] 5)) t := by
      intro t k
      refine k1 t ?_
      show Steps p.tables e below (s₁.setTop (mkF m 3 #[.val (.ref a), .val (.int p2), .val (.ref p3), .val (.int p4), .val (.int p5)] [(.int p5), (.int p2)])) _
      refine XS.icmpYes X0.here hx rfl (pc0 := 3) (pc' := 19) rfl (hb hby own_d13_3) rfl (flt hc3_2).2.1 (by decide) (by decide) ?_
      show Steps p.tables e below (s₁.setTop (mkF m 19 #[.val (.ref a), .val (.int p2), .val (.ref p3), .val (.int p4), .val (.int p5)] [])) _
      refine XS.iconst X0.here hx rfl (hb hby own_d13_19) ?_
      show Steps p.tables e below (s₁.setTop (mkF m 20 #[.val (.ref a), .val (.int p2), .val (.ref p3), .val (.int p4), .val (.int p5)] [(.int (1 : Int32))])) _
      refine XS.goto X0.here hx rfl (pc0 := 20) (pc' := 24) rfl (hb hby own_d13_20) (by decide) (by decide) ?_
      exact k
    obtain ⟨fs, hr, hrun, hended, hW, hsame⟩ := X0.leave (v := (some (.int (1 : Int32)))) (fun h => by rw [Bd.returns] at h; cases h)
    refine ⟨_, _, k8 _ ?_, hrun, hended, _, _, rfl, ?_, ⟨_, rfl⟩, hW, hsame.mono (by decide) (by decide)⟩
    · exact retN X0 hx (t := .boolean) Bd.returns (by simp) (hb hby own_d13_24) hr
    · show own_Qat Z a p2 p3 p4 p5 nn oo cf zz gf ii cs fm h0 n0 _ s₁.heap _
      exact ⟨rfl, N0, e0⟩
def own_cs (p1 p2 : Int32) : Nat → Int32 := own_of [(nar .char (p1.toUInt32.toUInt16.toUInt32.toInt32)), (nar .char (((p1.toUInt32 >>> ((16 : Int32) &&& 31).toUInt32).toInt32).toUInt32.toUInt16.toUInt32.toInt32)), (nar .char (p2.toUInt32.toUInt16.toUInt32.toInt32)), (nar .char (((p2.toUInt32 >>> ((16 : Int32) &&& 31).toUInt32).toInt32).toUInt32.toUInt16.toUInt32.toInt32))]
def own_cap (p3 : Int32) : Int32 := (p3 &&& (7 : Int32))
def own_n (p3 : Int32) : Int32 := (((p3.toUInt32 >>> ((3 : Int32) &&& 31).toUInt32).toInt32) % (5 : Int32))
def own_m (p3 : Int32) : Int32 := ((((p3.toUInt32 >>> ((6 : Int32) &&& 31).toUInt32).toInt32) &&& (7 : Int32)) % ((own_n p3) + (1 : Int32)))
def own_f (p3 : Int32) : Int32 := ((((p3.toUInt32 >>> ((9 : Int32) &&& 31).toUInt32).toInt32) &&& (7 : Int32)) % ((own_m p3) + (1 : Int32)))
theorem own_capN (p3 : Int32) : ∃ zz : Nat, (own_cap p3).toInt = (zz : Int) ∧ zz ≤ 7 := by
  have h := c_mask p3 7 3 (by decide) (by decide)
  refine ⟨(own_cap p3).toInt.toNat, ?_, ?_⟩ <;> unfold own_cap <;> omega
theorem own_us (p3 q : Int32) (k : Nat) (hk : q.toBitVec.toNat % 32 = k) (h0 : 0 < k) : 0 ≤ ((p3.toUInt32 >>> (q &&& 31).toUInt32).toInt32).toInt := by
  rw [c_iushr p3 q k hk h0]; exact Int.ediv_nonneg (Int.emod_nonneg _ (by decide)) (Int.natCast_nonneg _)
theorem own_nN (p3 : Int32) : ∃ nq : Nat, (own_n p3).toInt = (nq : Int) ∧ nq ≤ 4 := by
  have h := own_us p3 3 3 (by decide) (by decide)
  have h2 := (c_irem ((p3.toUInt32 >>> ((3 : Int32) &&& 31).toUInt32).toInt32) 5 5 (by decide)).1 h
  refine ⟨(own_n p3).toInt.toNat, ?_, ?_⟩ <;> unfold own_n <;> omega
theorem own_nc (p3 : Int32) : own_n p3 = (0 : Int32) ∨ own_n p3 = (1 : Int32) ∨ own_n p3 = (2 : Int32) ∨ own_n p3 = (3 : Int32) ∨ own_n p3 = (4 : Int32) := by
  obtain ⟨z, h1, h2⟩ := own_nN p3
  simp only [← Int32.toInt_inj]
  rw [h1]
  show (z : Int) = 0 ∨ (z : Int) = 1 ∨ (z : Int) = 2 ∨ (z : Int) = 3 ∨ (z : Int) = 4
  omega
theorem own_nz {x : Int32} {k : Nat} (h : x.toInt = (k : Int)) (hk : k < 1073741824) : x + (1 : Int32) ≠ 0 := own_ne0 (own_inc h hk) (by omega)
theorem own_rm {x y : Int32} {k : Nat} (hx : 0 ≤ x.toInt) (h : y.toInt = (k : Int)) (hk : k < 1073741824) : ∃ r : Nat, (x % (y + (1 : Int32))).toInt = (r : Int) ∧ r ≤ k := by
  have h2 := (c_irem x (y + (1 : Int32)) ((k + 1 : Nat) : Int) (own_inc h hk)).1 hx
  have h3 := Int.emod_nonneg x.toInt (b := ((k + 1 : Nat) : Int)) (by omega)
  have h4 := Int.emod_lt_of_pos x.toInt (b := ((k + 1 : Nat) : Int)) (by omega)
  exact ⟨(x.toInt % ((k + 1 : Nat) : Int)).toNat, by rw [h2]; omega, by omega⟩
theorem own_mN (p3 : Int32) {nq : Nat} (h : (own_n p3).toInt = (nq : Int)) : ∃ mm : Nat, (own_m p3).toInt = (mm : Int) ∧ mm ≤ nq := by
  have h1 := c_mask ((p3.toUInt32 >>> ((6 : Int32) &&& 31).toUInt32).toInt32) 7 3 (by decide) (by decide)
  have h2 : nq < 1073741824 := by obtain ⟨z, q1, q2⟩ := own_nN p3; omega
  exact own_rm (by rw [h1]; exact Int.emod_nonneg _ (by decide)) h h2
theorem own_fN (p3 : Int32) {mm : Nat} (h : (own_m p3).toInt = (mm : Int)) : ∃ ff : Nat, (own_f p3).toInt = (ff : Int) ∧ ff ≤ mm := by
  have h1 := c_mask ((p3.toUInt32 >>> ((9 : Int32) &&& 31).toUInt32).toInt32) 7 3 (by decide) (by decide)
  have h2 : mm < 1073741824 := by obtain ⟨z, q1, q2⟩ := own_nN p3; obtain ⟨z2, q3, q4⟩ := own_mN p3 q1; omega
  exact own_rm (by rw [h1]; exact Int.emod_nonneg _ (by decide)) h h2
theorem own_csc (p1 p2 : Int32) (i : Nat) : own_ch (own_cs p1 p2 i) := by
  unfold own_cs own_of
  match i with
  | 0 => exact own_narb _
  | 1 => exact own_narb _
  | 2 => exact own_narb _
  | 3 => exact own_narb _
  | i + 4 => exact (show own_ch (0 : Int32) from ⟨by decide, by decide⟩)
theorem own_csn (p1 p2 : Int32) (i : Nat) : nar .char (own_cs p1 p2 i) = own_cs p1 p2 i := own_nch (own_csc p1 p2 i)
theorem own_app {f g c : Nat → Int32} {k : Nat} (hc : ∀ i, i < k → g i = c i) (hf : (∀ i, i < k → f i = g i) ∧ f k = nar .char (c k)) (hn : nar .char (c k) = c k) : ∀ i, i < k + 1 → f i = c i := by
  intro i hi
  by_cases q : i = k
  · subst q; rw [hf.2, hn]
  · rw [hf.1 i (by omega), hc i (by omega)]

theorem own_pd22 : parseMethodDescriptor "(C)Lcom/example/cureline/cureline/io/TextBuffer;" = some ⟨[.char], some (.object "com/example/cureline/cureline/io/TextBuffer")⟩ := by decide +kernel
theorem own_pd23 : parseMethodDescriptor "(I)Ljava/lang/String;" = some ⟨[.int], some (.object "java/lang/String")⟩ := by decide +kernel
theorem own_pd24 : parseMethodDescriptor "()I" = some ⟨[], some .int⟩ := by decide +kernel
theorem own_pd25 : parseMethodDescriptor "(Ljava/lang/String;I[CII)Z" = some ⟨[(.object "java/lang/String"), .int, (.array .char), .int, .int], some .boolean⟩ := by decide +kernel
theorem own_ef0 (m : MethodId) (x0 : Int32) (x1 : Int32) (x2 : Int32) : entryFrame m #[(.int x0), (.int x1), (.int x2)] maxLocals = mkF m 0 #[.val (.int x0), .val (.int x1), .val (.int x2), .unset, .unset, .unset, .unset, .unset, .unset, .unset, .unset, .unset] [] := by first | (simp [entryFrame, mkF, argsToLocals, Value.category, maxLocals]; done) | rfl
def own_Q0 (Z : State) (p1 : Int32) (p2 : Int32) (p3 : Int32) (cs : Int32) (fm : Value) (h0 : Heap) (n0 : Nat) (v : Option Value) (h : Heap) (L : List Loc) : Prop := v = some (.int (1 : Int32)) ∧ Fr n0 L
set_option maxRecDepth 65536 in
set_option maxHeartbeats 40000000 in
theorem own_rm0 (l : Launch) (Z : State) (a0 : Array Value) (hw : ∀ d ∈ tables_1, d.before a0 Z = true) (ws : List Jvm.Cond) (p1 : Int32) (p2 : Int32) (p3 : Int32) (cs : Int32) (fm : Value) (h0 : Heap) (n0 : Nat) (Z0 : n0 ≤ h0.size) (Xo : Old Z n0 h0) (SC : Sta Z Z.heap "java/lang/String" "COMPACT_STRINGS" "Z" (.int cs)) (SA : Sta Z Z.heap "java/lang/StringUTF16" "$assertionsDisabled" "Z" (.int (1 : Int32))) (SH : Sta Z Z.heap "java/lang/StringUTF16" "HI_BYTE_SHIFT" "I" (.int (0 : Int32))) (SL : Sta Z Z.heap "java/lang/StringUTF16" "LO_BYTE_SHIFT" "I" (.int (8 : Int32))) (SF : Sta Z Z.heap "jdk/internal/util/Preconditions" "SIOOBE_FORMATTER" "Ljava/util/function/BiFunction;" fm) (hcs : ¬ (cs = (0 : Int32))) (hfm : fm.isRef = true) :
    MetFree l x (head1 (Jvm.Cond.code x code maxLocals ret :: ws) room_1) (fun aa U => aa = #[(.int p1), (.int p2), (.int p3)] ∧ Z.Warmed39 U.vm ∧ U.heap = h0 ∧ CHv Z own_EL U.vm h0) (fun _ _ _ _ _ => True) (fun _ U o U' => ∃ v L, o = .returned v ∧ own_Q0 Z p1 p2 p3 cs fm h0 n0 v U'.heap L ∧ ReturnedEndW U o U' L room_1.cells room_1.slots) := by
  refine MetFree.of_bodySF (plainFor_of_name own_pn6) hisR ?_
  intro p e s m args below meth c s₁ Bd hml0 hP hK
  obtain ⟨rfl, hZ, hh, hH0⟩ := hP
  have hx := Bd.exec
  have hby := Bd.bytes
  have hml : c.maxLocals = 12 := hml0
  have hown : s.vm.findClass "com/example/cureline/cureline/io/TextBufferSubstringPinLaw" = some m.cls := findClass_of_methodNamed Bd.named
  have hnm := (name_of_methodNamed Bd.named Bd.method).1
  have X0 : Stand p l e room_1 s m #[(.int p1), (.int p2), (.int p3)] below meth c s₁ [] 0 0 := Stand.of_body Bd
  have e0 : s₁.heap = h0 := by rw [← hh, Bd.state]; rfl
  have N0 := Fr.nil n0
  have pre0 : ∀ t, Steps p.tables e below (s₁.setTop (mkF m 0 #[.val (.int p1), .val (.int p2), .val (.int p3), .unset, .unset, .unset, .unset, .unset, .unset, .unset, .unset, .unset] [])) t → Steps p.tables e below (s₁.setTop (entryFrame m #[(.int p1), (.int p2), (.int p3)] maxLocals)) t := fun t k => castTop (own_ef0 m p1 p2 p3) k
  have k1 : ∀ t, Steps p.tables e below (s₁.setTop (mkF m 1 #[.val (.int p1), .val (.int p2), .val (.int p3), .unset, .unset, .unset, .unset, .unset, .unset, .unset, .unset, .unset] [(.int (4 : Int32))])) t → Steps p.tables e below (s₁.setTop (entryFrame m #[(.int p1), (.int p2), (.int p3)] maxLocals)) t := by
    intro t k
    refine pre0 t ?_
    show Steps p.tables e below (s₁.setTop (mkF m 0 #[.val (.int p1), .val (.int p2), .val (.int p3), .unset, .unset, .unset, .unset, .unset, .unset, .unset, .unset, .unset] [])) _
    refine XS.iconst X0.here hx rfl (hb hby at_0) ?_
    exact k
  obtain ⟨T2, h2, c2, X2, e2, E2, A2, st2⟩ := newP X0 hx hZ (hw _ (List.mem_of_getElem? (i := 0) rfl)) e0 (g := (mkF m 1 #[.val (.int p1), .val (.int p2), .val (.int p3), .unset, .unset, .unset, .unset, .unset, .unset, .unset, .unset, .unset] [(.int (4 : Int32))])) rfl (hb hby at_1) rfl (by decide) (cap := 4) (by decide) (by decide) (by decide) (by decide)
  obtain ⟨b2, g2⟩ : ∃ z, z = h0.size := ⟨_, rfl⟩
  rw [← g2] at A2 st2
  have ge2 : n0 ≤ b2 := Nat.le_trans Z0 (Nat.le_of_eq g2.symm)
  have bo2 : h0.size ≤ b2 := Nat.le_trans (Keep.refl h0 []).1 (Nat.le_of_eq g2.symm)
  have Z2 : n0 ≤ h2.size := Nat.le_trans Z0 E2.1
  have K2 : Keep h0 h2 [] := (Keep.refl h0 []).ext E2
  have Xo2 := Xo.ext E2
  have V2 : Arv Z h2 b2 c2 .char (4 : Int32) [(.int (0 : Int32)), (.int (0 : Int32)), (.int (0 : Int32)), (.int (0 : Int32))] (.int (0 : Int32)) := (Arv.new A2 (by decide)).pad (pad_rep [] (.int (0 : Int32)) 4)
  have k3 : ∀ t, Steps p.tables e below (T2.setTop (mkF m 3 #[.val (.int p1), .val (.int p2), .val (.int p3), .unset, .unset, .unset, .unset, .unset, .unset, .unset, .unset, .unset] [(.ref b2)])) t → Steps p.tables e below (s₁.setTop (entryFrame m #[(.int p1), (.int p2), (.int p3)] maxLocals)) t := fun t k => k1 t (st2 t k)
  have k4 : ∀ t, Steps p.tables e below (T2.setTop (mkF m 8 #[.val (.int p1), .val (.int p2), .val (.int p3), .val (.ref b2), .unset, .unset, .unset, .unset, .unset, .unset, .unset, .unset] [(.int (p1.toUInt32.toUInt16.toUInt32.toInt32)), (.int (0 : Int32)), (.ref b2)])) t → Steps p.tables e below (s₁.setTop (entryFrame m #[(.int p1), (.int p2), (.int p3)] maxLocals)) t := by
    intro t k
    refine k3 t ?_
    show Steps p.tables e below (T2.setTop (mkF m 3 #[.val (.int p1), .val (.int p2), .val (.int p3), .unset, .unset, .unset, .unset, .unset, .unset, .unset, .unset, .unset] [(.ref b2)])) _
    refine XS.astoreN X2.here hx rfl (hb hby at_3) rfl rfl (l' := #[.val (.int p1), .val (.int p2), .val (.int p3), .val (.ref b2), .unset, .unset, .unset, .unset, .unset, .unset, .unset, .unset]) rfl ?_
    show Steps p.tables e below (T2.setTop (mkF m 4 #[.val (.int p1), .val (.int p2), .val (.int p3), .val (.ref b2), .unset, .unset, .unset, .unset, .unset, .unset, .unset, .unset] [])) _
    refine XS.aloadN X2.here hx rfl (hb hby at_4) rfl rfl ?_
    show Steps p.tables e below (T2.setTop (mkF m 5 #[.val (.int p1), .val (.int p2), .val (.int p3), .val (.ref b2), .unset, .unset, .unset, .unset, .unset, .unset, .unset, .unset] [(.ref b2)])) _
    refine XS.iconst X2.here hx rfl (hb hby at_5) ?_
    show Steps p.tables e below (T2.setTop (mkF m 6 #[.val (.int p1), .val (.int p2), .val (.int p3), .val (.ref b2), .unset, .unset, .unset, .unset, .unset, .unset, .unset, .unset] [(.int (0 : Int32)), (.ref b2)])) _
    refine XS.iloadN X2.here hx rfl (hb hby at_6) rfl ?_
    show Steps p.tables e below (T2.setTop (mkF m 7 #[.val (.int p1), .val (.int p2), .val (.int p3), .val (.ref b2), .unset, .unset, .unset, .unset, .unset, .unset, .unset, .unset] [(.int p1), (.int (0 : Int32)), (.ref b2)])) _
    refine XS.i2c X2.here hx rfl (hb hby at_7) rfl ?_
    exact k
  obtain ⟨cl5, Ar5, qa5, Sa5, Na5, Ha5, Ga5⟩ := id V2
  have hin6 : ¬ ((0 : Int32) < 0 ∨ cl5.slots.size ≤ ((0 : Int32)).toNatClampNeg) := inb_of Sa5 ⟨by decide, by decide⟩
  obtain ⟨T7, h7, X7, e7, W7, st7⟩ := stC X2 hx hZ e2 Ar5 (j := (0 : Int32)) hin6 (g := (mkF m 8 #[.val (.int p1), .val (.int p2), .val (.int p3), .val (.ref b2), .unset, .unset, .unset, .unset, .unset, .unset, .unset, .unset] [(.int (p1.toUInt32.toUInt16.toUInt32.toInt32)), (.int (0 : Int32)), (.ref b2)])) rfl rfl (hb hby at_8)
  have V7 : Arv Z h7 b2 c2 .char (4 : Int32) [(.int (nar .char (p1.toUInt32.toUInt16.toUInt32.toInt32))), (.int (0 : Int32)), (.int (0 : Int32)), (.int (0 : Int32))] (.int (0 : Int32)) := Arv.set Ar5 qa5 Sa5 Na5 Ha5 Ga5 (fits_nar_char _) W7 0 rfl (Nat.le_of_ble_eq_true rfl)
  have N7 := Fr.snoc X7 N0 ge2
  have K7 : Keep h0 h7 [] := K2.wr W7 (Or.inr bo2)
  have Z7 : n0 ≤ h7.size := Nat.le_trans Z2 (Keep.of_wr W7).1
  have Xo7 := Xo2.wr W7 ge2
  have k8 : ∀ t, Steps p.tables e below (T7.setTop (mkF m 9 #[.val (.int p1), .val (.int p2), .val (.int p3), .val (.ref b2), .unset, .unset, .unset, .unset, .unset, .unset, .unset, .unset] [])) t → Steps p.tables e below (s₁.setTop (entryFrame m #[(.int p1), (.int p2), (.int p3)] maxLocals)) t := fun t k => k4 t (st7 t k)
  have k9 : ∀ t, Steps p.tables e below (T7.setTop (mkF m 16 #[.val (.int p1), .val (.int p2), .val (.int p3), .val (.ref b2), .unset, .unset, .unset, .unset, .unset, .unset, .unset, .unset] [(.int (((p1.toUInt32 >>> ((16 : Int32) &&& 31).toUInt32).toInt32).toUInt32.toUInt16.toUInt32.toInt32)), (.int (1 : Int32)), (.ref b2)])) t → Steps p.tables e below (s₁.setTop (entryFrame m #[(.int p1), (.int p2), (.int p3)] maxLocals)) t := by
    intro t k
    refine k8 t ?_
    show Steps p.tables e below (T7.setTop (mkF m 9 #[.val (.int p1), .val (.int p2), .val (.int p3), .val (.ref b2), .unset, .unset, .unset, .unset, .unset, .unset, .unset, .unset] [])) _
    refine XS.aloadN X7.here hx rfl (hb hby at_9) rfl rfl ?_
    show Steps p.tables e below (T7.setTop (mkF m 10 #[.val (.int p1), .val (.int p2), .val (.int p3), .val (.ref b2), .unset, .unset, .unset, .unset, .unset, .unset, .unset, .unset] [(.ref b2)])) _
    refine XS.iconst X7.here hx rfl (hb hby at_10) ?_
    show Steps p.tables e below (T7.setTop (mkF m 11 #[.val (.int p1), .val (.int p2), .val (.int p3), .val (.ref b2), .unset, .unset, .unset, .unset, .unset, .unset, .unset, .unset] [(.int (1 : Int32)), (.ref b2)])) _
    refine XS.iloadN X7.here hx rfl (hb hby at_11) rfl ?_
    show Steps p.tables e below (T7.setTop (mkF m 12 #[.val (.int p1), .val (.int p2), .val (.int p3), .val (.ref b2), .unset, .unset, .unset, .unset, .unset, .unset, .unset, .unset] [(.int p1), (.int (1 : Int32)), (.ref b2)])) _
    refine XS.bipush X7.here hx rfl (hb hby at_12) ?_
    show Steps p.tables e below (T7.setTop (mkF m 14 #[.val (.int p1), .val (.int p2), .val (.int p3), .val (.ref b2), .unset, .unset, .unset, .unset, .unset, .unset, .unset, .unset] [(.int (16 : Int32)), (.int p1), (.int (1 : Int32)), (.ref b2)])) _
    refine XS.iushr X7.here hx rfl (hb hby at_14) rfl ?_
    show Steps p.tables e below (T7.setTop (mkF m 15 #[.val (.int p1), .val (.int p2), .val (.int p3), .val (.ref b2), .unset, .unset, .unset, .unset, .unset, .unset, .unset, .unset] [(.int ((p1.toUInt32 >>> ((16 : Int32) &&& 31).toUInt32).toInt32)), (.int (1 : Int32)), (.ref b2)])) _
    refine XS.i2c X7.here hx rfl (hb hby at_15) rfl ?_
    exact k
  obtain ⟨cl10, Ar10, qa10, Sa10, Na10, Ha10, Ga10⟩ := id V7
  have hin11 : ¬ ((1 : Int32) < 0 ∨ cl10.slots.size ≤ ((1 : Int32)).toNatClampNeg) := inb_of Sa10 ⟨by decide, by decide⟩
  obtain ⟨T12, h12, X12, e12, W12, st12⟩ := stC X7 hx hZ e7 Ar10 (j := (1 : Int32)) hin11 (g := (mkF m 16 #[.val (.int p1), .val (.int p2), .val (.int p3), .val (.ref b2), .unset, .unset, .unset, .unset, .unset, .unset, .unset, .unset] [(.int (((p1.toUInt32 >>> ((16 : Int32) &&& 31).toUInt32).toInt32).toUInt32.toUInt16.toUInt32.toInt32)), (.int (1 : Int32)), (.ref b2)])) rfl rfl (hb hby at_16)
  have V12 : Arv Z h12 b2 c2 .char (4 : Int32) [(.int (nar .char (p1.toUInt32.toUInt16.toUInt32.toInt32))), (.int (nar .char (((p1.toUInt32 >>> ((16 : Int32) &&& 31).toUInt32).toInt32).toUInt32.toUInt16.toUInt32.toInt32))), (.int (0 : Int32)), (.int (0 : Int32))] (.int (0 : Int32)) := Arv.set Ar10 qa10 Sa10 Na10 Ha10 Ga10 (fits_nar_char _) W12 1 rfl (Nat.le_of_ble_eq_true rfl)
  have N12 := Fr.snoc X12 N7 ge2
  have K12 : Keep h0 h12 [] := K7.wr W12 (Or.inr bo2)
  have Z12 : n0 ≤ h12.size := Nat.le_trans Z7 (Keep.of_wr W12).1
  have Xo12 := Xo7.wr W12 ge2
  have k13 : ∀ t, Steps p.tables e below (T12.setTop (mkF m 17 #[.val (.int p1), .val (.int p2), .val (.int p3), .val (.ref b2), .unset, .unset, .unset, .unset, .unset, .unset, .unset, .unset] [])) t → Steps p.tables e below (s₁.setTop (entryFrame m #[(.int p1), (.int p2), (.int p3)] maxLocals)) t := fun t k => k9 t (st12 t k)
  have k14 : ∀ t, Steps p.tables e below (T12.setTop (mkF m 21 #[.val (.int p1), .val (.int p2), .val (.int p3), .val (.ref b2), .unset, .unset, .unset, .unset, .unset, .unset, .unset, .unset] [(.int (p2.toUInt32.toUInt16.toUInt32.toInt32)), (.int (2 : Int32)), (.ref b2)])) t → Steps p.tables e below (s₁.setTop (entryFrame m #[(.int p1), (.int p2), (.int p3)] maxLocals)) t := by
    intro t k
    refine k13 t ?_
    show Steps p.tables e below (T12.setTop (mkF m 17 #[.val (.int p1), .val (.int p2), .val (.int p3), .val (.ref b2), .unset, .unset, .unset, .unset, .unset, .unset, .unset, .unset] [])) _
    refine XS.aloadN X12.here hx rfl (hb hby at_17) rfl rfl ?_
    show Steps p.tables e below (T12.setTop (mkF m 18 #[.val (.int p1), .val (.int p2), .val (.int p3), .val (.ref b2), .unset, .unset, .unset, .unset, .unset, .unset, .unset, .unset] [(.ref b2)])) _
    refine XS.iconst X12.here hx rfl (hb hby at_18) ?_
    show Steps p.tables e below (T12.setTop (mkF m 19 #[.val (.int p1), .val (.int p2), .val (.int p3), .val (.ref b2), .unset, .unset, .unset, .unset, .unset, .unset, .unset, .unset] [(.int (2 : Int32)), (.ref b2)])) _
    refine XS.iloadN X12.here hx rfl (hb hby at_19) rfl ?_
    show Steps p.tables e below (T12.setTop (mkF m 20 #[.val (.int p1), .val (.int p2), .val (.int p3), .val (.ref b2), .unset, .unset, .unset, .unset, .unset, .unset, .unset, .unset] [(.int p2), (.int (2 : Int32)), (.ref b2)])) _
    refine XS.i2c X12.here hx rfl (hb hby at_20) rfl ?_
    exact k
  obtain ⟨cl15, Ar15, qa15, Sa15, Na15, Ha15, Ga15⟩ := id V12
  have hin16 : ¬ ((2 : Int32) < 0 ∨ cl15.slots.size ≤ ((2 : Int32)).toNatClampNeg) := inb_of Sa15 ⟨by decide, by decide⟩
  obtain ⟨T17, h17, X17, e17, W17, st17⟩ := stC X12 hx hZ e12 Ar15 (j := (2 : Int32)) hin16 (g := (mkF m 21 #[.val (.int p1), .val (.int p2), .val (.int p3), .val (.ref b2), .unset, .unset, .unset, .unset, .unset, .unset, .unset, .unset] [(.int (p2.toUInt32.toUInt16.toUInt32.toInt32)), (.int (2 : Int32)), (.ref b2)])) rfl rfl (hb hby at_21)
  have V17 : Arv Z h17 b2 c2 .char (4 : Int32) [(.int (nar .char (p1.toUInt32.toUInt16.toUInt32.toInt32))), (.int (nar .char (((p1.toUInt32 >>> ((16 : Int32) &&& 31).toUInt32).toInt32).toUInt32.toUInt16.toUInt32.toInt32))), (.int (nar .char (p2.toUInt32.toUInt16.toUInt32.toInt32))), (.int (0 : Int32))] (.int (0 : Int32)) := Arv.set Ar15 qa15 Sa15 Na15 Ha15 Ga15 (fits_nar_char _) W17 2 rfl (Nat.le_of_ble_eq_true rfl)
  have N17 := Fr.snoc X17 N12 ge2
  have K17 : Keep h0 h17 [] := K12.wr W17 (Or.inr bo2)
  have Z17 : n0 ≤ h17.size := Nat.le_trans Z12 (Keep.of_wr W17).1
  have Xo17 := Xo12.wr W17 ge2
  have k18 : ∀ t, Steps p.tables e below (T17.setTop (mkF m 22 #[.val (.int p1), .val (.int p2), .val (.int p3), .val (.ref b2), .unset, .unset, .unset, .unset, .unset, .unset, .unset, .unset] [])) t → Steps p.tables e below (s₁.setTop (entryFrame m #[(.int p1), (.int p2), (.int p3)] maxLocals)) t := fun t k => k14 t (st17 t k)
  have k19 : ∀ t, Steps p.tables e below (T17.setTop (mkF m 29 #[.val (.int p1), .val (.int p2), .val (.int p3), .val (.ref b2), .unset, .unset, .unset, .unset, .unset, .unset, .unset, .unset] [(.int (((p2.toUInt32 >>> ((16 : Int32) &&& 31).toUInt32).toInt32).toUInt32.toUInt16.toUInt32.toInt32)), (.int (3 : Int32)), (.ref b2)])) t → Steps p.tables e below (s₁.setTop (entryFrame m #[(.int p1), (.int p2), (.int p3)] maxLocals)) t := by
    intro t k
    refine k18 t ?_
    show Steps p.tables e below (T17.setTop (mkF m 22 #[.val (.int p1), .val (.int p2), .val (.int p3), .val (.ref b2), .unset, .unset, .unset, .unset, .unset, .unset, .unset, .unset] [])) _
    refine XS.aloadN X17.here hx rfl (hb hby at_22) rfl rfl ?_
    show Steps p.tables e below (T17.setTop (mkF m 23 #[.val (.int p1), .val (.int p2), .val (.int p3), .val (.ref b2), .unset, .unset, .unset, .unset, .unset, .unset, .unset, .unset] [(.ref b2)])) _
    refine XS.iconst X17.here hx rfl (hb hby at_23) ?_
    show Steps p.tables e below (T17.setTop (mkF m 24 #[.val (.int p1), .val (.int p2), .val (.int p3), .val (.ref b2), .unset, .unset, .unset, .unset, .unset, .unset, .unset, .unset] [(.int (3 : Int32)), (.ref b2)])) _
    refine XS.iloadN X17.here hx rfl (hb hby at_24) rfl ?_
    show Steps p.tables e below (T17.setTop (mkF m 25 #[.val (.int p1), .val (.int p2), .val (.int p3), .val (.ref b2), .unset, .unset, .unset, .unset, .unset, .unset, .unset, .unset] [(.int p2), (.int (3 : Int32)), (.ref b2)])) _
    refine XS.bipush X17.here hx rfl (hb hby at_25) ?_
    show Steps p.tables e below (T17.setTop (mkF m 27 #[.val (.int p1), .val (.int p2), .val (.int p3), .val (.ref b2), .unset, .unset, .unset, .unset, .unset, .unset, .unset, .unset] [(.int (16 : Int32)), (.int p2), (.int (3 : Int32)), (.ref b2)])) _
    refine XS.iushr X17.here hx rfl (hb hby at_27) rfl ?_
    show Steps p.tables e below (T17.setTop (mkF m 28 #[.val (.int p1), .val (.int p2), .val (.int p3), .val (.ref b2), .unset, .unset, .unset, .unset, .unset, .unset, .unset, .unset] [(.int ((p2.toUInt32 >>> ((16 : Int32) &&& 31).toUInt32).toInt32)), (.int (3 : Int32)), (.ref b2)])) _
    refine XS.i2c X17.here hx rfl (hb hby at_28) rfl ?_
    exact k
  obtain ⟨cl20, Ar20, qa20, Sa20, Na20, Ha20, Ga20⟩ := id V17
  have hin21 : ¬ ((3 : Int32) < 0 ∨ cl20.slots.size ≤ ((3 : Int32)).toNatClampNeg) := inb_of Sa20 ⟨by decide, by decide⟩
  obtain ⟨T22, h22, X22, e22, W22, st22⟩ := stC X17 hx hZ e17 Ar20 (j := (3 : Int32)) hin21 (g := (mkF m 29 #[.val (.int p1), .val (.int p2), .val (.int p3), .val (.ref b2), .unset, .unset, .unset, .unset, .unset, .unset, .unset, .unset] [(.int (((p2.toUInt32 >>> ((16 : Int32) &&& 31).toUInt32).toInt32).toUInt32.toUInt16.toUInt32.toInt32)), (.int (3 : Int32)), (.ref b2)])) rfl rfl (hb hby at_29)
  have V22 : Arv Z h22 b2 c2 .char (4 : Int32) [(.int (nar .char (p1.toUInt32.toUInt16.toUInt32.toInt32))), (.int (nar .char (((p1.toUInt32 >>> ((16 : Int32) &&& 31).toUInt32).toInt32).toUInt32.toUInt16.toUInt32.toInt32))), (.int (nar .char (p2.toUInt32.toUInt16.toUInt32.toInt32))), (.int (nar .char (((p2.toUInt32 >>> ((16 : Int32) &&& 31).toUInt32).toInt32).toUInt32.toUInt16.toUInt32.toInt32)))] (.int (0 : Int32)) := Arv.set Ar20 qa20 Sa20 Na20 Ha20 Ga20 (fits_nar_char _) W22 3 rfl (Nat.le_of_ble_eq_true rfl)
  have N22 := Fr.snoc X22 N17 ge2
  have K22 : Keep h0 h22 [] := K17.wr W22 (Or.inr bo2)
  have Z22 : n0 ≤ h22.size := Nat.le_trans Z17 (Keep.of_wr W22).1
  have Xo22 := Xo17.wr W22 ge2
  have k23 : ∀ t, Steps p.tables e below (T22.setTop (mkF m 30 #[.val (.int p1), .val (.int p2), .val (.int p3), .val (.ref b2), .unset, .unset, .unset, .unset, .unset, .unset, .unset, .unset] [])) t → Steps p.tables e below (s₁.setTop (entryFrame m #[(.int p1), (.int p2), (.int p3)] maxLocals)) t := fun t k => k19 t (st22 t k)
  have GA : own_G Z h22 b2 .char 4 (own_cs p1 p2) := own_G.ofV (vs := [(nar .char (p1.toUInt32.toUInt16.toUInt32.toInt32)), (nar .char (((p1.toUInt32 >>> ((16 : Int32) &&& 31).toUInt32).toInt32).toUInt32.toUInt16.toUInt32.toInt32)), (nar .char (p2.toUInt32.toUInt16.toUInt32.toInt32)), (nar .char (((p2.toUInt32 >>> ((16 : Int32) &&& 31).toUInt32).toInt32).toUInt32.toUInt16.toUInt32.toInt32))]) (n := 4) V22 rfl
  have k24 : ∀ t, Steps p.tables e below (T22.setTop (mkF m 36 #[.val (.int p1), .val (.int p2), .val (.int p3), .val (.ref b2), .val (.int (own_cap p3)), .unset, .unset, .unset, .unset, .unset, .unset, .unset] [])) t → Steps p.tables e below (s₁.setTop (entryFrame m #[(.int p1), (.int p2), (.int p3)] maxLocals)) t := by
    intro t k
    refine k23 t ?_
    show Steps p.tables e below (T22.setTop (mkF m 30 #[.val (.int p1), .val (.int p2), .val (.int p3), .val (.ref b2), .unset, .unset, .unset, .unset, .unset, .unset, .unset, .unset] [])) _
    refine XS.iloadN X22.here hx rfl (hb hby at_30) rfl ?_
    show Steps p.tables e below (T22.setTop (mkF m 31 #[.val (.int p1), .val (.int p2), .val (.int p3), .val (.ref b2), .unset, .unset, .unset, .unset, .unset, .unset, .unset, .unset] [(.int p3)])) _
    refine XS.bipush X22.here hx rfl (hb hby at_31) ?_
    show Steps p.tables e below (T22.setTop (mkF m 33 #[.val (.int p1), .val (.int p2), .val (.int p3), .val (.ref b2), .unset, .unset, .unset, .unset, .unset, .unset, .unset, .unset] [(.int (7 : Int32)), (.int p3)])) _
    refine XS.iand X22.here hx rfl (hb hby at_33) rfl ?_
    show Steps p.tables e below (T22.setTop (mkF m 34 #[.val (.int p1), .val (.int p2), .val (.int p3), .val (.ref b2), .unset, .unset, .unset, .unset, .unset, .unset, .unset, .unset] [(.int (p3 &&& (7 : Int32)))])) _
    refine XS.istore X22.here hx rfl (hb hby at_34) rfl (l' := #[.val (.int p1), .val (.int p2), .val (.int p3), .val (.ref b2), .val (.int (p3 &&& (7 : Int32))), .unset, .unset, .unset, .unset, .unset, .unset, .unset]) rfl ?_
    exact k
  obtain ⟨zz, hzz, hzl⟩ := own_capN p3
  have k25 : ∀ t, Steps p.tables e below (T22.setTop (mkF m 43 #[.val (.int p1), .val (.int p2), .val (.int p3), .val (.ref b2), .val (.int (own_cap p3)), .val (.int (((p3.toUInt32 >>> ((3 : Int32) &&& 31).toUInt32).toInt32) % (5 : Int32))), .unset, .unset, .unset, .unset, .unset, .unset] [])) t → Steps p.tables e below (s₁.setTop (entryFrame m #[(.int p1), (.int p2), (.int p3)] maxLocals)) t := by
    intro t k
    refine k24 t ?_
    show Steps p.tables e below (T22.setTop (mkF m 36 #[.val (.int p1), .val (.int p2), .val (.int p3), .val (.ref b2), .val (.int (own_cap p3)), .unset, .unset, .unset, .unset, .unset, .unset, .unset] [])) _
    refine XS.iloadN X22.here hx rfl (hb hby at_36) rfl ?_
    show Steps p.tables e below (T22.setTop (mkF m 37 #[.val (.int p1), .val (.int p2), .val (.int p3), .val (.ref b2), .val (.int (own_cap p3)), .unset, .unset, .unset, .unset, .unset, .unset, .unset] [(.int p3)])) _
    refine XS.iconst X22.here hx rfl (hb hby at_37) ?_
    show Steps p.tables e below (T22.setTop (mkF m 38 #[.val (.int p1), .val (.int p2), .val (.int p3), .val (.ref b2), .val (.int (own_cap p3)), .unset, .unset, .unset, .unset, .unset, .unset, .unset] [(.int (3 : Int32)), (.int p3)])) _
    refine XS.iushr X22.here hx rfl (hb hby at_38) rfl ?_
    show Steps p.tables e below (T22.setTop (mkF m 39 #[.val (.int p1), .val (.int p2), .val (.int p3), .val (.ref b2), .val (.int (own_cap p3)), .unset, .unset, .unset, .unset, .unset, .unset, .unset] [(.int ((p3.toUInt32 >>> ((3 : Int32) &&& 31).toUInt32).toInt32))])) _
    refine XS.iconst X22.here hx rfl (hb hby at_39) ?_
    show Steps p.tables e below (T22.setTop (mkF m 40 #[.val (.int p1), .val (.int p2), .val (.int p3), .val (.ref b2), .val (.int (own_cap p3)), .unset, .unset, .unset, .unset, .unset, .unset, .unset] [(.int (5 : Int32)), (.int ((p3.toUInt32 >>> ((3 : Int32) &&& 31).toUInt32).toInt32))])) _
    refine iremM X22 hx rfl (hb hby at_40) rfl (by decide) ?_
    show Steps p.tables e below (T22.setTop (mkF m 41 #[.val (.int p1), .val (.int p2), .val (.int p3), .val (.ref b2), .val (.int (own_cap p3)), .unset, .unset, .unset, .unset, .unset, .unset, .unset] [(.int (((p3.toUInt32 >>> ((3 : Int32) &&& 31).toUInt32).toInt32) % (5 : Int32)))])) _
    refine XS.istore X22.here hx rfl (hb hby at_41) rfl (l' := #[.val (.int p1), .val (.int p2), .val (.int p3), .val (.ref b2), .val (.int (own_cap p3)), .val (.int (((p3.toUInt32 >>> ((3 : Int32) &&& 31).toUInt32).toInt32) % (5 : Int32))), .unset, .unset, .unset, .unset, .unset, .unset]) rfl ?_
    exact k
  obtain ⟨T26, h26, X26, e26, E26, A26, D26, -, st26⟩ := newO X22 hx hZ hown (hw _ (List.mem_of_getElem? (i := 1) rfl)) (hw _ (List.mem_of_getElem? (i := 2) rfl)) (hw _ (List.mem_of_getElem? (i := 3) rfl)) e22 (g := (mkF m 43 #[.val (.int p1), .val (.int p2), .val (.int p3), .val (.ref b2), .val (.int (own_cap p3)), .val (.int (((p3.toUInt32 >>> ((3 : Int32) &&& 31).toUInt32).toInt32) % (5 : Int32))), .unset, .unset, .unset, .unset, .unset, .unset] [])) rfl (hb hby at_43) (by decide) (by decide)
  obtain ⟨b26, g26⟩ : ∃ z, z = h22.size := ⟨_, rfl⟩
  rw [← g26] at A26 D26 st26
  have ge26 : n0 ≤ b26 := Nat.le_trans Z22 (Nat.le_of_eq g26.symm)
  have bo26 : h0.size ≤ b26 := Nat.le_trans K22.1 (Nat.le_of_eq g26.symm)
  have ne27 : b2 ≠ b26 := Nat.ne_of_lt (Nat.lt_of_lt_of_le GA.lt (Nat.le_of_eq g26.symm))
  have Z26 : n0 ≤ h26.size := Nat.le_trans Z22 E26.1
  have K26 : Keep h0 h26 [] := K22.ext E26
  have Xo26 := Xo22.ext E26
  have f28 := GA.ext E26
  have f29 : Fld Z h26 b26 "com/example/cureline/cureline/io/TextBuffer" "chars" "[C" .null := D26 (Or.inl (hw _ (List.mem_of_getElem? (i := 11) rfl))) (ty := (.array .char)) (by decide)
  have f30 : Fld Z h26 b26 "com/example/cureline/cureline/io/TextBuffer" "length" "I" (.int (0 : Int32)) := D26 (Or.inl (hw _ (List.mem_of_getElem? (i := 18) rfl))) (ty := .int) (by decide)
  have k31 : ∀ t, Steps p.tables e below (T26.setTop (mkF m 46 #[.val (.int p1), .val (.int p2), .val (.int p3), .val (.ref b2), .val (.int (own_cap p3)), .val (.int (((p3.toUInt32 >>> ((3 : Int32) &&& 31).toUInt32).toInt32) % (5 : Int32))), .unset, .unset, .unset, .unset, .unset, .unset] [(.ref b26)])) t → Steps p.tables e below (s₁.setTop (entryFrame m #[(.int p1), (.int p2), (.int p3)] maxLocals)) t := fun t k => k25 t (st26 t k)
  have k32 : ∀ t, Steps p.tables e below (T26.setTop (mkF m 49 #[.val (.int p1), .val (.int p2), .val (.int p3), .val (.ref b2), .val (.int (own_cap p3)), .val (.int (((p3.toUInt32 >>> ((3 : Int32) &&& 31).toUInt32).toInt32) % (5 : Int32))), .unset, .unset, .unset, .unset, .unset, .unset] [(.int (own_cap p3)), (.ref b26), (.ref b26)])) t → Steps p.tables e below (s₁.setTop (entryFrame m #[(.int p1), (.int p2), (.int p3)] maxLocals)) t := by
    intro t k
    refine k31 t ?_
    show Steps p.tables e below (T26.setTop (mkF m 46 #[.val (.int p1), .val (.int p2), .val (.int p3), .val (.ref b2), .val (.int (own_cap p3)), .val (.int (((p3.toUInt32 >>> ((3 : Int32) &&& 31).toUInt32).toInt32) % (5 : Int32))), .unset, .unset, .unset, .unset, .unset, .unset] [(.ref b26)])) _
    refine XS.dup X26.here hx rfl (hb hby at_46) rfl rfl ?_
    show Steps p.tables e below (T26.setTop (mkF m 47 #[.val (.int p1), .val (.int p2), .val (.int p3), .val (.ref b2), .val (.int (own_cap p3)), .val (.int (((p3.toUInt32 >>> ((3 : Int32) &&& 31).toUInt32).toInt32) % (5 : Int32))), .unset, .unset, .unset, .unset, .unset, .unset] [(.ref b26), (.ref b26)])) _
    refine XS.iload X26.here hx rfl (hb hby at_47) rfl ?_
    exact k
  obtain ⟨_, _, ⟨T33, L33, k33c, n33⟩, -, X33, ⟨Lc33, hQ33, l33, y33, z33⟩, st33⟩ := X26.specialBack hx (y := (⟨"com/example/cureline/cureline/io/TextBuffer", "<init>", "(I)V"⟩ : MethodName)) rfl hown (mvT hZ (hw _ (List.mem_of_getElem? (i := 4) rfl))) (mvT hZ (hw _ (List.mem_of_getElem? (i := 5) rfl))) (mvT hZ (hw _ (List.mem_of_getElem? (i := 6) rfl))) (by decide) (backOf (W := 1) (own_rmti l Z a0 hw [] b26 (own_cap p3) .null (0 : Int32) zz h26 n0 Z26 A26 f29 f30 ge26 hzz (by omega)) hZ (hw _ (List.mem_of_getElem? (i := 6) rfl)) (hw _ (List.mem_of_getElem? (i := 3) rfl)) (by decide) (by decide)) (g := (mkF m 49 #[.val (.int p1), .val (.int p2), .val (.int p3), .val (.ref b2), .val (.int (own_cap p3)), .val (.int (((p3.toUInt32 >>> ((3 : Int32) &&& 31).toUInt32).toInt32) % (5 : Int32))), .unset, .unset, .unset, .unset, .unset, .unset] [(.int (own_cap p3)), (.ref b26), (.ref b26)])) rfl (by rw [hml]; rfl) (Steps.refl _) (a := b26) (argsL := [(.int (own_cap p3))]) (rest := [(.ref b26)]) (lenOf own_pd19 rfl) rfl (by show 2 * 0 + _ ≤ _; exact Nat.le_of_eq rfl) (hb hby at_49) (fun _ _ => ⟨rfl, e26, (by decide : 2 + 1 ≤ _), (by decide : 6 + 8 ≤ _)⟩)
  dsimp only [Pt.U, Pt.locs, Pt.cells, Pt.slots] at X33 l33 y33 z33 st33 hQ33
  subst l33 y33 z33
  obtain ⟨rb_33, rfl, N33q, Kq33, gz33_b, fq33_0, fq33_1, fq33_2⟩ := hQ33
  have N33 := Fr.app N22 N33q
  have ge33_b : n0 ≤ rb_33 := Nat.le_trans Z26 gz33_b
  have bo33_b : h0.size ≤ rb_33 := Nat.le_trans K26.1 gz33_b
  have ne34 : b2 ≠ rb_33 := Nat.ne_of_lt (Nat.lt_of_lt_of_le f28.lt gz33_b)
  have ne35 : b26 ≠ rb_33 := Nat.ne_of_lt (Nat.lt_of_lt_of_le A26.lt gz33_b)
  have f36 := f28.keep Kq33 (List.not_mem_cons_of_ne_of_not_mem ne27 List.not_mem_nil)
  have f37 := A26.keep Kq33
  have Z33 : n0 ≤ T33.heap.size := Nat.le_trans Z26 Kq33.1
  have K33 : Keep h0 T33.heap [] := K26.trans Kq33 (fun x hx => by rcases List.mem_cons.mp hx with rfl | hx; exact Or.inr bo26; exact nomatch hx)
  have Xo33 := Xo26.keep Kq33 (allS ge26 all0)
  have k38 : ∀ t, Steps p.tables e below (T33.setTop (mkF m 52 #[.val (.int p1), .val (.int p2), .val (.int p3), .val (.ref b2), .val (.int (own_cap p3)), .val (.int (((p3.toUInt32 >>> ((3 : Int32) &&& 31).toUInt32).toInt32) % (5 : Int32))), .unset, .unset, .unset, .unset, .unset, .unset] [(.ref b26)])) t → Steps p.tables e below (s₁.setTop (entryFrame m #[(.int p1), (.int p2), (.int p3)] maxLocals)) t := fun t k => k32 t (st33.trans k)
  have k39 : ∀ t, Steps p.tables e below (T33.setTop (mkF m 54 #[.val (.int p1), .val (.int p2), .val (.int p3), .val (.ref b2), .val (.int (own_cap p3)), .val (.int (((p3.toUInt32 >>> ((3 : Int32) &&& 31).toUInt32).toInt32) % (5 : Int32))), .val (.ref b26), .unset, .unset, .unset, .unset, .unset] [])) t → Steps p.tables e below (s₁.setTop (entryFrame m #[(.int p1), (.int p2), (.int p3)] maxLocals)) t := by
    intro t k
    refine k38 t ?_
    show Steps p.tables e below (T33.setTop (mkF m 52 #[.val (.int p1), .val (.int p2), .val (.int p3), .val (.ref b2), .val (.int (own_cap p3)), .val (.int (((p3.toUInt32 >>> ((3 : Int32) &&& 31).toUInt32).toInt32) % (5 : Int32))), .unset, .unset, .unset, .unset, .unset, .unset] [(.ref b26)])) _
    refine XS.astore X33.here hx rfl (hb hby at_52) rfl rfl (l' := #[.val (.int p1), .val (.int p2), .val (.int p3), .val (.ref b2), .val (.int (own_cap p3)), .val (.int (((p3.toUInt32 >>> ((3 : Int32) &&& 31).toUInt32).toInt32) % (5 : Int32))), .val (.ref b26), .unset, .unset, .unset, .unset, .unset]) rfl ?_
    exact k
  have k40 : ∀ t, Steps p.tables e below (T33.setTop (mkF m 54 #[.val (.int p1), .val (.int p2), .val (.int p3), .val (.ref b2), .val (.int (own_cap p3)), .val (.int (own_n p3)), .val (.ref b26), .unset, .unset, .unset, .unset, .unset] [])) t → Steps p.tables e below (s₁.setTop (entryFrame m #[(.int p1), (.int p2), (.int p3)] maxLocals)) t := k39
  obtain ⟨nq, hnq, hnl⟩ := own_nN p3
  have sg41 : ∃ (Tj : State) (Lj : List Loc) (hj : Heap) (bj : Addr) (zj : Nat) (fj : Nat → Int32) (kj : Int32), Stand p l e room_1 s m #[(.int p1), (.int p2), (.int p3)] below meth c Tj Lj 7 46 ∧ Tj.heap = hj ∧ Fr n0 Lj ∧ Keep h0 hj [] ∧ n0 ≤ hj.size ∧ Old Z n0 hj ∧ Exa Z hj b26 "com/example/cureline/cureline/io/TextBuffer" ∧ Fld Z hj b26 "com/example/cureline/cureline/io/TextBuffer" "chars" "[C" (.ref bj) ∧ Fld Z hj b26 "com/example/cureline/cureline/io/TextBuffer" "length" "I" (.int kj) ∧ own_G Z hj bj .char zj fj ∧ own_G Z hj b2 .char 4 (own_cs p1 p2) ∧ n0 ≤ bj ∧ h0.size ≤ bj ∧ b26 ≠ bj ∧ b2 ≠ bj ∧ nq ≤ zj ∧ zj ≤ 8 ∧ (∀ i, i < nq → fj i = (own_cs p1 p2) i) ∧ ∀ t, Steps p.tables e below (Tj.setTop (mkF m 113 #[.val (.int p1), .val (.int p2), .val (.int p3), .val (.ref b2), .val (.int (own_cap p3)), .val (.int (own_n p3)), .val (.ref b26), .unset, .unset, .unset, .unset, .unset] [])) t → Steps p.tables e below (s₁.setTop (entryFrame m #[(.int p1), (.int p2), (.int p3)] maxLocals)) t := by
    rcases own_nc p3 with he | he | he | he | he
    · have hqi : nq = 0 := by rw [he] at hnq; have e : (0 : Int32).toInt = 0 := rfl; omega
      have k42 : ∀ t, Steps p.tables e below (T33.setTop (mkF m 54 #[.val (.int p1), .val (.int p2), .val (.int p3), .val (.ref b2), .val (.int (own_cap p3)), .val (.int (0 : Int32)), .val (.ref b26), .unset, .unset, .unset, .unset, .unset] [])) t → Steps p.tables e below (s₁.setTop (entryFrame m #[(.int p1), (.int p2), (.int p3)] maxLocals)) t := by have z := k40; rw [he] at z; exact z
      have k43 : ∀ t, Steps p.tables e below (T33.setTop (mkF m 113 #[.val (.int p1), .val (.int p2), .val (.int p3), .val (.ref b2), .val (.int (own_cap p3)), .val (.int (0 : Int32)), .val (.ref b26), .unset, .unset, .unset, .unset, .unset] [])) t → Steps p.tables e below (s₁.setTop (entryFrame m #[(.int p1), (.int p2), (.int p3)] maxLocals)) t := by
        intro t k
        refine k42 t ?_
        show Steps p.tables e below (T33.setTop (mkF m 54 #[.val (.int p1), .val (.int p2), .val (.int p3), .val (.ref b2), .val (.int (own_cap p3)), .val (.int (0 : Int32)), .val (.ref b26), .unset, .unset, .unset, .unset, .unset] [])) _
        refine XS.iload X33.here hx rfl (hb hby at_54) rfl ?_
        show Steps p.tables e below (T33.setTop (mkF m 56 #[.val (.int p1), .val (.int p2), .val (.int p3), .val (.ref b2), .val (.int (own_cap p3)), .val (.int (0 : Int32)), .val (.ref b26), .unset, .unset, .unset, .unset, .unset] [(.int (0 : Int32))])) _
        refine XS.ifYes X33.here hx rfl (pc0 := 56) (pc' := 68) rfl (hb hby at_56) rfl ((if0 _ _).trans (flt (Int32.lt_irrefl : ¬ ((0 : Int32) < (0 : Int32)))).2.2.2) (by decide) (by decide) ?_
        show Steps p.tables e below (T33.setTop (mkF m 68 #[.val (.int p1), .val (.int p2), .val (.int p3), .val (.ref b2), .val (.int (own_cap p3)), .val (.int (0 : Int32)), .val (.ref b26), .unset, .unset, .unset, .unset, .unset] [])) _
        refine XS.iload X33.here hx rfl (hb hby at_68) rfl ?_
        show Steps p.tables e below (T33.setTop (mkF m 70 #[.val (.int p1), .val (.int p2), .val (.int p3), .val (.ref b2), .val (.int (own_cap p3)), .val (.int (0 : Int32)), .val (.ref b26), .unset, .unset, .unset, .unset, .unset] [(.int (0 : Int32))])) _
        refine XS.iconst X33.here hx rfl (hb hby at_70) ?_
        show Steps p.tables e below (T33.setTop (mkF m 71 #[.val (.int p1), .val (.int p2), .val (.int p3), .val (.ref b2), .val (.int (own_cap p3)), .val (.int (0 : Int32)), .val (.ref b26), .unset, .unset, .unset, .unset, .unset] [(.int (1 : Int32)), (.int (0 : Int32))])) _
        refine XS.icmpYes X33.here hx rfl (pc0 := 71) (pc' := 83) rfl (hb hby at_71) rfl (flt (by decide : ¬ ((1 : Int32) < (0 : Int32)))).2.2.2 (by decide) (by decide) ?_
        show Steps p.tables e below (T33.setTop (mkF m 83 #[.val (.int p1), .val (.int p2), .val (.int p3), .val (.ref b2), .val (.int (own_cap p3)), .val (.int (0 : Int32)), .val (.ref b26), .unset, .unset, .unset, .unset, .unset] [])) _
        refine XS.iload X33.here hx rfl (hb hby at_83) rfl ?_
        show Steps p.tables e below (T33.setTop (mkF m 85 #[.val (.int p1), .val (.int p2), .val (.int p3), .val (.ref b2), .val (.int (own_cap p3)), .val (.int (0 : Int32)), .val (.ref b26), .unset, .unset, .unset, .unset, .unset] [(.int (0 : Int32))])) _
        refine XS.iconst X33.here hx rfl (hb hby at_85) ?_
        show Steps p.tables e below (T33.setTop (mkF m 86 #[.val (.int p1), .val (.int p2), .val (.int p3), .val (.ref b2), .val (.int (own_cap p3)), .val (.int (0 : Int32)), .val (.ref b26), .unset, .unset, .unset, .unset, .unset] [(.int (2 : Int32)), (.int (0 : Int32))])) _
        refine XS.icmpYes X33.here hx rfl (pc0 := 86) (pc' := 98) rfl (hb hby at_86) rfl (flt (by decide : ¬ ((2 : Int32) < (0 : Int32)))).2.2.2 (by decide) (by decide) ?_
        show Steps p.tables e below (T33.setTop (mkF m 98 #[.val (.int p1), .val (.int p2), .val (.int p3), .val (.ref b2), .val (.int (own_cap p3)), .val (.int (0 : Int32)), .val (.ref b26), .unset, .unset, .unset, .unset, .unset] [])) _
        refine XS.iload X33.here hx rfl (hb hby at_98) rfl ?_
        show Steps p.tables e below (T33.setTop (mkF m 100 #[.val (.int p1), .val (.int p2), .val (.int p3), .val (.ref b2), .val (.int (own_cap p3)), .val (.int (0 : Int32)), .val (.ref b26), .unset, .unset, .unset, .unset, .unset] [(.int (0 : Int32))])) _
        refine XS.iconst X33.here hx rfl (hb hby at_100) ?_
        show Steps p.tables e below (T33.setTop (mkF m 101 #[.val (.int p1), .val (.int p2), .val (.int p3), .val (.ref b2), .val (.int (own_cap p3)), .val (.int (0 : Int32)), .val (.ref b26), .unset, .unset, .unset, .unset, .unset] [(.int (3 : Int32)), (.int (0 : Int32))])) _
        refine XS.icmpYes X33.here hx rfl (pc0 := 101) (pc' := 113) rfl (hb hby at_101) rfl (flt (by decide : ¬ ((3 : Int32) < (0 : Int32)))).2.2.2 (by decide) (by decide) ?_
        exact k
      subst hqi
      exact ⟨_, _, _, rb_33, zz, own_zero, _, (X33.more (by decide) (by decide)), rfl, N33, K33, Z33, Xo33, f37, fq33_0, fq33_1, fq33_2, f36, ge33_b, bo33_b, ne35, ne34, by omega, by omega, (fun i hi => absurd hi (Nat.not_lt_zero i)), fun t k => k43 t (by rw [he] at k; exact k)⟩
    · have hqi : nq = 1 := by rw [he] at hnq; have e : (1 : Int32).toInt = 1 := rfl; omega
      have k44 : ∀ t, Steps p.tables e below (T33.setTop (mkF m 54 #[.val (.int p1), .val (.int p2), .val (.int p3), .val (.ref b2), .val (.int (own_cap p3)), .val (.int (1 : Int32)), .val (.ref b26), .unset, .unset, .unset, .unset, .unset] [])) t → Steps p.tables e below (s₁.setTop (entryFrame m #[(.int p1), (.int p2), (.int p3)] maxLocals)) t := by have z := k40; rw [he] at z; exact z
      have k45 : ∀ t, Steps p.tables e below (T33.setTop (mkF m 64 #[.val (.int p1), .val (.int p2), .val (.int p3), .val (.ref b2), .val (.int (own_cap p3)), .val (.int (1 : Int32)), .val (.ref b26), .unset, .unset, .unset, .unset, .unset] [(.int ((own_cs p1 p2) 0)), (.ref b26)])) t → Steps p.tables e below (s₁.setTop (entryFrame m #[(.int p1), (.int p2), (.int p3)] maxLocals)) t := by
        intro t k
        refine k44 t ?_
        show Steps p.tables e below (T33.setTop (mkF m 54 #[.val (.int p1), .val (.int p2), .val (.int p3), .val (.ref b2), .val (.int (own_cap p3)), .val (.int (1 : Int32)), .val (.ref b26), .unset, .unset, .unset, .unset, .unset] [])) _
        refine XS.iload X33.here hx rfl (hb hby at_54) rfl ?_
        show Steps p.tables e below (T33.setTop (mkF m 56 #[.val (.int p1), .val (.int p2), .val (.int p3), .val (.ref b2), .val (.int (own_cap p3)), .val (.int (1 : Int32)), .val (.ref b26), .unset, .unset, .unset, .unset, .unset] [(.int (1 : Int32))])) _
        refine XS.ifNo X33.here hx rfl (hb hby at_56) rfl ((if0 _ _).trans (tlt (by decide : (0 : Int32) < (1 : Int32))).2.2.2) ?_
        show Steps p.tables e below (T33.setTop (mkF m 59 #[.val (.int p1), .val (.int p2), .val (.int p3), .val (.ref b2), .val (.int (own_cap p3)), .val (.int (1 : Int32)), .val (.ref b26), .unset, .unset, .unset, .unset, .unset] [])) _
        refine XS.aload X33.here hx rfl (hb hby at_59) rfl rfl ?_
        show Steps p.tables e below (T33.setTop (mkF m 61 #[.val (.int p1), .val (.int p2), .val (.int p3), .val (.ref b2), .val (.int (own_cap p3)), .val (.int (1 : Int32)), .val (.ref b26), .unset, .unset, .unset, .unset, .unset] [(.ref b26)])) _
        refine XS.aloadN X33.here hx rfl (hb hby at_61) rfl rfl ?_
        show Steps p.tables e below (T33.setTop (mkF m 62 #[.val (.int p1), .val (.int p2), .val (.int p3), .val (.ref b2), .val (.int (own_cap p3)), .val (.int (1 : Int32)), .val (.ref b26), .unset, .unset, .unset, .unset, .unset] [(.ref b2), (.ref b26)])) _
        refine XS.iconst X33.here hx rfl (hb hby at_62) ?_
        show Steps p.tables e below (T33.setTop (mkF m 63 #[.val (.int p1), .val (.int p2), .val (.int p3), .val (.ref b2), .val (.int (own_cap p3)), .val (.int (1 : Int32)), .val (.ref b26), .unset, .unset, .unset, .unset, .unset] [(.int (0 : Int32)), (.ref b2), (.ref b26)])) _
        refine own_ldC X33 hx hZ rfl f36 (j := (0 : Int32)) own_i0 (by omega) (g := (mkF m 63 #[.val (.int p1), .val (.int p2), .val (.int p3), .val (.ref b2), .val (.int (own_cap p3)), .val (.int (1 : Int32)), .val (.ref b26), .unset, .unset, .unset, .unset, .unset] [(.int (0 : Int32)), (.ref b2), (.ref b26)])) rfl rfl (hb hby at_63) ?_
        exact k
      obtain ⟨cq46, kq46, q46a, q46b, q46c⟩ := isOf hZ rfl f37
      obtain ⟨_, _, ⟨T46, L46, k46c, n46⟩, -, X46, ⟨Lc46, hQ46, l46, y46, z46⟩, st46⟩ := X33.virtualBack hx (y := (⟨"com/example/cureline/cureline/io/TextBuffer", "append", "(C)Lcom/example/cureline/cureline/io/TextBuffer;"⟩ : MethodName)) (z := (⟨"com/example/cureline/cureline/io/TextBuffer", "append", "(C)Lcom/example/cureline/cureline/io/TextBuffer;"⟩ : MethodName)) hown (mvT hZ (hw _ (List.mem_of_getElem? (i := 74) rfl))) (mvT hZ (hw _ (List.mem_of_getElem? (i := 75) rfl))) (notFace_of_selects (args := #[]) (mvT hZ (hw _ (List.mem_of_getElem? (i := 77) rfl)))) (mvT hZ (hw _ (List.mem_of_getElem? (i := 77) rfl))) (mvT hZ (hw _ (List.mem_of_getElem? (i := 76) rfl))) (by decide) (backOf (W := 0) (own_rmap l Z a0 hw [] b26 ((own_cs p1 p2) 0) rb_33 (0 : Int32) zz own_zero 0 T33.heap n0 Z33 f37 fq33_0 fq33_1 fq33_2 ge26 ge33_b (Ne.symm ne35) own_i0 (by omega) (by omega) (by omega)) hZ (hw _ (List.mem_of_getElem? (i := 78) rfl)) (hw _ (List.mem_of_getElem? (i := 3) rfl)) (by decide) (by decide)) q46a q46c (g := (mkF m 64 #[.val (.int p1), .val (.int p2), .val (.int p3), .val (.ref b2), .val (.int (own_cap p3)), .val (.int (1 : Int32)), .val (.ref b26), .unset, .unset, .unset, .unset, .unset] [(.int ((own_cs p1 p2) 0)), (.ref b26)])) rfl (by rw [hml]; rfl) (Steps.refl _) (argsL := [(.int ((own_cs p1 p2) 0))]) (rest := []) (lenOf own_pd22 rfl) rfl (by show 2 * 0 + _ ≤ _; exact Nat.le_of_eq rfl) (hb hby at_64) (fun _ _ => ⟨rfl, rfl, (by decide : 3 + 1 ≤ _), (by decide : 14 + 8 ≤ _)⟩)
      dsimp only [Pt.U, Pt.locs, Pt.cells, Pt.slots] at X46 l46 y46 z46 st46 hQ46
      subst l46 y46 z46
      obtain ⟨b2_46, z2_46, f2_46, rfl, N46q, Kq46, fq46_0, fq46_1, fq46_2, hq46_hb2, hq46_hz2, hq46_hf2⟩ := hQ46
      have N46 := Fr.app N33 N46q
      have f47 := f36.keep Kq46 (List.not_mem_cons_of_ne_of_not_mem ne27 (List.not_mem_cons_of_ne_of_not_mem ne34 List.not_mem_nil))
      have f48 := f37.keep Kq46
      have Z46 : n0 ≤ T46.heap.size := Nat.le_trans Z33 Kq46.1
      have K46 : Keep h0 T46.heap [] := K33.trans Kq46 (fun x hx => by rcases List.mem_cons.mp hx with rfl | hx; exact Or.inr bo26; rcases List.mem_cons.mp hx with rfl | hx; exact Or.inr bo33_b; exact nomatch hx)
      have Xo46 := Xo33.keep Kq46 (allS ge26 (allS ge33_b all0))
      have hz46 := hq46_hz2.1; have hy46 := hq46_hz2.2
      have ge46 : n0 ≤ b2_46 := by rcases hq46_hb2 with q | q; (rw [q]; exact ge33_b); exact Nat.le_trans Z33 q
      have bo46 : h0.size ≤ b2_46 := by rcases hq46_hb2 with q | q; (rw [q]; exact bo33_b); exact Nat.le_trans K33.1 q
      have ne49 : b2 ≠ b2_46 := by rcases hq46_hb2 with q | q; (rw [q]; exact ne34); exact Nat.ne_of_lt (Nat.lt_of_lt_of_le f36.lt q)
      have ne50 : b26 ≠ b2_46 := by rcases hq46_hb2 with q | q; (rw [q]; exact ne35); exact Nat.ne_of_lt (Nat.lt_of_lt_of_le f37.lt q)
      have k51 : ∀ t, Steps p.tables e below (T46.setTop (mkF m 67 #[.val (.int p1), .val (.int p2), .val (.int p3), .val (.ref b2), .val (.int (own_cap p3)), .val (.int (1 : Int32)), .val (.ref b26), .unset, .unset, .unset, .unset, .unset] [(.ref b26)])) t → Steps p.tables e below (s₁.setTop (entryFrame m #[(.int p1), (.int p2), (.int p3)] maxLocals)) t := fun t k => k45 t (st46.trans k)
      have hc52 : ∀ i, i < 1 → f2_46 i = (own_cs p1 p2) i := own_app (k := 0) (c := (own_cs p1 p2)) (fun i hi => absurd hi (Nat.not_lt_zero i)) hq46_hf2 (own_csn p1 p2 0)
      have k53 : ∀ t, Steps p.tables e below (T46.setTop (mkF m 113 #[.val (.int p1), .val (.int p2), .val (.int p3), .val (.ref b2), .val (.int (own_cap p3)), .val (.int (1 : Int32)), .val (.ref b26), .unset, .unset, .unset, .unset, .unset] [])) t → Steps p.tables e below (s₁.setTop (entryFrame m #[(.int p1), (.int p2), (.int p3)] maxLocals)) t := by
        intro t k
        refine k51 t ?_
        show Steps p.tables e below (T46.setTop (mkF m 67 #[.val (.int p1), .val (.int p2), .val (.int p3), .val (.ref b2), .val (.int (own_cap p3)), .val (.int (1 : Int32)), .val (.ref b26), .unset, .unset, .unset, .unset, .unset] [(.ref b26)])) _
        refine XS.pop X46.here hx rfl (hb hby at_67) rfl rfl ?_
        show Steps p.tables e below (T46.setTop (mkF m 68 #[.val (.int p1), .val (.int p2), .val (.int p3), .val (.ref b2), .val (.int (own_cap p3)), .val (.int (1 : Int32)), .val (.ref b26), .unset, .unset, .unset, .unset, .unset] [])) _
        refine XS.iload X46.here hx rfl (hb hby at_68) rfl ?_
        show Steps p.tables e below (T46.setTop (mkF m 70 #[.val (.int p1), .val (.int p2), .val (.int p3), .val (.ref b2), .val (.int (own_cap p3)), .val (.int (1 : Int32)), .val (.ref b26), .unset, .unset, .unset, .unset, .unset] [(.int (1 : Int32))])) _
        refine XS.iconst X46.here hx rfl (hb hby at_70) ?_
        show Steps p.tables e below (T46.setTop (mkF m 71 #[.val (.int p1), .val (.int p2), .val (.int p3), .val (.ref b2), .val (.int (own_cap p3)), .val (.int (1 : Int32)), .val (.ref b26), .unset, .unset, .unset, .unset, .unset] [(.int (1 : Int32)), (.int (1 : Int32))])) _
        refine XS.icmpYes X46.here hx rfl (pc0 := 71) (pc' := 83) rfl (hb hby at_71) rfl (flt (Int32.lt_irrefl : ¬ ((1 : Int32) < (1 : Int32)))).2.2.2 (by decide) (by decide) ?_
        show Steps p.tables e below (T46.setTop (mkF m 83 #[.val (.int p1), .val (.int p2), .val (.int p3), .val (.ref b2), .val (.int (own_cap p3)), .val (.int (1 : Int32)), .val (.ref b26), .unset, .unset, .unset, .unset, .unset] [])) _
        refine XS.iload X46.here hx rfl (hb hby at_83) rfl ?_
        show Steps p.tables e below (T46.setTop (mkF m 85 #[.val (.int p1), .val (.int p2), .val (.int p3), .val (.ref b2), .val (.int (own_cap p3)), .val (.int (1 : Int32)), .val (.ref b26), .unset, .unset, .unset, .unset, .unset] [(.int (1 : Int32))])) _
        refine XS.iconst X46.here hx rfl (hb hby at_85) ?_
        show Steps p.tables e below (T46.setTop (mkF m 86 #[.val (.int p1), .val (.int p2), .val (.int p3), .val (.ref b2), .val (.int (own_cap p3)), .val (.int (1 : Int32)), .val (.ref b26), .unset, .unset, .unset, .unset, .unset] [(.int (2 : Int32)), (.int (1 : Int32))])) _
        refine XS.icmpYes X46.here hx rfl (pc0 := 86) (pc' := 98) rfl (hb hby at_86) rfl (flt (by decide : ¬ ((2 : Int32) < (1 : Int32)))).2.2.2 (by decide) (by decide) ?_
        show Steps p.tables e below (T46.setTop (mkF m 98 #[.val (.int p1), .val (.int p2), .val (.int p3), .val (.ref b2), .val (.int (own_cap p3)), .val (.int (1 : Int32)), .val (.ref b26), .unset, .unset, .unset, .unset, .unset] [])) _
        refine XS.iload X46.here hx rfl (hb hby at_98) rfl ?_
        show Steps p.tables e below (T46.setTop (mkF m 100 #[.val (.int p1), .val (.int p2), .val (.int p3), .val (.ref b2), .val (.int (own_cap p3)), .val (.int (1 : Int32)), .val (.ref b26), .unset, .unset, .unset, .unset, .unset] [(.int (1 : Int32))])) _
        refine XS.iconst X46.here hx rfl (hb hby at_100) ?_
        show Steps p.tables e below (T46.setTop (mkF m 101 #[.val (.int p1), .val (.int p2), .val (.int p3), .val (.ref b2), .val (.int (own_cap p3)), .val (.int (1 : Int32)), .val (.ref b26), .unset, .unset, .unset, .unset, .unset] [(.int (3 : Int32)), (.int (1 : Int32))])) _
        refine XS.icmpYes X46.here hx rfl (pc0 := 101) (pc' := 113) rfl (hb hby at_101) rfl (flt (by decide : ¬ ((3 : Int32) < (1 : Int32)))).2.2.2 (by decide) (by decide) ?_
        exact k
      subst hqi
      exact ⟨_, _, _, b2_46, z2_46, f2_46, _, (X46.more (by decide) (by decide)), rfl, N46, K46, Z46, Xo46, f48, fq46_0, fq46_1, fq46_2, f47, ge46, bo46, ne50, ne49, by omega, by omega, hc52, fun t k => k53 t (by rw [he] at k; exact k)⟩
    · have hqi : nq = 2 := by rw [he] at hnq; have e : (2 : Int32).toInt = 2 := rfl; omega
      have k54 : ∀ t, Steps p.tables e below (T33.setTop (mkF m 54 #[.val (.int p1), .val (.int p2), .val (.int p3), .val (.ref b2), .val (.int (own_cap p3)), .val (.int (2 : Int32)), .val (.ref b26), .unset, .unset, .unset, .unset, .unset] [])) t → Steps p.tables e below (s₁.setTop (entryFrame m #[(.int p1), (.int p2), (.int p3)] maxLocals)) t := by have z := k40; rw [he] at z; exact z
      have k55 : ∀ t, Steps p.tables e below (T33.setTop (mkF m 64 #[.val (.int p1), .val (.int p2), .val (.int p3), .val (.ref b2), .val (.int (own_cap p3)), .val (.int (2 : Int32)), .val (.ref b26), .unset, .unset, .unset, .unset, .unset] [(.int ((own_cs p1 p2) 0)), (.ref b26)])) t → Steps p.tables e below (s₁.setTop (entryFrame m #[(.int p1), (.int p2), (.int p3)] maxLocals)) t := by
        intro t k
        refine k54 t ?_
        show Steps p.tables e below (T33.setTop (mkF m 54 #[.val (.int p1), .val (.int p2), .val (.int p3), .val (.ref b2), .val (.int (own_cap p3)), .val (.int (2 : Int32)), .val (.ref b26), .unset, .unset, .unset, .unset, .unset] [])) _
        refine XS.iload X33.here hx rfl (hb hby at_54) rfl ?_
        show Steps p.tables e below (T33.setTop (mkF m 56 #[.val (.int p1), .val (.int p2), .val (.int p3), .val (.ref b2), .val (.int (own_cap p3)), .val (.int (2 : Int32)), .val (.ref b26), .unset, .unset, .unset, .unset, .unset] [(.int (2 : Int32))])) _
        refine XS.ifNo X33.here hx rfl (hb hby at_56) rfl ((if0 _ _).trans (tlt (by decide : (0 : Int32) < (2 : Int32))).2.2.2) ?_
        show Steps p.tables e below (T33.setTop (mkF m 59 #[.val (.int p1), .val (.int p2), .val (.int p3), .val (.ref b2), .val (.int (own_cap p3)), .val (.int (2 : Int32)), .val (.ref b26), .unset, .unset, .unset, .unset, .unset] [])) _
        refine XS.aload X33.here hx rfl (hb hby at_59) rfl rfl ?_
        show Steps p.tables e below (T33.setTop (mkF m 61 #[.val (.int p1), .val (.int p2), .val (.int p3), .val (.ref b2), .val (.int (own_cap p3)), .val (.int (2 : Int32)), .val (.ref b26), .unset, .unset, .unset, .unset, .unset] [(.ref b26)])) _
        refine XS.aloadN X33.here hx rfl (hb hby at_61) rfl rfl ?_
        show Steps p.tables e below (T33.setTop (mkF m 62 #[.val (.int p1), .val (.int p2), .val (.int p3), .val (.ref b2), .val (.int (own_cap p3)), .val (.int (2 : Int32)), .val (.ref b26), .unset, .unset, .unset, .unset, .unset] [(.ref b2), (.ref b26)])) _
        refine XS.iconst X33.here hx rfl (hb hby at_62) ?_
        show Steps p.tables e below (T33.setTop (mkF m 63 #[.val (.int p1), .val (.int p2), .val (.int p3), .val (.ref b2), .val (.int (own_cap p3)), .val (.int (2 : Int32)), .val (.ref b26), .unset, .unset, .unset, .unset, .unset] [(.int (0 : Int32)), (.ref b2), (.ref b26)])) _
        refine own_ldC X33 hx hZ rfl f36 (j := (0 : Int32)) own_i0 (by omega) (g := (mkF m 63 #[.val (.int p1), .val (.int p2), .val (.int p3), .val (.ref b2), .val (.int (own_cap p3)), .val (.int (2 : Int32)), .val (.ref b26), .unset, .unset, .unset, .unset, .unset] [(.int (0 : Int32)), (.ref b2), (.ref b26)])) rfl rfl (hb hby at_63) ?_
        exact k
      obtain ⟨cq56, kq56, q56a, q56b, q56c⟩ := isOf hZ rfl f37
      obtain ⟨_, _, ⟨T56, L56, k56c, n56⟩, -, X56, ⟨Lc56, hQ56, l56, y56, z56⟩, st56⟩ := X33.virtualBack hx (y := (⟨"com/example/cureline/cureline/io/TextBuffer", "append", "(C)Lcom/example/cureline/cureline/io/TextBuffer;"⟩ : MethodName)) (z := (⟨"com/example/cureline/cureline/io/TextBuffer", "append", "(C)Lcom/example/cureline/cureline/io/TextBuffer;"⟩ : MethodName)) hown (mvT hZ (hw _ (List.mem_of_getElem? (i := 74) rfl))) (mvT hZ (hw _ (List.mem_of_getElem? (i := 75) rfl))) (notFace_of_selects (args := #[]) (mvT hZ (hw _ (List.mem_of_getElem? (i := 77) rfl)))) (mvT hZ (hw _ (List.mem_of_getElem? (i := 77) rfl))) (mvT hZ (hw _ (List.mem_of_getElem? (i := 76) rfl))) (by decide) (backOf (W := 0) (own_rmap l Z a0 hw [] b26 ((own_cs p1 p2) 0) rb_33 (0 : Int32) zz own_zero 0 T33.heap n0 Z33 f37 fq33_0 fq33_1 fq33_2 ge26 ge33_b (Ne.symm ne35) own_i0 (by omega) (by omega) (by omega)) hZ (hw _ (List.mem_of_getElem? (i := 78) rfl)) (hw _ (List.mem_of_getElem? (i := 3) rfl)) (by decide) (by decide)) q56a q56c (g := (mkF m 64 #[.val (.int p1), .val (.int p2), .val (.int p3), .val (.ref b2), .val (.int (own_cap p3)), .val (.int (2 : Int32)), .val (.ref b26), .unset, .unset, .unset, .unset, .unset] [(.int ((own_cs p1 p2) 0)), (.ref b26)])) rfl (by rw [hml]; rfl) (Steps.refl _) (argsL := [(.int ((own_cs p1 p2) 0))]) (rest := []) (lenOf own_pd22 rfl) rfl (by show 2 * 0 + _ ≤ _; exact Nat.le_of_eq rfl) (hb hby at_64) (fun _ _ => ⟨rfl, rfl, (by decide : 3 + 1 ≤ _), (by decide : 14 + 8 ≤ _)⟩)
      dsimp only [Pt.U, Pt.locs, Pt.cells, Pt.slots] at X56 l56 y56 z56 st56 hQ56
      subst l56 y56 z56
      obtain ⟨b2_56, z2_56, f2_56, rfl, N56q, Kq56, fq56_0, fq56_1, fq56_2, hq56_hb2, hq56_hz2, hq56_hf2⟩ := hQ56
      have N56 := Fr.app N33 N56q
      have f57 := f36.keep Kq56 (List.not_mem_cons_of_ne_of_not_mem ne27 (List.not_mem_cons_of_ne_of_not_mem ne34 List.not_mem_nil))
      have f58 := f37.keep Kq56
      have Z56 : n0 ≤ T56.heap.size := Nat.le_trans Z33 Kq56.1
      have K56 : Keep h0 T56.heap [] := K33.trans Kq56 (fun x hx => by rcases List.mem_cons.mp hx with rfl | hx; exact Or.inr bo26; rcases List.mem_cons.mp hx with rfl | hx; exact Or.inr bo33_b; exact nomatch hx)
      have Xo56 := Xo33.keep Kq56 (allS ge26 (allS ge33_b all0))
      have hz56 := hq56_hz2.1; have hy56 := hq56_hz2.2
      have ge56 : n0 ≤ b2_56 := by rcases hq56_hb2 with q | q; (rw [q]; exact ge33_b); exact Nat.le_trans Z33 q
      have bo56 : h0.size ≤ b2_56 := by rcases hq56_hb2 with q | q; (rw [q]; exact bo33_b); exact Nat.le_trans K33.1 q
      have ne59 : b2 ≠ b2_56 := by rcases hq56_hb2 with q | q; (rw [q]; exact ne34); exact Nat.ne_of_lt (Nat.lt_of_lt_of_le f36.lt q)
      have ne60 : b26 ≠ b2_56 := by rcases hq56_hb2 with q | q; (rw [q]; exact ne35); exact Nat.ne_of_lt (Nat.lt_of_lt_of_le f37.lt q)
      have k61 : ∀ t, Steps p.tables e below (T56.setTop (mkF m 67 #[.val (.int p1), .val (.int p2), .val (.int p3), .val (.ref b2), .val (.int (own_cap p3)), .val (.int (2 : Int32)), .val (.ref b26), .unset, .unset, .unset, .unset, .unset] [(.ref b26)])) t → Steps p.tables e below (s₁.setTop (entryFrame m #[(.int p1), (.int p2), (.int p3)] maxLocals)) t := fun t k => k55 t (st56.trans k)
      have hc62 : ∀ i, i < 1 → f2_56 i = (own_cs p1 p2) i := own_app (k := 0) (c := (own_cs p1 p2)) (fun i hi => absurd hi (Nat.not_lt_zero i)) hq56_hf2 (own_csn p1 p2 0)
      have k63 : ∀ t, Steps p.tables e below (T56.setTop (mkF m 79 #[.val (.int p1), .val (.int p2), .val (.int p3), .val (.ref b2), .val (.int (own_cap p3)), .val (.int (2 : Int32)), .val (.ref b26), .unset, .unset, .unset, .unset, .unset] [(.int ((own_cs p1 p2) 1)), (.ref b26)])) t → Steps p.tables e below (s₁.setTop (entryFrame m #[(.int p1), (.int p2), (.int p3)] maxLocals)) t := by
        intro t k
        refine k61 t ?_
        show Steps p.tables e below (T56.setTop (mkF m 67 #[.val (.int p1), .val (.int p2), .val (.int p3), .val (.ref b2), .val (.int (own_cap p3)), .val (.int (2 : Int32)), .val (.ref b26), .unset, .unset, .unset, .unset, .unset] [(.ref b26)])) _
        refine XS.pop X56.here hx rfl (hb hby at_67) rfl rfl ?_
        show Steps p.tables e below (T56.setTop (mkF m 68 #[.val (.int p1), .val (.int p2), .val (.int p3), .val (.ref b2), .val (.int (own_cap p3)), .val (.int (2 : Int32)), .val (.ref b26), .unset, .unset, .unset, .unset, .unset] [])) _
        refine XS.iload X56.here hx rfl (hb hby at_68) rfl ?_
        show Steps p.tables e below (T56.setTop (mkF m 70 #[.val (.int p1), .val (.int p2), .val (.int p3), .val (.ref b2), .val (.int (own_cap p3)), .val (.int (2 : Int32)), .val (.ref b26), .unset, .unset, .unset, .unset, .unset] [(.int (2 : Int32))])) _
        refine XS.iconst X56.here hx rfl (hb hby at_70) ?_
        show Steps p.tables e below (T56.setTop (mkF m 71 #[.val (.int p1), .val (.int p2), .val (.int p3), .val (.ref b2), .val (.int (own_cap p3)), .val (.int (2 : Int32)), .val (.ref b26), .unset, .unset, .unset, .unset, .unset] [(.int (1 : Int32)), (.int (2 : Int32))])) _
        refine XS.icmpNo X56.here hx rfl (hb hby at_71) rfl (tlt (by decide : (1 : Int32) < (2 : Int32))).2.2.2 ?_
        show Steps p.tables e below (T56.setTop (mkF m 74 #[.val (.int p1), .val (.int p2), .val (.int p3), .val (.ref b2), .val (.int (own_cap p3)), .val (.int (2 : Int32)), .val (.ref b26), .unset, .unset, .unset, .unset, .unset] [])) _
        refine XS.aload X56.here hx rfl (hb hby at_74) rfl rfl ?_
        show Steps p.tables e below (T56.setTop (mkF m 76 #[.val (.int p1), .val (.int p2), .val (.int p3), .val (.ref b2), .val (.int (own_cap p3)), .val (.int (2 : Int32)), .val (.ref b26), .unset, .unset, .unset, .unset, .unset] [(.ref b26)])) _
        refine XS.aloadN X56.here hx rfl (hb hby at_76) rfl rfl ?_
        show Steps p.tables e below (T56.setTop (mkF m 77 #[.val (.int p1), .val (.int p2), .val (.int p3), .val (.ref b2), .val (.int (own_cap p3)), .val (.int (2 : Int32)), .val (.ref b26), .unset, .unset, .unset, .unset, .unset] [(.ref b2), (.ref b26)])) _
        refine XS.iconst X56.here hx rfl (hb hby at_77) ?_
        show Steps p.tables e below (T56.setTop (mkF m 78 #[.val (.int p1), .val (.int p2), .val (.int p3), .val (.ref b2), .val (.int (own_cap p3)), .val (.int (2 : Int32)), .val (.ref b26), .unset, .unset, .unset, .unset, .unset] [(.int (1 : Int32)), (.ref b2), (.ref b26)])) _
        refine own_ldC X56 hx hZ rfl f57 (j := (1 : Int32)) own_i1 (by omega) (g := (mkF m 78 #[.val (.int p1), .val (.int p2), .val (.int p3), .val (.ref b2), .val (.int (own_cap p3)), .val (.int (2 : Int32)), .val (.ref b26), .unset, .unset, .unset, .unset, .unset] [(.int (1 : Int32)), (.ref b2), (.ref b26)])) rfl rfl (hb hby at_78) ?_
        exact k
      obtain ⟨cq64, kq64, q64a, q64b, q64c⟩ := isOf hZ rfl f58
      obtain ⟨_, _, ⟨T64, L64, k64c, n64⟩, -, X64, ⟨Lc64, hQ64, l64, y64, z64⟩, st64⟩ := X56.virtualBack hx (y := (⟨"com/example/cureline/cureline/io/TextBuffer", "append", "(C)Lcom/example/cureline/cureline/io/TextBuffer;"⟩ : MethodName)) (z := (⟨"com/example/cureline/cureline/io/TextBuffer", "append", "(C)Lcom/example/cureline/cureline/io/TextBuffer;"⟩ : MethodName)) hown (mvT hZ (hw _ (List.mem_of_getElem? (i := 74) rfl))) (mvT hZ (hw _ (List.mem_of_getElem? (i := 75) rfl))) (notFace_of_selects (args := #[]) (mvT hZ (hw _ (List.mem_of_getElem? (i := 77) rfl)))) (mvT hZ (hw _ (List.mem_of_getElem? (i := 77) rfl))) (mvT hZ (hw _ (List.mem_of_getElem? (i := 76) rfl))) (by decide) (backOf (W := 0) (own_rmap l Z a0 hw [] b26 ((own_cs p1 p2) 1) b2_56 ((0 : Int32) + (1 : Int32)) z2_56 f2_56 (0 + 1) T56.heap n0 Z56 f58 fq56_0 fq56_1 fq56_2 ge26 ge56 (Ne.symm ne60) (own_inc own_i0 (by omega)) (by omega) (by omega) (by omega)) hZ (hw _ (List.mem_of_getElem? (i := 78) rfl)) (hw _ (List.mem_of_getElem? (i := 3) rfl)) (by decide) (by decide)) q64a q64c (g := (mkF m 79 #[.val (.int p1), .val (.int p2), .val (.int p3), .val (.ref b2), .val (.int (own_cap p3)), .val (.int (2 : Int32)), .val (.ref b26), .unset, .unset, .unset, .unset, .unset] [(.int ((own_cs p1 p2) 1)), (.ref b26)])) rfl (by rw [hml]; rfl) (Steps.refl _) (argsL := [(.int ((own_cs p1 p2) 1))]) (rest := []) (lenOf own_pd22 rfl) rfl (by show 2 * 0 + _ ≤ _; exact Nat.le_of_eq rfl) (hb hby at_79) (fun _ _ => ⟨rfl, rfl, (by decide : 4 + 1 ≤ _), (by decide : 22 + 8 ≤ _)⟩)
      dsimp only [Pt.U, Pt.locs, Pt.cells, Pt.slots] at X64 l64 y64 z64 st64 hQ64
      subst l64 y64 z64
      obtain ⟨b2_64, z2_64, f2_64, rfl, N64q, Kq64, fq64_0, fq64_1, fq64_2, hq64_hb2, hq64_hz2, hq64_hf2⟩ := hQ64
      have N64 := Fr.app N56 N64q
      have f65 := f57.keep Kq64 (List.not_mem_cons_of_ne_of_not_mem ne27 (List.not_mem_cons_of_ne_of_not_mem ne59 List.not_mem_nil))
      have f66 := f58.keep Kq64
      have Z64 : n0 ≤ T64.heap.size := Nat.le_trans Z56 Kq64.1
      have K64 : Keep h0 T64.heap [] := K56.trans Kq64 (fun x hx => by rcases List.mem_cons.mp hx with rfl | hx; exact Or.inr bo26; rcases List.mem_cons.mp hx with rfl | hx; exact Or.inr bo56; exact nomatch hx)
      have Xo64 := Xo56.keep Kq64 (allS ge26 (allS ge56 all0))
      have hz64 := hq64_hz2.1; have hy64 := hq64_hz2.2
      have ge64 : n0 ≤ b2_64 := by rcases hq64_hb2 with q | q; (rw [q]; exact ge56); exact Nat.le_trans Z56 q
      have bo64 : h0.size ≤ b2_64 := by rcases hq64_hb2 with q | q; (rw [q]; exact bo56); exact Nat.le_trans K56.1 q
      have ne67 : b2 ≠ b2_64 := by rcases hq64_hb2 with q | q; (rw [q]; exact ne59); exact Nat.ne_of_lt (Nat.lt_of_lt_of_le f57.lt q)
      have ne68 : b26 ≠ b2_64 := by rcases hq64_hb2 with q | q; (rw [q]; exact ne60); exact Nat.ne_of_lt (Nat.lt_of_lt_of_le f58.lt q)
      have k69 : ∀ t, Steps p.tables e below (T64.setTop (mkF m 82 #[.val (.int p1), .val (.int p2), .val (.int p3), .val (.ref b2), .val (.int (own_cap p3)), .val (.int (2 : Int32)), .val (.ref b26), .unset, .unset, .unset, .unset, .unset] [(.ref b26)])) t → Steps p.tables e below (s₁.setTop (entryFrame m #[(.int p1), (.int p2), (.int p3)] maxLocals)) t := fun t k => k63 t (st64.trans k)
      have hc70 : ∀ i, i < 2 → f2_64 i = (own_cs p1 p2) i := own_app (k := 1) (c := (own_cs p1 p2)) hc62 hq64_hf2 (own_csn p1 p2 1)
      have k71 : ∀ t, Steps p.tables e below (T64.setTop (mkF m 113 #[.val (.int p1), .val (.int p2), .val (.int p3), .val (.ref b2), .val (.int (own_cap p3)), .val (.int (2 : Int32)), .val (.ref b26), .unset, .unset, .unset, .unset, .unset] [])) t → Steps p.tables e below (s₁.setTop (entryFrame m #[(.int p1), (.int p2), (.int p3)] maxLocals)) t := by
        intro t k
        refine k69 t ?_
        show Steps p.tables e below (T64.setTop (mkF m 82 #[.val (.int p1), .val (.int p2), .val (.int p3), .val (.ref b2), .val (.int (own_cap p3)), .val (.int (2 : Int32)), .val (.ref b26), .unset, .unset, .unset, .unset, .unset] [(.ref b26)])) _
        refine XS.pop X64.here hx rfl (hb hby at_82) rfl rfl ?_
        show Steps p.tables e below (T64.setTop (mkF m 83 #[.val (.int p1), .val (.int p2), .val (.int p3), .val (.ref b2), .val (.int (own_cap p3)), .val (.int (2 : Int32)), .val (.ref b26), .unset, .unset, .unset, .unset, .unset] [])) _
        refine XS.iload X64.here hx rfl (hb hby at_83) rfl ?_
        show Steps p.tables e below (T64.setTop (mkF m 85 #[.val (.int p1), .val (.int p2), .val (.int p3), .val (.ref b2), .val (.int (own_cap p3)), .val (.int (2 : Int32)), .val (.ref b26), .unset, .unset, .unset, .unset, .unset] [(.int (2 : Int32))])) _
        refine XS.iconst X64.here hx rfl (hb hby at_85) ?_
        show Steps p.tables e below (T64.setTop (mkF m 86 #[.val (.int p1), .val (.int p2), .val (.int p3), .val (.ref b2), .val (.int (own_cap p3)), .val (.int (2 : Int32)), .val (.ref b26), .unset, .unset, .unset, .unset, .unset] [(.int (2 : Int32)), (.int (2 : Int32))])) _
        refine XS.icmpYes X64.here hx rfl (pc0 := 86) (pc' := 98) rfl (hb hby at_86) rfl (flt (Int32.lt_irrefl : ¬ ((2 : Int32) < (2 : Int32)))).2.2.2 (by decide) (by decide) ?_
        show Steps p.tables e below (T64.setTop (mkF m 98 #[.val (.int p1), .val (.int p2), .val (.int p3), .val (.ref b2), .val (.int (own_cap p3)), .val (.int (2 : Int32)), .val (.ref b26), .unset, .unset, .unset, .unset, .unset] [])) _
        refine XS.iload X64.here hx rfl (hb hby at_98) rfl ?_
        show Steps p.tables e below (T64.setTop (mkF m 100 #[.val (.int p1), .val (.int p2), .val (.int p3), .val (.ref b2), .val (.int (own_cap p3)), .val (.int (2 : Int32)), .val (.ref b26), .unset, .unset, .unset, .unset, .unset] [(.int (2 : Int32))])) _
        refine XS.iconst X64.here hx rfl (hb hby at_100) ?_
        show Steps p.tables e below (T64.setTop (mkF m 101 #[.val (.int p1), .val (.int p2), .val (.int p3), .val (.ref b2), .val (.int (own_cap p3)), .val (.int (2 : Int32)), .val (.ref b26), .unset, .unset, .unset, .unset, .unset] [(.int (3 : Int32)), (.int (2 : Int32))])) _
        refine XS.icmpYes X64.here hx rfl (pc0 := 101) (pc' := 113) rfl (hb hby at_101) rfl (flt (by decide : ¬ ((3 : Int32) < (2 : Int32)))).2.2.2 (by decide) (by decide) ?_
        exact k
      subst hqi
      exact ⟨_, _, _, b2_64, z2_64, f2_64, _, (X64.more (by decide) (by decide)), rfl, N64, K64, Z64, Xo64, f66, fq64_0, fq64_1, fq64_2, f65, ge64, bo64, ne68, ne67, by omega, by omega, hc70, fun t k => k71 t (by rw [he] at k; exact k)⟩
    · have hqi : nq = 3 := by rw [he] at hnq; have e : (3 : Int32).toInt = 3 := rfl; omega
      have k72 : ∀ t, Steps p.tables e below (T33.setTop (mkF m 54 #[.val (.int p1), .val (.int p2), .val (.int p3), .val (.ref b2), .val (.int (own_cap p3)), .val (.int (3 : Int32)), .val (.ref b26), .unset, .unset, .unset, .unset, .unset] [])) t → Steps p.tables e below (s₁.setTop (entryFrame m #[(.int p1), (.int p2), (.int p3)] maxLocals)) t := by have z := k40; rw [he] at z; exact z
      have k73 : ∀ t, Steps p.tables e below (T33.setTop (mkF m 64 #[.val (.int p1), .val (.int p2), .val (.int p3), .val (.ref b2), .val (.int (own_cap p3)), .val (.int (3 : Int32)), .val (.ref b26), .unset, .unset, .unset, .unset, .unset] [(.int ((own_cs p1 p2) 0)), (.ref b26)])) t → Steps p.tables e below (s₁.setTop (entryFrame m #[(.int p1), (.int p2), (.int p3)] maxLocals)) t := by
        intro t k
        refine k72 t ?_
        show Steps p.tables e below (T33.setTop (mkF m 54 #[.val (.int p1), .val (.int p2), .val (.int p3), .val (.ref b2), .val (.int (own_cap p3)), .val (.int (3 : Int32)), .val (.ref b26), .unset, .unset, .unset, .unset, .unset] [])) _
        refine XS.iload X33.here hx rfl (hb hby at_54) rfl ?_
        show Steps p.tables e below (T33.setTop (mkF m 56 #[.val (.int p1), .val (.int p2), .val (.int p3), .val (.ref b2), .val (.int (own_cap p3)), .val (.int (3 : Int32)), .val (.ref b26), .unset, .unset, .unset, .unset, .unset] [(.int (3 : Int32))])) _
        refine XS.ifNo X33.here hx rfl (hb hby at_56) rfl ((if0 _ _).trans (tlt (by decide : (0 : Int32) < (3 : Int32))).2.2.2) ?_
        show Steps p.tables e below (T33.setTop (mkF m 59 #[.val (.int p1), .val (.int p2), .val (.int p3), .val (.ref b2), .val (.int (own_cap p3)), .val (.int (3 : Int32)), .val (.ref b26), .unset, .unset, .unset, .unset, .unset] [])) _
        refine XS.aload X33.here hx rfl (hb hby at_59) rfl rfl ?_
        show Steps p.tables e below (T33.setTop (mkF m 61 #[.val (.int p1), .val (.int p2), .val (.int p3), .val (.ref b2), .val (.int (own_cap p3)), .val (.int (3 : Int32)), .val (.ref b26), .unset, .unset, .unset, .unset, .unset] [(.ref b26)])) _
        refine XS.aloadN X33.here hx rfl (hb hby at_61) rfl rfl ?_
        show Steps p.tables e below (T33.setTop (mkF m 62 #[.val (.int p1), .val (.int p2), .val (.int p3), .val (.ref b2), .val (.int (own_cap p3)), .val (.int (3 : Int32)), .val (.ref b26), .unset, .unset, .unset, .unset, .unset] [(.ref b2), (.ref b26)])) _
        refine XS.iconst X33.here hx rfl (hb hby at_62) ?_
        show Steps p.tables e below (T33.setTop (mkF m 63 #[.val (.int p1), .val (.int p2), .val (.int p3), .val (.ref b2), .val (.int (own_cap p3)), .val (.int (3 : Int32)), .val (.ref b26), .unset, .unset, .unset, .unset, .unset] [(.int (0 : Int32)), (.ref b2), (.ref b26)])) _
        refine own_ldC X33 hx hZ rfl f36 (j := (0 : Int32)) own_i0 (by omega) (g := (mkF m 63 #[.val (.int p1), .val (.int p2), .val (.int p3), .val (.ref b2), .val (.int (own_cap p3)), .val (.int (3 : Int32)), .val (.ref b26), .unset, .unset, .unset, .unset, .unset] [(.int (0 : Int32)), (.ref b2), (.ref b26)])) rfl rfl (hb hby at_63) ?_
        exact k
      obtain ⟨cq74, kq74, q74a, q74b, q74c⟩ := isOf hZ rfl f37
      obtain ⟨_, _, ⟨T74, L74, k74c, n74⟩, -, X74, ⟨Lc74, hQ74, l74, y74, z74⟩, st74⟩ := X33.virtualBack hx (y := (⟨"com/example/cureline/cureline/io/TextBuffer", "append", "(C)Lcom/example/cureline/cureline/io/TextBuffer;"⟩ : MethodName)) (z := (⟨"com/example/cureline/cureline/io/TextBuffer", "append", "(C)Lcom/example/cureline/cureline/io/TextBuffer;"⟩ : MethodName)) hown (mvT hZ (hw _ (List.mem_of_getElem? (i := 74) rfl))) (mvT hZ (hw _ (List.mem_of_getElem? (i := 75) rfl))) (notFace_of_selects (args := #[]) (mvT hZ (hw _ (List.mem_of_getElem? (i := 77) rfl)))) (mvT hZ (hw _ (List.mem_of_getElem? (i := 77) rfl))) (mvT hZ (hw _ (List.mem_of_getElem? (i := 76) rfl))) (by decide) (backOf (W := 0) (own_rmap l Z a0 hw [] b26 ((own_cs p1 p2) 0) rb_33 (0 : Int32) zz own_zero 0 T33.heap n0 Z33 f37 fq33_0 fq33_1 fq33_2 ge26 ge33_b (Ne.symm ne35) own_i0 (by omega) (by omega) (by omega)) hZ (hw _ (List.mem_of_getElem? (i := 78) rfl)) (hw _ (List.mem_of_getElem? (i := 3) rfl)) (by decide) (by decide)) q74a q74c (g := (mkF m 64 #[.val (.int p1), .val (.int p2), .val (.int p3), .val (.ref b2), .val (.int (own_cap p3)), .val (.int (3 : Int32)), .val (.ref b26), .unset, .unset, .unset, .unset, .unset] [(.int ((own_cs p1 p2) 0)), (.ref b26)])) rfl (by rw [hml]; rfl) (Steps.refl _) (argsL := [(.int ((own_cs p1 p2) 0))]) (rest := []) (lenOf own_pd22 rfl) rfl (by show 2 * 0 + _ ≤ _; exact Nat.le_of_eq rfl) (hb hby at_64) (fun _ _ => ⟨rfl, rfl, (by decide : 3 + 1 ≤ _), (by decide : 14 + 8 ≤ _)⟩)
      dsimp only [Pt.U, Pt.locs, Pt.cells, Pt.slots] at X74 l74 y74 z74 st74 hQ74
      subst l74 y74 z74
      obtain ⟨b2_74, z2_74, f2_74, rfl, N74q, Kq74, fq74_0, fq74_1, fq74_2, hq74_hb2, hq74_hz2, hq74_hf2⟩ := hQ74
      have N74 := Fr.app N33 N74q
      have f75 := f36.keep Kq74 (List.not_mem_cons_of_ne_of_not_mem ne27 (List.not_mem_cons_of_ne_of_not_mem ne34 List.not_mem_nil))
      have f76 := f37.keep Kq74
      have Z74 : n0 ≤ T74.heap.size := Nat.le_trans Z33 Kq74.1
      have K74 : Keep h0 T74.heap [] := K33.trans Kq74 (fun x hx => by rcases List.mem_cons.mp hx with rfl | hx; exact Or.inr bo26; rcases List.mem_cons.mp hx with rfl | hx; exact Or.inr bo33_b; exact nomatch hx)
      have Xo74 := Xo33.keep Kq74 (allS ge26 (allS ge33_b all0))
      have hz74 := hq74_hz2.1; have hy74 := hq74_hz2.2
      have ge74 : n0 ≤ b2_74 := by rcases hq74_hb2 with q | q; (rw [q]; exact ge33_b); exact Nat.le_trans Z33 q
      have bo74 : h0.size ≤ b2_74 := by rcases hq74_hb2 with q | q; (rw [q]; exact bo33_b); exact Nat.le_trans K33.1 q
      have ne77 : b2 ≠ b2_74 := by rcases hq74_hb2 with q | q; (rw [q]; exact ne34); exact Nat.ne_of_lt (Nat.lt_of_lt_of_le f36.lt q)
      have ne78 : b26 ≠ b2_74 := by rcases hq74_hb2 with q | q; (rw [q]; exact ne35); exact Nat.ne_of_lt (Nat.lt_of_lt_of_le f37.lt q)
      have k79 : ∀ t, Steps p.tables e below (T74.setTop (mkF m 67 #[.val (.int p1), .val (.int p2), .val (.int p3), .val (.ref b2), .val (.int (own_cap p3)), .val (.int (3 : Int32)), .val (.ref b26), .unset, .unset, .unset, .unset, .unset] [(.ref b26)])) t → Steps p.tables e below (s₁.setTop (entryFrame m #[(.int p1), (.int p2), (.int p3)] maxLocals)) t := fun t k => k73 t (st74.trans k)
      have hc80 : ∀ i, i < 1 → f2_74 i = (own_cs p1 p2) i := own_app (k := 0) (c := (own_cs p1 p2)) (fun i hi => absurd hi (Nat.not_lt_zero i)) hq74_hf2 (own_csn p1 p2 0)
      have k81 : ∀ t, Steps p.tables e below (T74.setTop (mkF m 79 #[.val (.int p1), .val (.int p2), .val (.int p3), .val (.ref b2), .val (.int (own_cap p3)), .val (.int (3 : Int32)), .val (.ref b26), .unset, .unset, .unset, .unset, .unset] [(.int ((own_cs p1 p2) 1)), (.ref b26)])) t → Steps p.tables e below (s₁.setTop (entryFrame m #[(.int p1), (.int p2), (.int p3)] maxLocals)) t := by
        intro t k
        refine k79 t ?_
        show Steps p.tables e below (T74.setTop (mkF m 67 #[.val (.int p1), .val (.int p2), .val (.int p3), .val (.ref b2), .val (.int (own_cap p3)), .val (.int (3 : Int32)), .val (.ref b26), .unset, .unset, .unset, .unset, .unset] [(.ref b26)])) _
        refine XS.pop X74.here hx rfl (hb hby at_67) rfl rfl ?_
        show Steps p.tables e below (T74.setTop (mkF m 68 #[.val (.int p1), .val (.int p2), .val (.int p3), .val (.ref b2), .val (.int (own_cap p3)), .val (.int (3 : Int32)), .val (.ref b26), .unset, .unset, .unset, .unset, .unset] [])) _
        refine XS.iload X74.here hx rfl (hb hby at_68) rfl ?_
        show Steps p.tables e below (T74.setTop (mkF m 70 #[.val (.int p1), .val (.int p2), .val (.int p3), .val (.ref b2), .val (.int (own_cap p3)), .val (.int (3 : Int32)), .val (.ref b26), .unset, .unset, .unset, .unset, .unset] [(.int (3 : Int32))])) _
        refine XS.iconst X74.here hx rfl (hb hby at_70) ?_
        show Steps p.tables e below (T74.setTop (mkF m 71 #[.val (.int p1), .val (.int p2), .val (.int p3), .val (.ref b2), .val (.int (own_cap p3)), .val (.int (3 : Int32)), .val (.ref b26), .unset, .unset, .unset, .unset, .unset] [(.int (1 : Int32)), (.int (3 : Int32))])) _
        refine XS.icmpNo X74.here hx rfl (hb hby at_71) rfl (tlt (by decide : (1 : Int32) < (3 : Int32))).2.2.2 ?_
        show Steps p.tables e below (T74.setTop (mkF m 74 #[.val (.int p1), .val (.int p2), .val (.int p3), .val (.ref b2), .val (.int (own_cap p3)), .val (.int (3 : Int32)), .val (.ref b26), .unset, .unset, .unset, .unset, .unset] [])) _
        refine XS.aload X74.here hx rfl (hb hby at_74) rfl rfl ?_
        show Steps p.tables e below (T74.setTop (mkF m 76 #[.val (.int p1), .val (.int p2), .val (.int p3), .val (.ref b2), .val (.int (own_cap p3)), .val (.int (3 : Int32)), .val (.ref b26), .unset, .unset, .unset, .unset, .unset] [(.ref b26)])) _
        refine XS.aloadN X74.here hx rfl (hb hby at_76) rfl rfl ?_
        show Steps p.tables e below (T74.setTop (mkF m 77 #[.val (.int p1), .val (.int p2), .val (.int p3), .val (.ref b2), .val (.int (own_cap p3)), .val (.int (3 : Int32)), .val (.ref b26), .unset, .unset, .unset, .unset, .unset] [(.ref b2), (.ref b26)])) _
        refine XS.iconst X74.here hx rfl (hb hby at_77) ?_
        show Steps p.tables e below (T74.setTop (mkF m 78 #[.val (.int p1), .val (.int p2), .val (.int p3), .val (.ref b2), .val (.int (own_cap p3)), .val (.int (3 : Int32)), .val (.ref b26), .unset, .unset, .unset, .unset, .unset] [(.int (1 : Int32)), (.ref b2), (.ref b26)])) _
        refine own_ldC X74 hx hZ rfl f75 (j := (1 : Int32)) own_i1 (by omega) (g := (mkF m 78 #[.val (.int p1), .val (.int p2), .val (.int p3), .val (.ref b2), .val (.int (own_cap p3)), .val (.int (3 : Int32)), .val (.ref b26), .unset, .unset, .unset, .unset, .unset] [(.int (1 : Int32)), (.ref b2), (.ref b26)])) rfl rfl (hb hby at_78) ?_
        exact k
      obtain ⟨cq82, kq82, q82a, q82b, q82c⟩ := isOf hZ rfl f76
      obtain ⟨_, _, ⟨T82, L82, k82c, n82⟩, -, X82, ⟨Lc82, hQ82, l82, y82, z82⟩, st82⟩ := X74.virtualBack hx (y := (⟨"com/example/cureline/cureline/io/TextBuffer", "append", "(C)Lcom/example/cureline/cureline/io/TextBuffer;"⟩ : MethodName)) (z := (⟨"com/example/cureline/cureline/io/TextBuffer", "append", "(C)Lcom/example/cureline/cureline/io/TextBuffer;"⟩ : MethodName)) hown (mvT hZ (hw _ (List.mem_of_getElem? (i := 74) rfl))) (mvT hZ (hw _ (List.mem_of_getElem? (i := 75) rfl))) (notFace_of_selects (args := #[]) (mvT hZ (hw _ (List.mem_of_getElem? (i := 77) rfl)))) (mvT hZ (hw _ (List.mem_of_getElem? (i := 77) rfl))) (mvT hZ (hw _ (List.mem_of_getElem? (i := 76) rfl))) (by decide) (backOf (W := 0) (own_rmap l Z a0 hw [] b26 ((own_cs p1 p2) 1) b2_74 ((0 : Int32) + (1 : Int32)) z2_74 f2_74 (0 + 1) T74.heap n0 Z74 f76 fq74_0 fq74_1 fq74_2 ge26 ge74 (Ne.symm ne78) (own_inc own_i0 (by omega)) (by omega) (by omega) (by omega)) hZ (hw _ (List.mem_of_getElem? (i := 78) rfl)) (hw _ (List.mem_of_getElem? (i := 3) rfl)) (by decide) (by decide)) q82a q82c (g := (mkF m 79 #[.val (.int p1), .val (.int p2), .val (.int p3), .val (.ref b2), .val (.int (own_cap p3)), .val (.int (3 : Int32)), .val (.ref b26), .unset, .unset, .unset, .unset, .unset] [(.int ((own_cs p1 p2) 1)), (.ref b26)])) rfl (by rw [hml]; rfl) (Steps.refl _) (argsL := [(.int ((own_cs p1 p2) 1))]) (rest := []) (lenOf own_pd22 rfl) rfl (by show 2 * 0 + _ ≤ _; exact Nat.le_of_eq rfl) (hb hby at_79) (fun _ _ => ⟨rfl, rfl, (by decide : 4 + 1 ≤ _), (by decide : 22 + 8 ≤ _)⟩)
      dsimp only [Pt.U, Pt.locs, Pt.cells, Pt.slots] at X82 l82 y82 z82 st82 hQ82
      subst l82 y82 z82
      obtain ⟨b2_82, z2_82, f2_82, rfl, N82q, Kq82, fq82_0, fq82_1, fq82_2, hq82_hb2, hq82_hz2, hq82_hf2⟩ := hQ82
      have N82 := Fr.app N74 N82q
      have f83 := f75.keep Kq82 (List.not_mem_cons_of_ne_of_not_mem ne27 (List.not_mem_cons_of_ne_of_not_mem ne77 List.not_mem_nil))
      have f84 := f76.keep Kq82
      have Z82 : n0 ≤ T82.heap.size := Nat.le_trans Z74 Kq82.1
      have K82 : Keep h0 T82.heap [] := K74.trans Kq82 (fun x hx => by rcases List.mem_cons.mp hx with rfl | hx; exact Or.inr bo26; rcases List.mem_cons.mp hx with rfl | hx; exact Or.inr bo74; exact nomatch hx)
      have Xo82 := Xo74.keep Kq82 (allS ge26 (allS ge74 all0))
      have hz82 := hq82_hz2.1; have hy82 := hq82_hz2.2
      have ge82 : n0 ≤ b2_82 := by rcases hq82_hb2 with q | q; (rw [q]; exact ge74); exact Nat.le_trans Z74 q
      have bo82 : h0.size ≤ b2_82 := by rcases hq82_hb2 with q | q; (rw [q]; exact bo74); exact Nat.le_trans K74.1 q
      have ne85 : b2 ≠ b2_82 := by rcases hq82_hb2 with q | q; (rw [q]; exact ne77); exact Nat.ne_of_lt (Nat.lt_of_lt_of_le f75.lt q)
      have ne86 : b26 ≠ b2_82 := by rcases hq82_hb2 with q | q; (rw [q]; exact ne78); exact Nat.ne_of_lt (Nat.lt_of_lt_of_le f76.lt q)
      have k87 : ∀ t, Steps p.tables e below (T82.setTop (mkF m 82 #[.val (.int p1), .val (.int p2), .val (.int p3), .val (.ref b2), .val (.int (own_cap p3)), .val (.int (3 : Int32)), .val (.ref b26), .unset, .unset, .unset, .unset, .unset] [(.ref b26)])) t → Steps p.tables e below (s₁.setTop (entryFrame m #[(.int p1), (.int p2), (.int p3)] maxLocals)) t := fun t k => k81 t (st82.trans k)
      have hc88 : ∀ i, i < 2 → f2_82 i = (own_cs p1 p2) i := own_app (k := 1) (c := (own_cs p1 p2)) hc80 hq82_hf2 (own_csn p1 p2 1)
      have k89 : ∀ t, Steps p.tables e below (T82.setTop (mkF m 94 #[.val (.int p1), .val (.int p2), .val (.int p3), .val (.ref b2), .val (.int (own_cap p3)), .val (.int (3 : Int32)), .val (.ref b26), .unset, .unset, .unset, .unset, .unset] [(.int ((own_cs p1 p2) 2)), (.ref b26)])) t → Steps p.tables e below (s₁.setTop (entryFrame m #[(.int p1), (.int p2), (.int p3)] maxLocals)) t := by
        intro t k
        refine k87 t ?_
        show Steps p.tables e below (T82.setTop (mkF m 82 #[.val (.int p1), .val (.int p2), .val (.int p3), .val (.ref b2), .val (.int (own_cap p3)), .val (.int (3 : Int32)), .val (.ref b26), .unset, .unset, .unset, .unset, .unset] [(.ref b26)])) _
        refine XS.pop X82.here hx rfl (hb hby at_82) rfl rfl ?_
        show Steps p.tables e below (T82.setTop (mkF m 83 #[.val (.int p1), .val (.int p2), .val (.int p3), .val (.ref b2), .val (.int (own_cap p3)), .val (.int (3 : Int32)), .val (.ref b26), .unset, .unset, .unset, .unset, .unset] [])) _
        refine XS.iload X82.here hx rfl (hb hby at_83) rfl ?_
        show Steps p.tables e below (T82.setTop (mkF m 85 #[.val (.int p1), .val (.int p2), .val (.int p3), .val (.ref b2), .val (.int (own_cap p3)), .val (.int (3 : Int32)), .val (.ref b26), .unset, .unset, .unset, .unset, .unset] [(.int (3 : Int32))])) _
        refine XS.iconst X82.here hx rfl (hb hby at_85) ?_
        show Steps p.tables e below (T82.setTop (mkF m 86 #[.val (.int p1), .val (.int p2), .val (.int p3), .val (.ref b2), .val (.int (own_cap p3)), .val (.int (3 : Int32)), .val (.ref b26), .unset, .unset, .unset, .unset, .unset] [(.int (2 : Int32)), (.int (3 : Int32))])) _
        refine XS.icmpNo X82.here hx rfl (hb hby at_86) rfl (tlt (by decide : (2 : Int32) < (3 : Int32))).2.2.2 ?_
        show Steps p.tables e below (T82.setTop (mkF m 89 #[.val (.int p1), .val (.int p2), .val (.int p3), .val (.ref b2), .val (.int (own_cap p3)), .val (.int (3 : Int32)), .val (.ref b26), .unset, .unset, .unset, .unset, .unset] [])) _
        refine XS.aload X82.here hx rfl (hb hby at_89) rfl rfl ?_
        show Steps p.tables e below (T82.setTop (mkF m 91 #[.val (.int p1), .val (.int p2), .val (.int p3), .val (.ref b2), .val (.int (own_cap p3)), .val (.int (3 : Int32)), .val (.ref b26), .unset, .unset, .unset, .unset, .unset] [(.ref b26)])) _
        refine XS.aloadN X82.here hx rfl (hb hby at_91) rfl rfl ?_
        show Steps p.tables e below (T82.setTop (mkF m 92 #[.val (.int p1), .val (.int p2), .val (.int p3), .val (.ref b2), .val (.int (own_cap p3)), .val (.int (3 : Int32)), .val (.ref b26), .unset, .unset, .unset, .unset, .unset] [(.ref b2), (.ref b26)])) _
        refine XS.iconst X82.here hx rfl (hb hby at_92) ?_
        show Steps p.tables e below (T82.setTop (mkF m 93 #[.val (.int p1), .val (.int p2), .val (.int p3), .val (.ref b2), .val (.int (own_cap p3)), .val (.int (3 : Int32)), .val (.ref b26), .unset, .unset, .unset, .unset, .unset] [(.int (2 : Int32)), (.ref b2), (.ref b26)])) _
        refine own_ldC X82 hx hZ rfl f83 (j := (2 : Int32)) own_i2 (by omega) (g := (mkF m 93 #[.val (.int p1), .val (.int p2), .val (.int p3), .val (.ref b2), .val (.int (own_cap p3)), .val (.int (3 : Int32)), .val (.ref b26), .unset, .unset, .unset, .unset, .unset] [(.int (2 : Int32)), (.ref b2), (.ref b26)])) rfl rfl (hb hby at_93) ?_
        exact k
      obtain ⟨cq90, kq90, q90a, q90b, q90c⟩ := isOf hZ rfl f84
      obtain ⟨_, _, ⟨T90, L90, k90c, n90⟩, -, X90, ⟨Lc90, hQ90, l90, y90, z90⟩, st90⟩ := X82.virtualBack hx (y := (⟨"com/example/cureline/cureline/io/TextBuffer", "append", "(C)Lcom/example/cureline/cureline/io/TextBuffer;"⟩ : MethodName)) (z := (⟨"com/example/cureline/cureline/io/TextBuffer", "append", "(C)Lcom/example/cureline/cureline/io/TextBuffer;"⟩ : MethodName)) hown (mvT hZ (hw _ (List.mem_of_getElem? (i := 74) rfl))) (mvT hZ (hw _ (List.mem_of_getElem? (i := 75) rfl))) (notFace_of_selects (args := #[]) (mvT hZ (hw _ (List.mem_of_getElem? (i := 77) rfl)))) (mvT hZ (hw _ (List.mem_of_getElem? (i := 77) rfl))) (mvT hZ (hw _ (List.mem_of_getElem? (i := 76) rfl))) (by decide) (backOf (W := 0) (own_rmap l Z a0 hw [] b26 ((own_cs p1 p2) 2) b2_82 (((0 : Int32) + (1 : Int32)) + (1 : Int32)) z2_82 f2_82 ((0 + 1) + 1) T82.heap n0 Z82 f84 fq82_0 fq82_1 fq82_2 ge26 ge82 (Ne.symm ne86) (own_inc (own_inc own_i0 (by omega)) (by omega)) (by omega) (by omega) (by omega)) hZ (hw _ (List.mem_of_getElem? (i := 78) rfl)) (hw _ (List.mem_of_getElem? (i := 3) rfl)) (by decide) (by decide)) q90a q90c (g := (mkF m 94 #[.val (.int p1), .val (.int p2), .val (.int p3), .val (.ref b2), .val (.int (own_cap p3)), .val (.int (3 : Int32)), .val (.ref b26), .unset, .unset, .unset, .unset, .unset] [(.int ((own_cs p1 p2) 2)), (.ref b26)])) rfl (by rw [hml]; rfl) (Steps.refl _) (argsL := [(.int ((own_cs p1 p2) 2))]) (rest := []) (lenOf own_pd22 rfl) rfl (by show 2 * 0 + _ ≤ _; exact Nat.le_of_eq rfl) (hb hby at_94) (fun _ _ => ⟨rfl, rfl, (by decide : 5 + 1 ≤ _), (by decide : 30 + 8 ≤ _)⟩)
      dsimp only [Pt.U, Pt.locs, Pt.cells, Pt.slots] at X90 l90 y90 z90 st90 hQ90
      subst l90 y90 z90
      obtain ⟨b2_90, z2_90, f2_90, rfl, N90q, Kq90, fq90_0, fq90_1, fq90_2, hq90_hb2, hq90_hz2, hq90_hf2⟩ := hQ90
      have N90 := Fr.app N82 N90q
      have f91 := f83.keep Kq90 (List.not_mem_cons_of_ne_of_not_mem ne27 (List.not_mem_cons_of_ne_of_not_mem ne85 List.not_mem_nil))
      have f92 := f84.keep Kq90
      have Z90 : n0 ≤ T90.heap.size := Nat.le_trans Z82 Kq90.1
      have K90 : Keep h0 T90.heap [] := K82.trans Kq90 (fun x hx => by rcases List.mem_cons.mp hx with rfl | hx; exact Or.inr bo26; rcases List.mem_cons.mp hx with rfl | hx; exact Or.inr bo82; exact nomatch hx)
      have Xo90 := Xo82.keep Kq90 (allS ge26 (allS ge82 all0))
      have hz90 := hq90_hz2.1; have hy90 := hq90_hz2.2
      have ge90 : n0 ≤ b2_90 := by rcases hq90_hb2 with q | q; (rw [q]; exact ge82); exact Nat.le_trans Z82 q
      have bo90 : h0.size ≤ b2_90 := by rcases hq90_hb2 with q | q; (rw [q]; exact bo82); exact Nat.le_trans K82.1 q
      have ne93 : b2 ≠ b2_90 := by rcases hq90_hb2 with q | q; (rw [q]; exact ne85); exact Nat.ne_of_lt (Nat.lt_of_lt_of_le f83.lt q)
      have ne94 : b26 ≠ b2_90 := by rcases hq90_hb2 with q | q; (rw [q]; exact ne86); exact Nat.ne_of_lt (Nat.lt_of_lt_of_le f84.lt q)
      have k95 : ∀ t, Steps p.tables e below (T90.setTop (mkF m 97 #[.val (.int p1), .val (.int p2), .val (.int p3), .val (.ref b2), .val (.int (own_cap p3)), .val (.int (3 : Int32)), .val (.ref b26), .unset, .unset, .unset, .unset, .unset] [(.ref b26)])) t → Steps p.tables e below (s₁.setTop (entryFrame m #[(.int p1), (.int p2), (.int p3)] maxLocals)) t := fun t k => k89 t (st90.trans k)
      have hc96 : ∀ i, i < 3 → f2_90 i = (own_cs p1 p2) i := own_app (k := 2) (c := (own_cs p1 p2)) hc88 hq90_hf2 (own_csn p1 p2 2)
      have k97 : ∀ t, Steps p.tables e below (T90.setTop (mkF m 113 #[.val (.int p1), .val (.int p2), .val (.int p3), .val (.ref b2), .val (.int (own_cap p3)), .val (.int (3 : Int32)), .val (.ref b26), .unset, .unset, .unset, .unset, .unset] [])) t → Steps p.tables e below (s₁.setTop (entryFrame m #[(.int p1), (.int p2), (.int p3)] maxLocals)) t := by
        intro t k
        refine k95 t ?_
        show Steps p.tables e below (T90.setTop (mkF m 97 #[.val (.int p1), .val (.int p2), .val (.int p3), .val (.ref b2), .val (.int (own_cap p3)), .val (.int (3 : Int32)), .val (.ref b26), .unset, .unset, .unset, .unset, .unset] [(.ref b26)])) _
        refine XS.pop X90.here hx rfl (hb hby at_97) rfl rfl ?_
        show Steps p.tables e below (T90.setTop (mkF m 98 #[.val (.int p1), .val (.int p2), .val (.int p3), .val (.ref b2), .val (.int (own_cap p3)), .val (.int (3 : Int32)), .val (.ref b26), .unset, .unset, .unset, .unset, .unset] [])) _
        refine XS.iload X90.here hx rfl (hb hby at_98) rfl ?_
        show Steps p.tables e below (T90.setTop (mkF m 100 #[.val (.int p1), .val (.int p2), .val (.int p3), .val (.ref b2), .val (.int (own_cap p3)), .val (.int (3 : Int32)), .val (.ref b26), .unset, .unset, .unset, .unset, .unset] [(.int (3 : Int32))])) _
        refine XS.iconst X90.here hx rfl (hb hby at_100) ?_
        show Steps p.tables e below (T90.setTop (mkF m 101 #[.val (.int p1), .val (.int p2), .val (.int p3), .val (.ref b2), .val (.int (own_cap p3)), .val (.int (3 : Int32)), .val (.ref b26), .unset, .unset, .unset, .unset, .unset] [(.int (3 : Int32)), (.int (3 : Int32))])) _
        refine XS.icmpYes X90.here hx rfl (pc0 := 101) (pc' := 113) rfl (hb hby at_101) rfl (flt (Int32.lt_irrefl : ¬ ((3 : Int32) < (3 : Int32)))).2.2.2 (by decide) (by decide) ?_
        exact k
      subst hqi
      exact ⟨_, _, _, b2_90, z2_90, f2_90, _, (X90.more (by decide) (by decide)), rfl, N90, K90, Z90, Xo90, f92, fq90_0, fq90_1, fq90_2, f91, ge90, bo90, ne94, ne93, by omega, by omega, hc96, fun t k => k97 t (by rw [he] at k; exact k)⟩
    · have hqi : nq = 4 := by rw [he] at hnq; have e : (4 : Int32).toInt = 4 := rfl; omega
      have k98 : ∀ t, Steps p.tables e below (T33.setTop (mkF m 54 #[.val (.int p1), .val (.int p2), .val (.int p3), .val (.ref b2), .val (.int (own_cap p3)), .val (.int (4 : Int32)), .val (.ref b26), .unset, .unset, .unset, .unset, .unset] [])) t → Steps p.tables e below (s₁.setTop (entryFrame m #[(.int p1), (.int p2), (.int p3)] maxLocals)) t := by have z := k40; rw [he] at z; exact z
      have k99 : ∀ t, Steps p.tables e below (T33.setTop (mkF m 64 #[.val (.int p1), .val (.int p2), .val (.int p3), .val (.ref b2), .val (.int (own_cap p3)), .val (.int (4 : Int32)), .val (.ref b26), .unset, .unset, .unset, .unset, .unset] [(.int ((own_cs p1 p2) 0)), (.ref b26)])) t → Steps p.tables e below (s₁.setTop (entryFrame m #[(.int p1), (.int p2), (.int p3)] maxLocals)) t := by
        intro t k
        refine k98 t ?_
        show Steps p.tables e below (T33.setTop (mkF m 54 #[.val (.int p1), .val (.int p2), .val (.int p3), .val (.ref b2), .val (.int (own_cap p3)), .val (.int (4 : Int32)), .val (.ref b26), .unset, .unset, .unset, .unset, .unset] [])) _
        refine XS.iload X33.here hx rfl (hb hby at_54) rfl ?_
        show Steps p.tables e below (T33.setTop (mkF m 56 #[.val (.int p1), .val (.int p2), .val (.int p3), .val (.ref b2), .val (.int (own_cap p3)), .val (.int (4 : Int32)), .val (.ref b26), .unset, .unset, .unset, .unset, .unset] [(.int (4 : Int32))])) _
        refine XS.ifNo X33.here hx rfl (hb hby at_56) rfl ((if0 _ _).trans (tlt (by decide : (0 : Int32) < (4 : Int32))).2.2.2) ?_
        show Steps p.tables e below (T33.setTop (mkF m 59 #[.val (.int p1), .val (.int p2), .val (.int p3), .val (.ref b2), .val (.int (own_cap p3)), .val (.int (4 : Int32)), .val (.ref b26), .unset, .unset, .unset, .unset, .unset] [])) _
        refine XS.aload X33.here hx rfl (hb hby at_59) rfl rfl ?_
        show Steps p.tables e below (T33.setTop (mkF m 61 #[.val (.int p1), .val (.int p2), .val (.int p3), .val (.ref b2), .val (.int (own_cap p3)), .val (.int (4 : Int32)), .val (.ref b26), .unset, .unset, .unset, .unset, .unset] [(.ref b26)])) _
        refine XS.aloadN X33.here hx rfl (hb hby at_61) rfl rfl ?_
        show Steps p.tables e below (T33.setTop (mkF m 62 #[.val (.int p1), .val (.int p2), .val (.int p3), .val (.ref b2), .val (.int (own_cap p3)), .val (.int (4 : Int32)), .val (.ref b26), .unset, .unset, .unset, .unset, .unset] [(.ref b2), (.ref b26)])) _
        refine XS.iconst X33.here hx rfl (hb hby at_62) ?_
        show Steps p.tables e below (T33.setTop (mkF m 63 #[.val (.int p1), .val (.int p2), .val (.int p3), .val (.ref b2), .val (.int (own_cap p3)), .val (.int (4 : Int32)), .val (.ref b26), .unset, .unset, .unset, .unset, .unset] [(.int (0 : Int32)), (.ref b2), (.ref b26)])) _
        refine own_ldC X33 hx hZ rfl f36 (j := (0 : Int32)) own_i0 (by omega) (g := (mkF m 63 #[.val (.int p1), .val (.int p2), .val (.int p3), .val (.ref b2), .val (.int (own_cap p3)), .val (.int (4 : Int32)), .val (.ref b26), .unset, .unset, .unset, .unset, .unset] [(.int (0 : Int32)), (.ref b2), (.ref b26)])) rfl rfl (hb hby at_63) ?_
        exact k
      obtain ⟨cq100, kq100, q100a, q100b, q100c⟩ := isOf hZ rfl f37
      obtain ⟨_, _, ⟨T100, L100, k100c, n100⟩, -, X100, ⟨Lc100, hQ100, l100, y100, z100⟩, st100⟩ := X33.virtualBack hx (y := (⟨"com/example/cureline/cureline/io/TextBuffer", "append", "(C)Lcom/example/cureline/cureline/io/TextBuffer;"⟩ : MethodName)) (z := (⟨"com/example/cureline/cureline/io/TextBuffer", "append", "(C)Lcom/example/cureline/cureline/io/TextBuffer;"⟩ : MethodName)) hown (mvT hZ (hw _ (List.mem_of_getElem? (i := 74) rfl))) (mvT hZ (hw _ (List.mem_of_getElem? (i := 75) rfl))) (notFace_of_selects (args := #[]) (mvT hZ (hw _ (List.mem_of_getElem? (i := 77) rfl)))) (mvT hZ (hw _ (List.mem_of_getElem? (i := 77) rfl))) (mvT hZ (hw _ (List.mem_of_getElem? (i := 76) rfl))) (by decide) (backOf (W := 0) (own_rmap l Z a0 hw [] b26 ((own_cs p1 p2) 0) rb_33 (0 : Int32) zz own_zero 0 T33.heap n0 Z33 f37 fq33_0 fq33_1 fq33_2 ge26 ge33_b (Ne.symm ne35) own_i0 (by omega) (by omega) (by omega)) hZ (hw _ (List.mem_of_getElem? (i := 78) rfl)) (hw _ (List.mem_of_getElem? (i := 3) rfl)) (by decide) (by decide)) q100a q100c (g := (mkF m 64 #[.val (.int p1), .val (.int p2), .val (.int p3), .val (.ref b2), .val (.int (own_cap p3)), .val (.int (4 : Int32)), .val (.ref b26), .unset, .unset, .unset, .unset, .unset] [(.int ((own_cs p1 p2) 0)), (.ref b26)])) rfl (by rw [hml]; rfl) (Steps.refl _) (argsL := [(.int ((own_cs p1 p2) 0))]) (rest := []) (lenOf own_pd22 rfl) rfl (by show 2 * 0 + _ ≤ _; exact Nat.le_of_eq rfl) (hb hby at_64) (fun _ _ => ⟨rfl, rfl, (by decide : 3 + 1 ≤ _), (by decide : 14 + 8 ≤ _)⟩)
      dsimp only [Pt.U, Pt.locs, Pt.cells, Pt.slots] at X100 l100 y100 z100 st100 hQ100
      subst l100 y100 z100
      obtain ⟨b2_100, z2_100, f2_100, rfl, N100q, Kq100, fq100_0, fq100_1, fq100_2, hq100_hb2, hq100_hz2, hq100_hf2⟩ := hQ100
      have N100 := Fr.app N33 N100q
      have f101 := f36.keep Kq100 (List.not_mem_cons_of_ne_of_not_mem ne27 (List.not_mem_cons_of_ne_of_not_mem ne34 List.not_mem_nil))
      have f102 := f37.keep Kq100
      have Z100 : n0 ≤ T100.heap.size := Nat.le_trans Z33 Kq100.1
      have K100 : Keep h0 T100.heap [] := K33.trans Kq100 (fun x hx => by rcases List.mem_cons.mp hx with rfl | hx; exact Or.inr bo26; rcases List.mem_cons.mp hx with rfl | hx; exact Or.inr bo33_b; exact nomatch hx)
      have Xo100 := Xo33.keep Kq100 (allS ge26 (allS ge33_b all0))
      have hz100 := hq100_hz2.1; have hy100 := hq100_hz2.2
      have ge100 : n0 ≤ b2_100 := by rcases hq100_hb2 with q | q; (rw [q]; exact ge33_b); exact Nat.le_trans Z33 q
      have bo100 : h0.size ≤ b2_100 := by rcases hq100_hb2 with q | q; (rw [q]; exact bo33_b); exact Nat.le_trans K33.1 q
      have ne103 : b2 ≠ b2_100 := by rcases hq100_hb2 with q | q; (rw [q]; exact ne34); exact Nat.ne_of_lt (Nat.lt_of_lt_of_le f36.lt q)
      have ne104 : b26 ≠ b2_100 := by rcases hq100_hb2 with q | q; (rw [q]; exact ne35); exact Nat.ne_of_lt (Nat.lt_of_lt_of_le f37.lt q)
      have k105 : ∀ t, Steps p.tables e below (T100.setTop (mkF m 67 #[.val (.int p1), .val (.int p2), .val (.int p3), .val (.ref b2), .val (.int (own_cap p3)), .val (.int (4 : Int32)), .val (.ref b26), .unset, .unset, .unset, .unset, .unset] [(.ref b26)])) t → Steps p.tables e below (s₁.setTop (entryFrame m #[(.int p1), (.int p2), (.int p3)] maxLocals)) t := fun t k => k99 t (st100.trans k)
      have hc106 : ∀ i, i < 1 → f2_100 i = (own_cs p1 p2) i := own_app (k := 0) (c := (own_cs p1 p2)) (fun i hi => absurd hi (Nat.not_lt_zero i)) hq100_hf2 (own_csn p1 p2 0)
      have k107 : ∀ t, Steps p.tables e below (T100.setTop (mkF m 79 #[.val (.int p1), .val (.int p2), .val (.int p3), .val (.ref b2), .val (.int (own_cap p3)), .val (.int (4 : Int32)), .val (.ref b26), .unset, .unset, .unset, .unset, .unset] [(.int ((own_cs p1 p2) 1)), (.ref b26)])) t → Steps p.tables e below (s₁.setTop (entryFrame m #[(.int p1), (.int p2), (.int p3)] maxLocals)) t := by
        intro t k
        refine k105 t ?_
        show Steps p.tables e below (T100.setTop (mkF m 67 #[.val (.int p1), .val (.int p2), .val (.int p3), .val (.ref b2), .val (.int (own_cap p3)), .val (.int (4 : Int32)), .val (.ref b26), .unset, .unset, .unset, .unset, .unset] [(.ref b26)])) _
        refine XS.pop X100.here hx rfl (hb hby at_67) rfl rfl ?_
        show Steps p.tables e below (T100.setTop (mkF m 68 #[.val (.int p1), .val (.int p2), .val (.int p3), .val (.ref b2), .val (.int (own_cap p3)), .val (.int (4 : Int32)), .val (.ref b26), .unset, .unset, .unset, .unset, .unset] [])) _
        refine XS.iload X100.here hx rfl (hb hby at_68) rfl ?_
        show Steps p.tables e below (T100.setTop (mkF m 70 #[.val (.int p1), .val (.int p2), .val (.int p3), .val (.ref b2), .val (.int (own_cap p3)), .val (.int (4 : Int32)), .val (.ref b26), .unset, .unset, .unset, .unset, .unset] [(.int (4 : Int32))])) _
        refine XS.iconst X100.here hx rfl (hb hby at_70) ?_
        show Steps p.tables e below (T100.setTop (mkF m 71 #[.val (.int p1), .val (.int p2), .val (.int p3), .val (.ref b2), .val (.int (own_cap p3)), .val (.int (4 : Int32)), .val (.ref b26), .unset, .unset, .unset, .unset, .unset] [(.int (1 : Int32)), (.int (4 : Int32))])) _
        refine XS.icmpNo X100.here hx rfl (hb hby at_71) rfl (tlt (by decide : (1 : Int32) < (4 : Int32))).2.2.2 ?_
        show Steps p.tables e below (T100.setTop (mkF m 74 #[.val (.int p1), .val (.int p2), .val (.int p3), .val (.ref b2), .val (.int (own_cap p3)), .val (.int (4 : Int32)), .val (.ref b26), .unset, .unset, .unset, .unset, .unset] [])) _
        refine XS.aload X100.here hx rfl (hb hby at_74) rfl rfl ?_
        show Steps p.tables e below (T100.setTop (mkF m 76 #[.val (.int p1), .val (.int p2), .val (.int p3), .val (.ref b2), .val (.int (own_cap p3)), .val (.int (4 : Int32)), .val (.ref b26), .unset, .unset, .unset, .unset, .unset] [(.ref b26)])) _
        refine XS.aloadN X100.here hx rfl (hb hby at_76) rfl rfl ?_
        show Steps p.tables e below (T100.setTop (mkF m 77 #[.val (.int p1), .val (.int p2), .val (.int p3), .val (.ref b2), .val (.int (own_cap p3)), .val (.int (4 : Int32)), .val (.ref b26), .unset, .unset, .unset, .unset, .unset] [(.ref b2), (.ref b26)])) _
        refine XS.iconst X100.here hx rfl (hb hby at_77) ?_
        show Steps p.tables e below (T100.setTop (mkF m 78 #[.val (.int p1), .val (.int p2), .val (.int p3), .val (.ref b2), .val (.int (own_cap p3)), .val (.int (4 : Int32)), .val (.ref b26), .unset, .unset, .unset, .unset, .unset] [(.int (1 : Int32)), (.ref b2), (.ref b26)])) _
        refine own_ldC X100 hx hZ rfl f101 (j := (1 : Int32)) own_i1 (by omega) (g := (mkF m 78 #[.val (.int p1), .val (.int p2), .val (.int p3), .val (.ref b2), .val (.int (own_cap p3)), .val (.int (4 : Int32)), .val (.ref b26), .unset, .unset, .unset, .unset, .unset] [(.int (1 : Int32)), (.ref b2), (.ref b26)])) rfl rfl (hb hby at_78) ?_
        exact k
      obtain ⟨cq108, kq108, q108a, q108b, q108c⟩ := isOf hZ rfl f102
      obtain ⟨_, _, ⟨T108, L108, k108c, n108⟩, -, X108, ⟨Lc108, hQ108, l108, y108, z108⟩, st108⟩ := X100.virtualBack hx (y := (⟨"com/example/cureline/cureline/io/TextBuffer", "append", "(C)Lcom/example/cureline/cureline/io/TextBuffer;"⟩ : MethodName)) (z := (⟨"com/example/cureline/cureline/io/TextBuffer", "append", "(C)Lcom/example/cureline/cureline/io/TextBuffer;"⟩ : MethodName)) hown (mvT hZ (hw _ (List.mem_of_getElem? (i := 74) rfl))) (mvT hZ (hw _ (List.mem_of_getElem? (i := 75) rfl))) (notFace_of_selects (args := #[]) (mvT hZ (hw _ (List.mem_of_getElem? (i := 77) rfl)))) (mvT hZ (hw _ (List.mem_of_getElem? (i := 77) rfl))) (mvT hZ (hw _ (List.mem_of_getElem? (i := 76) rfl))) (by decide) (backOf (W := 0) (own_rmap l Z a0 hw [] b26 ((own_cs p1 p2) 1) b2_100 ((0 : Int32) + (1 : Int32)) z2_100 f2_100 (0 + 1) T100.heap n0 Z100 f102 fq100_0 fq100_1 fq100_2 ge26 ge100 (Ne.symm ne104) (own_inc own_i0 (by omega)) (by omega) (by omega) (by omega)) hZ (hw _ (List.mem_of_getElem? (i := 78) rfl)) (hw _ (List.mem_of_getElem? (i := 3) rfl)) (by decide) (by decide)) q108a q108c (g := (mkF m 79 #[.val (.int p1), .val (.int p2), .val (.int p3), .val (.ref b2), .val (.int (own_cap p3)), .val (.int (4 : Int32)), .val (.ref b26), .unset, .unset, .unset, .unset, .unset] [(.int ((own_cs p1 p2) 1)), (.ref b26)])) rfl (by rw [hml]; rfl) (Steps.refl _) (argsL := [(.int ((own_cs p1 p2) 1))]) (rest := []) (lenOf own_pd22 rfl) rfl (by show 2 * 0 + _ ≤ _; exact Nat.le_of_eq rfl) (hb hby at_79) (fun _ _ => ⟨rfl, rfl, (by decide : 4 + 1 ≤ _), (by decide : 22 + 8 ≤ _)⟩)
      dsimp only [Pt.U, Pt.locs, Pt.cells, Pt.slots] at X108 l108 y108 z108 st108 hQ108
      subst l108 y108 z108
      obtain ⟨b2_108, z2_108, f2_108, rfl, N108q, Kq108, fq108_0, fq108_1, fq108_2, hq108_hb2, hq108_hz2, hq108_hf2⟩ := hQ108
      have N108 := Fr.app N100 N108q
      have f109 := f101.keep Kq108 (List.not_mem_cons_of_ne_of_not_mem ne27 (List.not_mem_cons_of_ne_of_not_mem ne103 List.not_mem_nil))
      have f110 := f102.keep Kq108
      have Z108 : n0 ≤ T108.heap.size := Nat.le_trans Z100 Kq108.1
      have K108 : Keep h0 T108.heap [] := K100.trans Kq108 (fun x hx => by rcases List.mem_cons.mp hx with rfl | hx; exact Or.inr bo26; rcases List.mem_cons.mp hx with rfl | hx; exact Or.inr bo100; exact nomatch hx)
      have Xo108 := Xo100.keep Kq108 (allS ge26 (allS ge100 all0))
      have hz108 := hq108_hz2.1; have hy108 := hq108_hz2.2
      have ge108 : n0 ≤ b2_108 := by rcases hq108_hb2 with q | q; (rw [q]; exact ge100); exact Nat.le_trans Z100 q
      have bo108 : h0.size ≤ b2_108 := by rcases hq108_hb2 with q | q; (rw [q]; exact bo100); exact Nat.le_trans K100.1 q
      have ne111 : b2 ≠ b2_108 := by rcases hq108_hb2 with q | q; (rw [q]; exact ne103); exact Nat.ne_of_lt (Nat.lt_of_lt_of_le f101.lt q)
      have ne112 : b26 ≠ b2_108 := by rcases hq108_hb2 with q | q; (rw [q]; exact ne104); exact Nat.ne_of_lt (Nat.lt_of_lt_of_le f102.lt q)
      have k113 : ∀ t, Steps p.tables e below (T108.setTop (mkF m 82 #[.val (.int p1), .val (.int p2), .val (.int p3), .val (.ref b2), .val (.int (own_cap p3)), .val (.int (4 : Int32)), .val (.ref b26), .unset, .unset, .unset, .unset, .unset] [(.ref b26)])) t → Steps p.tables e below (s₁.setTop (entryFrame m #[(.int p1), (.int p2), (.int p3)] maxLocals)) t := fun t k => k107 t (st108.trans k)
      have hc114 : ∀ i, i < 2 → f2_108 i = (own_cs p1 p2) i := own_app (k := 1) (c := (own_cs p1 p2)) hc106 hq108_hf2 (own_csn p1 p2 1)
      have k115 : ∀ t, Steps p.tables e below (T108.setTop (mkF m 94 #[.val (.int p1), .val (.int p2), .val (.int p3), .val (.ref b2), .val (.int (own_cap p3)), .val (.int (4 : Int32)), .val (.ref b26), .unset, .unset, .unset, .unset, .unset] [(.int ((own_cs p1 p2) 2)), (.ref b26)])) t → Steps p.tables e below (s₁.setTop (entryFrame m #[(.int p1), (.int p2), (.int p3)] maxLocals)) t := by
        intro t k
        refine k113 t ?_
        show Steps p.tables e below (T108.setTop (mkF m 82 #[.val (.int p1), .val (.int p2), .val (.int p3), .val (.ref b2), .val (.int (own_cap p3)), .val (.int (4 : Int32)), .val (.ref b26), .unset, .unset, .unset, .unset, .unset] [(.ref b26)])) _
        refine XS.pop X108.here hx rfl (hb hby at_82) rfl rfl ?_
        show Steps p.tables e below (T108.setTop (mkF m 83 #[.val (.int p1), .val (.int p2), .val (.int p3), .val (.ref b2), .val (.int (own_cap p3)), .val (.int (4 : Int32)), .val (.ref b26), .unset, .unset, .unset, .unset, .unset] [])) _
        refine XS.iload X108.here hx rfl (hb hby at_83) rfl ?_
        show Steps p.tables e below (T108.setTop (mkF m 85 #[.val (.int p1), .val (.int p2), .val (.int p3), .val (.ref b2), .val (.int (own_cap p3)), .val (.int (4 : Int32)), .val (.ref b26), .unset, .unset, .unset, .unset, .unset] [(.int (4 : Int32))])) _
        refine XS.iconst X108.here hx rfl (hb hby at_85) ?_
        show Steps p.tables e below (T108.setTop (mkF m 86 #[.val (.int p1), .val (.int p2), .val (.int p3), .val (.ref b2), .val (.int (own_cap p3)), .val (.int (4 : Int32)), .val (.ref b26), .unset, .unset, .unset, .unset, .unset] [(.int (2 : Int32)), (.int (4 : Int32))])) _
        refine XS.icmpNo X108.here hx rfl (hb hby at_86) rfl (tlt (by decide : (2 : Int32) < (4 : Int32))).2.2.2 ?_
        show Steps p.tables e below (T108.setTop (mkF m 89 #[.val (.int p1), .val (.int p2), .val (.int p3), .val (.ref b2), .val (.int (own_cap p3)), .val (.int (4 : Int32)), .val (.ref b26), .unset, .unset, .unset, .unset, .unset] [])) _
        refine XS.aload X108.here hx rfl (hb hby at_89) rfl rfl ?_
        show Steps p.tables e below (T108.setTop (mkF m 91 #[.val (.int p1), .val (.int p2), .val (.int p3), .val (.ref b2), .val (.int (own_cap p3)), .val (.int (4 : Int32)), .val (.ref b26), .unset, .unset, .unset, .unset, .unset] [(.ref b26)])) _
        refine XS.aloadN X108.here hx rfl (hb hby at_91) rfl rfl ?_
        show Steps p.tables e below (T108.setTop (mkF m 92 #[.val (.int p1), .val (.int p2), .val (.int p3), .val (.ref b2), .val (.int (own_cap p3)), .val (.int (4 : Int32)), .val (.ref b26), .unset, .unset, .unset, .unset, .unset] [(.ref b2), (.ref b26)])) _
        refine XS.iconst X108.here hx rfl (hb hby at_92) ?_
        show Steps p.tables e below (T108.setTop (mkF m 93 #[.val (.int p1), .val (.int p2), .val (.int p3), .val (.ref b2), .val (.int (own_cap p3)), .val (.int (4 : Int32)), .val (.ref b26), .unset, .unset, .unset, .unset, .unset] [(.int (2 : Int32)), (.ref b2), (.ref b26)])) _
        refine own_ldC X108 hx hZ rfl f109 (j := (2 : Int32)) own_i2 (by omega) (g := (mkF m 93 #[.val (.int p1), .val (.int p2), .val (.int p3), .val (.ref b2), .val (.int (own_cap p3)), .val (.int (4 : Int32)), .val (.ref b26), .unset, .unset, .unset, .unset, .unset] [(.int (2 : Int32)), (.ref b2), (.ref b26)])) rfl rfl (hb hby at_93) ?_
        exact k
      obtain ⟨cq116, kq116, q116a, q116b, q116c⟩ := isOf hZ rfl f110
      obtain ⟨_, _, ⟨T116, L116, k116c, n116⟩, -, X116, ⟨Lc116, hQ116, l116, y116, z116⟩, st116⟩ := X108.virtualBack hx (y := (⟨"com/example/cureline/cureline/io/TextBuffer", "append", "(C)Lcom/example/cureline/cureline/io/TextBuffer;"⟩ : MethodName)) (z := (⟨"com/example/cureline/cureline/io/TextBuffer", "append", "(C)Lcom/example/cureline/cureline/io/TextBuffer;"⟩ : MethodName)) hown (mvT hZ (hw _ (List.mem_of_getElem? (i := 74) rfl))) (mvT hZ (hw _ (List.mem_of_getElem? (i := 75) rfl))) (notFace_of_selects (args := #[]) (mvT hZ (hw _ (List.mem_of_getElem? (i := 77) rfl)))) (mvT hZ (hw _ (List.mem_of_getElem? (i := 77) rfl))) (mvT hZ (hw _ (List.mem_of_getElem? (i := 76) rfl))) (by decide) (backOf (W := 0) (own_rmap l Z a0 hw [] b26 ((own_cs p1 p2) 2) b2_108 (((0 : Int32) + (1 : Int32)) + (1 : Int32)) z2_108 f2_108 ((0 + 1) + 1) T108.heap n0 Z108 f110 fq108_0 fq108_1 fq108_2 ge26 ge108 (Ne.symm ne112) (own_inc (own_inc own_i0 (by omega)) (by omega)) (by omega) (by omega) (by omega)) hZ (hw _ (List.mem_of_getElem? (i := 78) rfl)) (hw _ (List.mem_of_getElem? (i := 3) rfl)) (by decide) (by decide)) q116a q116c (g := (mkF m 94 #[.val (.int p1), .val (.int p2), .val (.int p3), .val (.ref b2), .val (.int (own_cap p3)), .val (.int (4 : Int32)), .val (.ref b26), .unset, .unset, .unset, .unset, .unset] [(.int ((own_cs p1 p2) 2)), (.ref b26)])) rfl (by rw [hml]; rfl) (Steps.refl _) (argsL := [(.int ((own_cs p1 p2) 2))]) (rest := []) (lenOf own_pd22 rfl) rfl (by show 2 * 0 + _ ≤ _; exact Nat.le_of_eq rfl) (hb hby at_94) (fun _ _ => ⟨rfl, rfl, (by decide : 5 + 1 ≤ _), (by decide : 30 + 8 ≤ _)⟩)
      dsimp only [Pt.U, Pt.locs, Pt.cells, Pt.slots] at X116 l116 y116 z116 st116 hQ116
      subst l116 y116 z116
      obtain ⟨b2_116, z2_116, f2_116, rfl, N116q, Kq116, fq116_0, fq116_1, fq116_2, hq116_hb2, hq116_hz2, hq116_hf2⟩ := hQ116
      have N116 := Fr.app N108 N116q
      have f117 := f109.keep Kq116 (List.not_mem_cons_of_ne_of_not_mem ne27 (List.not_mem_cons_of_ne_of_not_mem ne111 List.not_mem_nil))
      have f118 := f110.keep Kq116
      have Z116 : n0 ≤ T116.heap.size := Nat.le_trans Z108 Kq116.1
      have K116 : Keep h0 T116.heap [] := K108.trans Kq116 (fun x hx => by rcases List.mem_cons.mp hx with rfl | hx; exact Or.inr bo26; rcases List.mem_cons.mp hx with rfl | hx; exact Or.inr bo108; exact nomatch hx)
      have Xo116 := Xo108.keep Kq116 (allS ge26 (allS ge108 all0))
      have hz116 := hq116_hz2.1; have hy116 := hq116_hz2.2
      have ge116 : n0 ≤ b2_116 := by rcases hq116_hb2 with q | q; (rw [q]; exact ge108); exact Nat.le_trans Z108 q
      have bo116 : h0.size ≤ b2_116 := by rcases hq116_hb2 with q | q; (rw [q]; exact bo108); exact Nat.le_trans K108.1 q
      have ne119 : b2 ≠ b2_116 := by rcases hq116_hb2 with q | q; (rw [q]; exact ne111); exact Nat.ne_of_lt (Nat.lt_of_lt_of_le f109.lt q)
      have ne120 : b26 ≠ b2_116 := by rcases hq116_hb2 with q | q; (rw [q]; exact ne112); exact Nat.ne_of_lt (Nat.lt_of_lt_of_le f110.lt q)
      have k121 : ∀ t, Steps p.tables e below (T116.setTop (mkF m 97 #[.val (.int p1), .val (.int p2), .val (.int p3), .val (.ref b2), .val (.int (own_cap p3)), .val (.int (4 : Int32)), .val (.ref b26), .unset, .unset, .unset, .unset, .unset] [(.ref b26)])) t → Steps p.tables e below (s₁.setTop (entryFrame m #[(.int p1), (.int p2), (.int p3)] maxLocals)) t := fun t k => k115 t (st116.trans k)
      have hc122 : ∀ i, i < 3 → f2_116 i = (own_cs p1 p2) i := own_app (k := 2) (c := (own_cs p1 p2)) hc114 hq116_hf2 (own_csn p1 p2 2)
      have k123 : ∀ t, Steps p.tables e below (T116.setTop (mkF m 109 #[.val (.int p1), .val (.int p2), .val (.int p3), .val (.ref b2), .val (.int (own_cap p3)), .val (.int (4 : Int32)), .val (.ref b26), .unset, .unset, .unset, .unset, .unset] [(.int ((own_cs p1 p2) 3)), (.ref b26)])) t → Steps p.tables e below (s₁.setTop (entryFrame m #[(.int p1), (.int p2), (.int p3)] maxLocals)) t := by
        intro t k
        refine k121 t ?_
        show Steps p.tables e below (T116.setTop (mkF m 97 #[.val (.int p1), .val (.int p2), .val (.int p3), .val (.ref b2), .val (.int (own_cap p3)), .val (.int (4 : Int32)), .val (.ref b26), .unset, .unset, .unset, .unset, .unset] [(.ref b26)])) _
        refine XS.pop X116.here hx rfl (hb hby at_97) rfl rfl ?_
        show Steps p.tables e below (T116.setTop (mkF m 98 #[.val (.int p1), .val (.int p2), .val (.int p3), .val (.ref b2), .val (.int (own_cap p3)), .val (.int (4 : Int32)), .val (.ref b26), .unset, .unset, .unset, .unset, .unset] [])) _
        refine XS.iload X116.here hx rfl (hb hby at_98) rfl ?_
        show Steps p.tables e below (T116.setTop (mkF m 100 #[.val (.int p1), .val (.int p2), .val (.int p3), .val (.ref b2), .val (.int (own_cap p3)), .val (.int (4 : Int32)), .val (.ref b26), .unset, .unset, .unset, .unset, .unset] [(.int (4 : Int32))])) _
        refine XS.iconst X116.here hx rfl (hb hby at_100) ?_
        show Steps p.tables e below (T116.setTop (mkF m 101 #[.val (.int p1), .val (.int p2), .val (.int p3), .val (.ref b2), .val (.int (own_cap p3)), .val (.int (4 : Int32)), .val (.ref b26), .unset, .unset, .unset, .unset, .unset] [(.int (3 : Int32)), (.int (4 : Int32))])) _
        refine XS.icmpNo X116.here hx rfl (hb hby at_101) rfl (tlt (by decide : (3 : Int32) < (4 : Int32))).2.2.2 ?_
        show Steps p.tables e below (T116.setTop (mkF m 104 #[.val (.int p1), .val (.int p2), .val (.int p3), .val (.ref b2), .val (.int (own_cap p3)), .val (.int (4 : Int32)), .val (.ref b26), .unset, .unset, .unset, .unset, .unset] [])) _
        refine XS.aload X116.here hx rfl (hb hby at_104) rfl rfl ?_
        show Steps p.tables e below (T116.setTop (mkF m 106 #[.val (.int p1), .val (.int p2), .val (.int p3), .val (.ref b2), .val (.int (own_cap p3)), .val (.int (4 : Int32)), .val (.ref b26), .unset, .unset, .unset, .unset, .unset] [(.ref b26)])) _
        refine XS.aloadN X116.here hx rfl (hb hby at_106) rfl rfl ?_
        show Steps p.tables e below (T116.setTop (mkF m 107 #[.val (.int p1), .val (.int p2), .val (.int p3), .val (.ref b2), .val (.int (own_cap p3)), .val (.int (4 : Int32)), .val (.ref b26), .unset, .unset, .unset, .unset, .unset] [(.ref b2), (.ref b26)])) _
        refine XS.iconst X116.here hx rfl (hb hby at_107) ?_
        show Steps p.tables e below (T116.setTop (mkF m 108 #[.val (.int p1), .val (.int p2), .val (.int p3), .val (.ref b2), .val (.int (own_cap p3)), .val (.int (4 : Int32)), .val (.ref b26), .unset, .unset, .unset, .unset, .unset] [(.int (3 : Int32)), (.ref b2), (.ref b26)])) _
        refine own_ldC X116 hx hZ rfl f117 (j := (3 : Int32)) own_i3 (by omega) (g := (mkF m 108 #[.val (.int p1), .val (.int p2), .val (.int p3), .val (.ref b2), .val (.int (own_cap p3)), .val (.int (4 : Int32)), .val (.ref b26), .unset, .unset, .unset, .unset, .unset] [(.int (3 : Int32)), (.ref b2), (.ref b26)])) rfl rfl (hb hby at_108) ?_
        exact k
      obtain ⟨cq124, kq124, q124a, q124b, q124c⟩ := isOf hZ rfl f118
      obtain ⟨_, _, ⟨T124, L124, k124c, n124⟩, -, X124, ⟨Lc124, hQ124, l124, y124, z124⟩, st124⟩ := X116.virtualBack hx (y := (⟨"com/example/cureline/cureline/io/TextBuffer", "append", "(C)Lcom/example/cureline/cureline/io/TextBuffer;"⟩ : MethodName)) (z := (⟨"com/example/cureline/cureline/io/TextBuffer", "append", "(C)Lcom/example/cureline/cureline/io/TextBuffer;"⟩ : MethodName)) hown (mvT hZ (hw _ (List.mem_of_getElem? (i := 74) rfl))) (mvT hZ (hw _ (List.mem_of_getElem? (i := 75) rfl))) (notFace_of_selects (args := #[]) (mvT hZ (hw _ (List.mem_of_getElem? (i := 77) rfl)))) (mvT hZ (hw _ (List.mem_of_getElem? (i := 77) rfl))) (mvT hZ (hw _ (List.mem_of_getElem? (i := 76) rfl))) (by decide) (backOf (W := 0) (own_rmap l Z a0 hw [] b26 ((own_cs p1 p2) 3) b2_116 ((((0 : Int32) + (1 : Int32)) + (1 : Int32)) + (1 : Int32)) z2_116 f2_116 (((0 + 1) + 1) + 1) T116.heap n0 Z116 f118 fq116_0 fq116_1 fq116_2 ge26 ge116 (Ne.symm ne120) (own_inc (own_inc (own_inc own_i0 (by omega)) (by omega)) (by omega)) (by omega) (by omega) (by omega)) hZ (hw _ (List.mem_of_getElem? (i := 78) rfl)) (hw _ (List.mem_of_getElem? (i := 3) rfl)) (by decide) (by decide)) q124a q124c (g := (mkF m 109 #[.val (.int p1), .val (.int p2), .val (.int p3), .val (.ref b2), .val (.int (own_cap p3)), .val (.int (4 : Int32)), .val (.ref b26), .unset, .unset, .unset, .unset, .unset] [(.int ((own_cs p1 p2) 3)), (.ref b26)])) rfl (by rw [hml]; rfl) (Steps.refl _) (argsL := [(.int ((own_cs p1 p2) 3))]) (rest := []) (lenOf own_pd22 rfl) rfl (by show 2 * 0 + _ ≤ _; exact Nat.le_of_eq rfl) (hb hby at_109) (fun _ _ => ⟨rfl, rfl, (by decide : 6 + 1 ≤ _), (by decide : 38 + 8 ≤ _)⟩)
      dsimp only [Pt.U, Pt.locs, Pt.cells, Pt.slots] at X124 l124 y124 z124 st124 hQ124
      subst l124 y124 z124
      obtain ⟨b2_124, z2_124, f2_124, rfl, N124q, Kq124, fq124_0, fq124_1, fq124_2, hq124_hb2, hq124_hz2, hq124_hf2⟩ := hQ124
      have N124 := Fr.app N116 N124q
      have f125 := f117.keep Kq124 (List.not_mem_cons_of_ne_of_not_mem ne27 (List.not_mem_cons_of_ne_of_not_mem ne119 List.not_mem_nil))
      have f126 := f118.keep Kq124
      have Z124 : n0 ≤ T124.heap.size := Nat.le_trans Z116 Kq124.1
      have K124 : Keep h0 T124.heap [] := K116.trans Kq124 (fun x hx => by rcases List.mem_cons.mp hx with rfl | hx; exact Or.inr bo26; rcases List.mem_cons.mp hx with rfl | hx; exact Or.inr bo116; exact nomatch hx)
      have Xo124 := Xo116.keep Kq124 (allS ge26 (allS ge116 all0))
      have hz124 := hq124_hz2.1; have hy124 := hq124_hz2.2
      have ge124 : n0 ≤ b2_124 := by rcases hq124_hb2 with q | q; (rw [q]; exact ge116); exact Nat.le_trans Z116 q
      have bo124 : h0.size ≤ b2_124 := by rcases hq124_hb2 with q | q; (rw [q]; exact bo116); exact Nat.le_trans K116.1 q
      have ne127 : b2 ≠ b2_124 := by rcases hq124_hb2 with q | q; (rw [q]; exact ne119); exact Nat.ne_of_lt (Nat.lt_of_lt_of_le f117.lt q)
      have ne128 : b26 ≠ b2_124 := by rcases hq124_hb2 with q | q; (rw [q]; exact ne120); exact Nat.ne_of_lt (Nat.lt_of_lt_of_le f118.lt q)
      have k129 : ∀ t, Steps p.tables e below (T124.setTop (mkF m 112 #[.val (.int p1), .val (.int p2), .val (.int p3), .val (.ref b2), .val (.int (own_cap p3)), .val (.int (4 : Int32)), .val (.ref b26), .unset, .unset, .unset, .unset, .unset] [(.ref b26)])) t → Steps p.tables e below (s₁.setTop (entryFrame m #[(.int p1), (.int p2), (.int p3)] maxLocals)) t := fun t k => k123 t (st124.trans k)
      have hc130 : ∀ i, i < 4 → f2_124 i = (own_cs p1 p2) i := own_app (k := 3) (c := (own_cs p1 p2)) hc122 hq124_hf2 (own_csn p1 p2 3)
      have k131 : ∀ t, Steps p.tables e below (T124.setTop (mkF m 113 #[.val (.int p1), .val (.int p2), .val (.int p3), .val (.ref b2), .val (.int (own_cap p3)), .val (.int (4 : Int32)), .val (.ref b26), .unset, .unset, .unset, .unset, .unset] [])) t → Steps p.tables e below (s₁.setTop (entryFrame m #[(.int p1), (.int p2), (.int p3)] maxLocals)) t := by
        intro t k
        refine k129 t ?_
        show Steps p.tables e below (T124.setTop (mkF m 112 #[.val (.int p1), .val (.int p2), .val (.int p3), .val (.ref b2), .val (.int (own_cap p3)), .val (.int (4 : Int32)), .val (.ref b26), .unset, .unset, .unset, .unset, .unset] [(.ref b26)])) _
        refine XS.pop X124.here hx rfl (hb hby at_112) rfl rfl ?_
        exact k
      subst hqi
      exact ⟨_, _, _, b2_124, z2_124, f2_124, _, (X124.more (by decide) (by decide)), rfl, N124, K124, Z124, Xo124, f126, fq124_0, fq124_1, fq124_2, f125, ge124, bo124, ne128, ne127, by omega, by omega, hc130, fun t k => k131 t (by rw [he] at k; exact k)⟩
  obtain ⟨Tj, Lj, hj, bj, zj, fj, kj, Xj, ej, Nj, Kj, Zj, Xoj, Etj, Fcj, Flj, Gbj, Gaj, gej, boj, ntj, naj, hzj, hyj, hcN, kj_⟩ := sg41
  have k132 : ∀ t, Steps p.tables e below (Tj.setTop (mkF m 127 #[.val (.int p1), .val (.int p2), .val (.int p3), .val (.ref b2), .val (.int (own_cap p3)), .val (.int (own_n p3)), .val (.ref b26), .val (.int (own_m p3)), .unset, .unset, .unset, .unset] [])) t → Steps p.tables e below (s₁.setTop (entryFrame m #[(.int p1), (.int p2), (.int p3)] maxLocals)) t := by
    intro t k
    refine kj_ t ?_
    show Steps p.tables e below (Tj.setTop (mkF m 113 #[.val (.int p1), .val (.int p2), .val (.int p3), .val (.ref b2), .val (.int (own_cap p3)), .val (.int (own_n p3)), .val (.ref b26), .unset, .unset, .unset, .unset, .unset] [])) _
    refine XS.iloadN Xj.here hx rfl (hb hby at_113) rfl ?_
    show Steps p.tables e below (Tj.setTop (mkF m 114 #[.val (.int p1), .val (.int p2), .val (.int p3), .val (.ref b2), .val (.int (own_cap p3)), .val (.int (own_n p3)), .val (.ref b26), .unset, .unset, .unset, .unset, .unset] [(.int p3)])) _
    refine XS.bipush Xj.here hx rfl (hb hby at_114) ?_
    show Steps p.tables e below (Tj.setTop (mkF m 116 #[.val (.int p1), .val (.int p2), .val (.int p3), .val (.ref b2), .val (.int (own_cap p3)), .val (.int (own_n p3)), .val (.ref b26), .unset, .unset, .unset, .unset, .unset] [(.int (6 : Int32)), (.int p3)])) _
    refine XS.iushr Xj.here hx rfl (hb hby at_116) rfl ?_
    show Steps p.tables e below (Tj.setTop (mkF m 117 #[.val (.int p1), .val (.int p2), .val (.int p3), .val (.ref b2), .val (.int (own_cap p3)), .val (.int (own_n p3)), .val (.ref b26), .unset, .unset, .unset, .unset, .unset] [(.int ((p3.toUInt32 >>> ((6 : Int32) &&& 31).toUInt32).toInt32))])) _
    refine XS.bipush Xj.here hx rfl (hb hby at_117) ?_
    show Steps p.tables e below (Tj.setTop (mkF m 119 #[.val (.int p1), .val (.int p2), .val (.int p3), .val (.ref b2), .val (.int (own_cap p3)), .val (.int (own_n p3)), .val (.ref b26), .unset, .unset, .unset, .unset, .unset] [(.int (7 : Int32)), (.int ((p3.toUInt32 >>> ((6 : Int32) &&& 31).toUInt32).toInt32))])) _
    refine XS.iand Xj.here hx rfl (hb hby at_119) rfl ?_
    show Steps p.tables e below (Tj.setTop (mkF m 120 #[.val (.int p1), .val (.int p2), .val (.int p3), .val (.ref b2), .val (.int (own_cap p3)), .val (.int (own_n p3)), .val (.ref b26), .unset, .unset, .unset, .unset, .unset] [(.int (((p3.toUInt32 >>> ((6 : Int32) &&& 31).toUInt32).toInt32) &&& (7 : Int32)))])) _
    refine XS.iload Xj.here hx rfl (hb hby at_120) rfl ?_
    show Steps p.tables e below (Tj.setTop (mkF m 122 #[.val (.int p1), .val (.int p2), .val (.int p3), .val (.ref b2), .val (.int (own_cap p3)), .val (.int (own_n p3)), .val (.ref b26), .unset, .unset, .unset, .unset, .unset] [(.int (own_n p3)), (.int (((p3.toUInt32 >>> ((6 : Int32) &&& 31).toUInt32).toInt32) &&& (7 : Int32)))])) _
    refine XS.iconst Xj.here hx rfl (hb hby at_122) ?_
    show Steps p.tables e below (Tj.setTop (mkF m 123 #[.val (.int p1), .val (.int p2), .val (.int p3), .val (.ref b2), .val (.int (own_cap p3)), .val (.int (own_n p3)), .val (.ref b26), .unset, .unset, .unset, .unset, .unset] [(.int (1 : Int32)), (.int (own_n p3)), (.int (((p3.toUInt32 >>> ((6 : Int32) &&& 31).toUInt32).toInt32) &&& (7 : Int32)))])) _
    refine XS.iadd Xj.here hx rfl (hb hby at_123) rfl ?_
    show Steps p.tables e below (Tj.setTop (mkF m 124 #[.val (.int p1), .val (.int p2), .val (.int p3), .val (.ref b2), .val (.int (own_cap p3)), .val (.int (own_n p3)), .val (.ref b26), .unset, .unset, .unset, .unset, .unset] [(.int ((own_n p3) + (1 : Int32))), (.int (((p3.toUInt32 >>> ((6 : Int32) &&& 31).toUInt32).toInt32) &&& (7 : Int32)))])) _
    refine iremM Xj hx rfl (hb hby at_124) rfl (own_nz hnq (by omega)) ?_
    show Steps p.tables e below (Tj.setTop (mkF m 125 #[.val (.int p1), .val (.int p2), .val (.int p3), .val (.ref b2), .val (.int (own_cap p3)), .val (.int (own_n p3)), .val (.ref b26), .unset, .unset, .unset, .unset, .unset] [(.int ((((p3.toUInt32 >>> ((6 : Int32) &&& 31).toUInt32).toInt32) &&& (7 : Int32)) % ((own_n p3) + (1 : Int32))))])) _
    refine XS.istore Xj.here hx rfl (hb hby at_125) rfl (l' := #[.val (.int p1), .val (.int p2), .val (.int p3), .val (.ref b2), .val (.int (own_cap p3)), .val (.int (own_n p3)), .val (.ref b26), .val (.int ((((p3.toUInt32 >>> ((6 : Int32) &&& 31).toUInt32).toInt32) &&& (7 : Int32)) % ((own_n p3) + (1 : Int32)))), .unset, .unset, .unset, .unset]) rfl ?_
    exact k
  obtain ⟨mm, hmm, hml_⟩ := own_mN p3 hnq
  have k133 : ∀ t, Steps p.tables e below (Tj.setTop (mkF m 131 #[.val (.int p1), .val (.int p2), .val (.int p3), .val (.ref b2), .val (.int (own_cap p3)), .val (.int (own_n p3)), .val (.ref b26), .val (.int (own_m p3)), .unset, .unset, .unset, .unset] [(.int (own_m p3)), (.ref b26)])) t → Steps p.tables e below (s₁.setTop (entryFrame m #[(.int p1), (.int p2), (.int p3)] maxLocals)) t := by
    intro t k
    refine k132 t ?_
    show Steps p.tables e below (Tj.setTop (mkF m 127 #[.val (.int p1), .val (.int p2), .val (.int p3), .val (.ref b2), .val (.int (own_cap p3)), .val (.int (own_n p3)), .val (.ref b26), .val (.int (own_m p3)), .unset, .unset, .unset, .unset] [])) _
    refine XS.aload Xj.here hx rfl (hb hby at_127) rfl rfl ?_
    show Steps p.tables e below (Tj.setTop (mkF m 129 #[.val (.int p1), .val (.int p2), .val (.int p3), .val (.ref b2), .val (.int (own_cap p3)), .val (.int (own_n p3)), .val (.ref b26), .val (.int (own_m p3)), .unset, .unset, .unset, .unset] [(.ref b26)])) _
    refine XS.iload Xj.here hx rfl (hb hby at_129) rfl ?_
    exact k
  obtain ⟨cq134, kq134, q134a, q134b, q134c⟩ := isOf hZ ej Etj
  obtain ⟨_, _, ⟨T134, L134, k134c, n134⟩, -, X134, ⟨Lc134, hQ134, l134, y134, z134⟩, st134⟩ := Xj.virtualBack hx (y := (⟨"com/example/cureline/cureline/io/TextBuffer", "setLength", "(I)V"⟩ : MethodName)) (z := (⟨"com/example/cureline/cureline/io/TextBuffer", "setLength", "(I)V"⟩ : MethodName)) hown (mvT hZ (hw _ (List.mem_of_getElem? (i := 12) rfl))) (mvT hZ (hw _ (List.mem_of_getElem? (i := 13) rfl))) (notFace_of_selects (args := #[]) (mvT hZ (hw _ (List.mem_of_getElem? (i := 15) rfl)))) (mvT hZ (hw _ (List.mem_of_getElem? (i := 15) rfl))) (mvT hZ (hw _ (List.mem_of_getElem? (i := 14) rfl))) (by decide) (backOf (W := 0) (own_rmsl l Z a0 hw [] b26 (own_m p3) bj kj hj n0 Zj Etj Fcj Flj ge26) hZ (hw _ (List.mem_of_getElem? (i := 16) rfl)) (hw _ (List.mem_of_getElem? (i := 3) rfl)) (by decide) (by decide)) q134a q134c (g := (mkF m 131 #[.val (.int p1), .val (.int p2), .val (.int p3), .val (.ref b2), .val (.int (own_cap p3)), .val (.int (own_n p3)), .val (.ref b26), .val (.int (own_m p3)), .unset, .unset, .unset, .unset] [(.int (own_m p3)), (.ref b26)])) rfl (by rw [hml]; rfl) (Steps.refl _) (argsL := [(.int (own_m p3))]) (rest := []) (lenOf own_pd19 rfl) rfl (by show 2 * 0 + _ ≤ _; exact Nat.le_of_eq rfl) (hb hby at_131) (fun _ _ => ⟨rfl, ej, (by decide : 7 + 0 ≤ _), (by decide : 46 + 0 ≤ _)⟩)
  dsimp only [Pt.U, Pt.locs, Pt.cells, Pt.slots] at X134 l134 y134 z134 st134 hQ134
  subst l134 y134 z134
  obtain ⟨rfl, N134q, Kq134, fq134_0, fq134_1⟩ := hQ134
  have N134 := Fr.app Nj N134q
  have f135 := Etj.keep Kq134
  have f136 := Gbj.keep Kq134 (List.not_mem_cons_of_ne_of_not_mem (Ne.symm ntj) List.not_mem_nil)
  have f137 := Gaj.keep Kq134 (List.not_mem_cons_of_ne_of_not_mem ne27 List.not_mem_nil)
  have Z134 : n0 ≤ T134.heap.size := Nat.le_trans Zj Kq134.1
  have K134 : Keep h0 T134.heap [] := Kj.trans Kq134 (fun x hx => by rcases List.mem_cons.mp hx with rfl | hx; exact Or.inr bo26; exact nomatch hx)
  have Xo134 := Xoj.keep Kq134 (allS ge26 all0)
  have k138 : ∀ t, Steps p.tables e below (T134.setTop (mkF m 134 #[.val (.int p1), .val (.int p2), .val (.int p3), .val (.ref b2), .val (.int (own_cap p3)), .val (.int (own_n p3)), .val (.ref b26), .val (.int (own_m p3)), .unset, .unset, .unset, .unset] [])) t → Steps p.tables e below (s₁.setTop (entryFrame m #[(.int p1), (.int p2), (.int p3)] maxLocals)) t := fun t k => k133 t (st134.trans k)
  have k139 : ∀ t, Steps p.tables e below (T134.setTop (mkF m 148 #[.val (.int p1), .val (.int p2), .val (.int p3), .val (.ref b2), .val (.int (own_cap p3)), .val (.int (own_n p3)), .val (.ref b26), .val (.int (own_m p3)), .val (.int (own_f p3)), .unset, .unset, .unset] [])) t → Steps p.tables e below (s₁.setTop (entryFrame m #[(.int p1), (.int p2), (.int p3)] maxLocals)) t := by
    intro t k
    refine k138 t ?_
    show Steps p.tables e below (T134.setTop (mkF m 134 #[.val (.int p1), .val (.int p2), .val (.int p3), .val (.ref b2), .val (.int (own_cap p3)), .val (.int (own_n p3)), .val (.ref b26), .val (.int (own_m p3)), .unset, .unset, .unset, .unset] [])) _
    refine XS.iloadN X134.here hx rfl (hb hby at_134) rfl ?_
    show Steps p.tables e below (T134.setTop (mkF m 135 #[.val (.int p1), .val (.int p2), .val (.int p3), .val (.ref b2), .val (.int (own_cap p3)), .val (.int (own_n p3)), .val (.ref b26), .val (.int (own_m p3)), .unset, .unset, .unset, .unset] [(.int p3)])) _
    refine XS.bipush X134.here hx rfl (hb hby at_135) ?_
    show Steps p.tables e below (T134.setTop (mkF m 137 #[.val (.int p1), .val (.int p2), .val (.int p3), .val (.ref b2), .val (.int (own_cap p3)), .val (.int (own_n p3)), .val (.ref b26), .val (.int (own_m p3)), .unset, .unset, .unset, .unset] [(.int (9 : Int32)), (.int p3)])) _
    refine XS.iushr X134.here hx rfl (hb hby at_137) rfl ?_
    show Steps p.tables e below (T134.setTop (mkF m 138 #[.val (.int p1), .val (.int p2), .val (.int p3), .val (.ref b2), .val (.int (own_cap p3)), .val (.int (own_n p3)), .val (.ref b26), .val (.int (own_m p3)), .unset, .unset, .unset, .unset] [(.int ((p3.toUInt32 >>> ((9 : Int32) &&& 31).toUInt32).toInt32))])) _
    refine XS.bipush X134.here hx rfl (hb hby at_138) ?_
    show Steps p.tables e below (T134.setTop (mkF m 140 #[.val (.int p1), .val (.int p2), .val (.int p3), .val (.ref b2), .val (.int (own_cap p3)), .val (.int (own_n p3)), .val (.ref b26), .val (.int (own_m p3)), .unset, .unset, .unset, .unset] [(.int (7 : Int32)), (.int ((p3.toUInt32 >>> ((9 : Int32) &&& 31).toUInt32).toInt32))])) _
    refine XS.iand X134.here hx rfl (hb hby at_140) rfl ?_
    show Steps p.tables e below (T134.setTop (mkF m 141 #[.val (.int p1), .val (.int p2), .val (.int p3), .val (.ref b2), .val (.int (own_cap p3)), .val (.int (own_n p3)), .val (.ref b26), .val (.int (own_m p3)), .unset, .unset, .unset, .unset] [(.int (((p3.toUInt32 >>> ((9 : Int32) &&& 31).toUInt32).toInt32) &&& (7 : Int32)))])) _
    refine XS.iload X134.here hx rfl (hb hby at_141) rfl ?_
    show Steps p.tables e below (T134.setTop (mkF m 143 #[.val (.int p1), .val (.int p2), .val (.int p3), .val (.ref b2), .val (.int (own_cap p3)), .val (.int (own_n p3)), .val (.ref b26), .val (.int (own_m p3)), .unset, .unset, .unset, .unset] [(.int (own_m p3)), (.int (((p3.toUInt32 >>> ((9 : Int32) &&& 31).toUInt32).toInt32) &&& (7 : Int32)))])) _
    refine XS.iconst X134.here hx rfl (hb hby at_143) ?_
    show Steps p.tables e below (T134.setTop (mkF m 144 #[.val (.int p1), .val (.int p2), .val (.int p3), .val (.ref b2), .val (.int (own_cap p3)), .val (.int (own_n p3)), .val (.ref b26), .val (.int (own_m p3)), .unset, .unset, .unset, .unset] [(.int (1 : Int32)), (.int (own_m p3)), (.int (((p3.toUInt32 >>> ((9 : Int32) &&& 31).toUInt32).toInt32) &&& (7 : Int32)))])) _
    refine XS.iadd X134.here hx rfl (hb hby at_144) rfl ?_
    show Steps p.tables e below (T134.setTop (mkF m 145 #[.val (.int p1), .val (.int p2), .val (.int p3), .val (.ref b2), .val (.int (own_cap p3)), .val (.int (own_n p3)), .val (.ref b26), .val (.int (own_m p3)), .unset, .unset, .unset, .unset] [(.int ((own_m p3) + (1 : Int32))), (.int (((p3.toUInt32 >>> ((9 : Int32) &&& 31).toUInt32).toInt32) &&& (7 : Int32)))])) _
    refine iremM X134 hx rfl (hb hby at_145) rfl (own_nz hmm (by omega)) ?_
    show Steps p.tables e below (T134.setTop (mkF m 146 #[.val (.int p1), .val (.int p2), .val (.int p3), .val (.ref b2), .val (.int (own_cap p3)), .val (.int (own_n p3)), .val (.ref b26), .val (.int (own_m p3)), .unset, .unset, .unset, .unset] [(.int ((((p3.toUInt32 >>> ((9 : Int32) &&& 31).toUInt32).toInt32) &&& (7 : Int32)) % ((own_m p3) + (1 : Int32))))])) _
    refine XS.istore X134.here hx rfl (hb hby at_146) rfl (l' := #[.val (.int p1), .val (.int p2), .val (.int p3), .val (.ref b2), .val (.int (own_cap p3)), .val (.int (own_n p3)), .val (.ref b26), .val (.int (own_m p3)), .val (.int ((((p3.toUInt32 >>> ((9 : Int32) &&& 31).toUInt32).toInt32) &&& (7 : Int32)) % ((own_m p3) + (1 : Int32)))), .unset, .unset, .unset]) rfl ?_
    exact k
  obtain ⟨ff, hff, hfl⟩ := own_fN p3 hmm
  rcases Nat.lt_or_ge ff mm with hlt | hge
  · skip
    have hch : ∀ i, i < mm - ff → own_ch (fj (ff + i)) := fun i hi => by rw [hcN (ff + i) (by omega)]; exact own_csc p1 p2 _
    have hgf : ∀ i, i < mm - ff → fj (ff + i) = (own_cs p1 p2) (ff + i) := fun i hi => hcN _ (by omega)
    have k140 : ∀ t, Steps p.tables e below (T134.setTop (mkF m 152 #[.val (.int p1), .val (.int p2), .val (.int p3), .val (.ref b2), .val (.int (own_cap p3)), .val (.int (own_n p3)), .val (.ref b26), .val (.int (own_m p3)), .val (.int (own_f p3)), .unset, .unset, .unset] [(.int (own_f p3)), (.ref b26)])) t → Steps p.tables e below (s₁.setTop (entryFrame m #[(.int p1), (.int p2), (.int p3)] maxLocals)) t := by
      intro t k
      refine k139 t ?_
      show Steps p.tables e below (T134.setTop (mkF m 148 #[.val (.int p1), .val (.int p2), .val (.int p3), .val (.ref b2), .val (.int (own_cap p3)), .val (.int (own_n p3)), .val (.ref b26), .val (.int (own_m p3)), .val (.int (own_f p3)), .unset, .unset, .unset] [])) _
      refine XS.aload X134.here hx rfl (hb hby at_148) rfl rfl ?_
      show Steps p.tables e below (T134.setTop (mkF m 150 #[.val (.int p1), .val (.int p2), .val (.int p3), .val (.ref b2), .val (.int (own_cap p3)), .val (.int (own_n p3)), .val (.ref b26), .val (.int (own_m p3)), .val (.int (own_f p3)), .unset, .unset, .unset] [(.ref b26)])) _
      refine XS.iload X134.here hx rfl (hb hby at_150) rfl ?_
      exact k
    obtain ⟨cq141, kq141, q141a, q141b, q141c⟩ := isOf hZ rfl f135
    obtain ⟨_, _, ⟨T141, L141, k141c, n141⟩, -, X141, ⟨Lc141, hQ141, l141, y141, z141⟩, st141⟩ := X134.virtualBack hx (y := (⟨"com/example/cureline/cureline/io/TextBuffer", "substring", "(I)Ljava/lang/String;"⟩ : MethodName)) (z := (⟨"com/example/cureline/cureline/io/TextBuffer", "substring", "(I)Ljava/lang/String;"⟩ : MethodName)) hown (mvT hZ (hw _ (List.mem_of_getElem? (i := 19) rfl))) (mvT hZ (hw _ (List.mem_of_getElem? (i := 20) rfl))) (notFace_of_selects (args := #[]) (mvT hZ (hw _ (List.mem_of_getElem? (i := 22) rfl)))) (mvT hZ (hw _ (List.mem_of_getElem? (i := 22) rfl))) (mvT hZ (hw _ (List.mem_of_getElem? (i := 21) rfl))) (by decide) (backOf (W := 0) (own_rmsb l Z a0 hw [] b26 (own_f p3) bj (own_m p3) zj fj mm ff cs fm T134.heap n0 Z134 f135 fq134_0 fq134_1 f136 Xo134 hmm hff SC SA SH SL SF hcs hfm (by omega) (by omega) (by omega) (by omega) hch) hZ (hw _ (List.mem_of_getElem? (i := 23) rfl)) (hw _ (List.mem_of_getElem? (i := 3) rfl)) (by decide) (by decide)) q141a q141c (g := (mkF m 152 #[.val (.int p1), .val (.int p2), .val (.int p3), .val (.ref b2), .val (.int (own_cap p3)), .val (.int (own_n p3)), .val (.ref b26), .val (.int (own_m p3)), .val (.int (own_f p3)), .unset, .unset, .unset] [(.int (own_f p3)), (.ref b26)])) rfl (by rw [hml]; rfl) (Steps.refl _) (argsL := [(.int (own_f p3))]) (rest := []) (lenOf own_pd23 rfl) rfl (by show 2 * 0 + _ ≤ _; exact Nat.le_of_eq rfl) (hb hby at_152) (fun _ _ => ⟨rfl, rfl, (by decide : 7 + 3 ≤ _), (by decide : 46 + 16 ≤ _)⟩)
    dsimp only [Pt.U, Pt.locs, Pt.cells, Pt.slots] at X141 l141 y141 z141 st141 hQ141
    subst l141 y141 z141
    obtain ⟨rs__141, rfl, N141q, Kq141, gz141_s_, fq141_0, fq141_1⟩ := hQ141
    have N141 := Fr.app N134 N141q
    have ge141_s_ : n0 ≤ rs__141 := Nat.le_trans Z134 gz141_s_
    have bo141_s_ : h0.size ≤ rs__141 := Nat.le_trans K134.1 gz141_s_
    have ne142 : b2 ≠ rs__141 := Nat.ne_of_lt (Nat.lt_of_lt_of_le f137.lt gz141_s_)
    have ne143 : b26 ≠ rs__141 := Nat.ne_of_lt (Nat.lt_of_lt_of_le f135.lt gz141_s_)
    have ne144 : bj ≠ rs__141 := Nat.ne_of_lt (Nat.lt_of_lt_of_le f136.lt gz141_s_)
    have f145 := f135.keep Kq141
    have f146 := fq134_0.keep Kq141 List.not_mem_nil
    have f147 := fq134_1.keep Kq141 List.not_mem_nil
    have f148 := f136.keep Kq141 List.not_mem_nil
    have f149 := f137.keep Kq141 List.not_mem_nil
    have Z141 : n0 ≤ T141.heap.size := Nat.le_trans Z134 Kq141.1
    have K141 : Keep h0 T141.heap [] := K134.trans Kq141 (fun x hx => nomatch hx)
    have Xo141 := Xo134.keep Kq141 all0
    have k150 : ∀ t, Steps p.tables e below (T141.setTop (mkF m 155 #[.val (.int p1), .val (.int p2), .val (.int p3), .val (.ref b2), .val (.int (own_cap p3)), .val (.int (own_n p3)), .val (.ref b26), .val (.int (own_m p3)), .val (.int (own_f p3)), .unset, .unset, .unset] [(.ref rs__141)])) t → Steps p.tables e below (s₁.setTop (entryFrame m #[(.int p1), (.int p2), (.int p3)] maxLocals)) t := fun t k => k140 t (st141.trans k)
    have k151 : ∀ t, Steps p.tables e below (T141.setTop (mkF m 166 #[.val (.int p1), .val (.int p2), .val (.int p3), .val (.ref b2), .val (.int (own_cap p3)), .val (.int (own_n p3)), .val (.ref b26), .val (.int (own_m p3)), .val (.int (own_f p3)), .val (.ref rs__141), .val (.int ((own_m p3) - (own_f p3))), .unset] [(.ref rs__141)])) t → Steps p.tables e below (s₁.setTop (entryFrame m #[(.int p1), (.int p2), (.int p3)] maxLocals)) t := by
      intro t k
      refine k150 t ?_
      show Steps p.tables e below (T141.setTop (mkF m 155 #[.val (.int p1), .val (.int p2), .val (.int p3), .val (.ref b2), .val (.int (own_cap p3)), .val (.int (own_n p3)), .val (.ref b26), .val (.int (own_m p3)), .val (.int (own_f p3)), .unset, .unset, .unset] [(.ref rs__141)])) _
      refine XS.astore X141.here hx rfl (hb hby at_155) rfl rfl (l' := #[.val (.int p1), .val (.int p2), .val (.int p3), .val (.ref b2), .val (.int (own_cap p3)), .val (.int (own_n p3)), .val (.ref b26), .val (.int (own_m p3)), .val (.int (own_f p3)), .val (.ref rs__141), .unset, .unset]) rfl ?_
      show Steps p.tables e below (T141.setTop (mkF m 157 #[.val (.int p1), .val (.int p2), .val (.int p3), .val (.ref b2), .val (.int (own_cap p3)), .val (.int (own_n p3)), .val (.ref b26), .val (.int (own_m p3)), .val (.int (own_f p3)), .val (.ref rs__141), .unset, .unset] [])) _
      refine XS.iload X141.here hx rfl (hb hby at_157) rfl ?_
      show Steps p.tables e below (T141.setTop (mkF m 159 #[.val (.int p1), .val (.int p2), .val (.int p3), .val (.ref b2), .val (.int (own_cap p3)), .val (.int (own_n p3)), .val (.ref b26), .val (.int (own_m p3)), .val (.int (own_f p3)), .val (.ref rs__141), .unset, .unset] [(.int (own_m p3))])) _
      refine XS.iload X141.here hx rfl (hb hby at_159) rfl ?_
      show Steps p.tables e below (T141.setTop (mkF m 161 #[.val (.int p1), .val (.int p2), .val (.int p3), .val (.ref b2), .val (.int (own_cap p3)), .val (.int (own_n p3)), .val (.ref b26), .val (.int (own_m p3)), .val (.int (own_f p3)), .val (.ref rs__141), .unset, .unset] [(.int (own_f p3)), (.int (own_m p3))])) _
      refine XS.isub X141.here hx rfl (hb hby at_161) rfl ?_
      show Steps p.tables e below (T141.setTop (mkF m 162 #[.val (.int p1), .val (.int p2), .val (.int p3), .val (.ref b2), .val (.int (own_cap p3)), .val (.int (own_n p3)), .val (.ref b26), .val (.int (own_m p3)), .val (.int (own_f p3)), .val (.ref rs__141), .unset, .unset] [(.int ((own_m p3) - (own_f p3)))])) _
      refine XS.istore X141.here hx rfl (hb hby at_162) rfl (l' := #[.val (.int p1), .val (.int p2), .val (.int p3), .val (.ref b2), .val (.int (own_cap p3)), .val (.int (own_n p3)), .val (.ref b26), .val (.int (own_m p3)), .val (.int (own_f p3)), .val (.ref rs__141), .val (.int ((own_m p3) - (own_f p3))), .unset]) rfl ?_
      show Steps p.tables e below (T141.setTop (mkF m 164 #[.val (.int p1), .val (.int p2), .val (.int p3), .val (.ref b2), .val (.int (own_cap p3)), .val (.int (own_n p3)), .val (.ref b26), .val (.int (own_m p3)), .val (.int (own_f p3)), .val (.ref rs__141), .val (.int ((own_m p3) - (own_f p3))), .unset] [])) _
      refine XS.aload X141.here hx rfl (hb hby at_164) rfl rfl ?_
      exact k
    obtain ⟨cq152, kq152, q152a, q152b, q152c⟩ := isOf hZ rfl fq141_0
    obtain ⟨_, _, ⟨T152, L152, k152c, n152⟩, -, X152, ⟨Lc152, hQ152, l152, y152, z152⟩, st152⟩ := X141.virtualBack hx (y := (⟨"java/lang/String", "length", "()I"⟩ : MethodName)) (z := (⟨"java/lang/String", "length", "()I"⟩ : MethodName)) hown (mvT hZ (hw _ (List.mem_of_getElem? (i := 54) rfl))) (mvT hZ (hw _ (List.mem_of_getElem? (i := 55) rfl))) (notFace_of_selects (args := #[]) (mvT hZ (hw _ (List.mem_of_getElem? (i := 57) rfl)))) (mvT hZ (hw _ (List.mem_of_getElem? (i := 57) rfl))) (mvT hZ (hw _ (List.mem_of_getElem? (i := 56) rfl))) (by decide) (backOf (W := 0) (own_rmle l Z a0 hw [] rs__141 (mm - ff) ff fj cs T141.heap n0 Z141 fq141_0 fq141_1 Xo141 SC hcs) hZ (hw _ (List.mem_of_getElem? (i := 58) rfl)) (hw _ (List.mem_of_getElem? (i := 26) rfl)) (by decide) (by decide)) q152a q152c (g := (mkF m 166 #[.val (.int p1), .val (.int p2), .val (.int p3), .val (.ref b2), .val (.int (own_cap p3)), .val (.int (own_n p3)), .val (.ref b26), .val (.int (own_m p3)), .val (.int (own_f p3)), .val (.ref rs__141), .val (.int ((own_m p3) - (own_f p3))), .unset] [(.ref rs__141)])) rfl (by rw [hml]; rfl) (Steps.refl _) (argsL := []) (rest := []) (lenOf own_pd24 rfl) rfl (by show 2 * 0 + _ ≤ _; exact Nat.le_of_eq rfl) (hb hby at_166) (fun _ _ => ⟨rfl, rfl, (by decide : 10 + 0 ≤ _), (by decide : 62 + 0 ≤ _)⟩)
    dsimp only [Pt.U, Pt.locs, Pt.cells, Pt.slots] at X152 l152 y152 z152 st152 hQ152
    subst l152 y152 z152
    obtain ⟨r_152, rfl, N152q, e152, hq152_hr⟩ := hQ152
    have N152 := Fr.app N141 N152q
    have k153 : ∀ t, Steps p.tables e below (T152.setTop (mkF m 169 #[.val (.int p1), .val (.int p2), .val (.int p3), .val (.ref b2), .val (.int (own_cap p3)), .val (.int (own_n p3)), .val (.ref b26), .val (.int (own_m p3)), .val (.int (own_f p3)), .val (.ref rs__141), .val (.int ((own_m p3) - (own_f p3))), .unset] [(.int r_152)])) t → Steps p.tables e below (s₁.setTop (entryFrame m #[(.int p1), (.int p2), (.int p3)] maxLocals)) t := fun t k => k151 t (st152.trans k)
    have k154 : ∀ t, Steps p.tables e below (T152.setTop (mkF m 176 #[.val (.int p1), .val (.int p2), .val (.int p3), .val (.ref b2), .val (.int (own_cap p3)), .val (.int (own_n p3)), .val (.ref b26), .val (.int (own_m p3)), .val (.int (own_f p3)), .val (.ref rs__141), .val (.int ((own_m p3) - (own_f p3))), .unset] [(.ref b26)])) t → Steps p.tables e below (s₁.setTop (entryFrame m #[(.int p1), (.int p2), (.int p3)] maxLocals)) t := by
      intro t k
      refine k153 t ?_
      show Steps p.tables e below (T152.setTop (mkF m 169 #[.val (.int p1), .val (.int p2), .val (.int p3), .val (.ref b2), .val (.int (own_cap p3)), .val (.int (own_n p3)), .val (.ref b26), .val (.int (own_m p3)), .val (.int (own_f p3)), .val (.ref rs__141), .val (.int ((own_m p3) - (own_f p3))), .unset] [(.int r_152)])) _
      refine XS.iload X152.here hx rfl (hb hby at_169) rfl ?_
      show Steps p.tables e below (T152.setTop (mkF m 171 #[.val (.int p1), .val (.int p2), .val (.int p3), .val (.ref b2), .val (.int (own_cap p3)), .val (.int (own_n p3)), .val (.ref b26), .val (.int (own_m p3)), .val (.int (own_f p3)), .val (.ref rs__141), .val (.int ((own_m p3) - (own_f p3))), .unset] [(.int ((own_m p3) - (own_f p3))), (.int r_152)])) _
      refine XS.icmpNo X152.here hx rfl (hb hby at_171) rfl (teq (own_eqn hq152_hr (own_subn hmm hff (by omega)))).2 ?_
      show Steps p.tables e below (T152.setTop (mkF m 174 #[.val (.int p1), .val (.int p2), .val (.int p3), .val (.ref b2), .val (.int (own_cap p3)), .val (.int (own_n p3)), .val (.ref b26), .val (.int (own_m p3)), .val (.int (own_f p3)), .val (.ref rs__141), .val (.int ((own_m p3) - (own_f p3))), .unset] [])) _
      refine XS.aload X152.here hx rfl (hb hby at_174) rfl rfl ?_
      exact k
    obtain ⟨cq155, kq155, q155a, q155b, q155c⟩ := isOf hZ e152 f145
    obtain ⟨_, _, ⟨T155, L155, k155c, n155⟩, -, X155, ⟨Lc155, hQ155, l155, y155, z155⟩, st155⟩ := X152.virtualBack hx (y := (⟨"com/example/cureline/cureline/io/TextBuffer", "length", "()I"⟩ : MethodName)) (z := (⟨"com/example/cureline/cureline/io/TextBuffer", "length", "()I"⟩ : MethodName)) hown (mvT hZ (hw _ (List.mem_of_getElem? (i := 65) rfl))) (mvT hZ (hw _ (List.mem_of_getElem? (i := 66) rfl))) (notFace_of_selects (args := #[]) (mvT hZ (hw _ (List.mem_of_getElem? (i := 68) rfl)))) (mvT hZ (hw _ (List.mem_of_getElem? (i := 68) rfl))) (mvT hZ (hw _ (List.mem_of_getElem? (i := 67) rfl))) (by decide) (backOf (W := 0) (own_rmtl l Z a0 hw [] b26 (own_m p3) T141.heap n0 Z141 f145 f147) hZ (hw _ (List.mem_of_getElem? (i := 69) rfl)) (hw _ (List.mem_of_getElem? (i := 3) rfl)) (by decide) (by decide)) q155a q155c (g := (mkF m 176 #[.val (.int p1), .val (.int p2), .val (.int p3), .val (.ref b2), .val (.int (own_cap p3)), .val (.int (own_n p3)), .val (.ref b26), .val (.int (own_m p3)), .val (.int (own_f p3)), .val (.ref rs__141), .val (.int ((own_m p3) - (own_f p3))), .unset] [(.ref b26)])) rfl (by rw [hml]; rfl) (Steps.refl _) (argsL := []) (rest := []) (lenOf own_pd24 rfl) rfl (by show 2 * 0 + _ ≤ _; exact Nat.le_of_eq rfl) (hb hby at_176) (fun _ _ => ⟨rfl, e152, (by decide : 10 + 0 ≤ _), (by decide : 62 + 0 ≤ _)⟩)
    dsimp only [Pt.U, Pt.locs, Pt.cells, Pt.slots] at X155 l155 y155 z155 st155 hQ155
    subst l155 y155 z155
    obtain ⟨rfl, N155q, e155⟩ := hQ155
    have N155 := Fr.app N152 N155q
    have k156 : ∀ t, Steps p.tables e below (T155.setTop (mkF m 179 #[.val (.int p1), .val (.int p2), .val (.int p3), .val (.ref b2), .val (.int (own_cap p3)), .val (.int (own_n p3)), .val (.ref b26), .val (.int (own_m p3)), .val (.int (own_f p3)), .val (.ref rs__141), .val (.int ((own_m p3) - (own_f p3))), .unset] [(.int (own_m p3))])) t → Steps p.tables e below (s₁.setTop (entryFrame m #[(.int p1), (.int p2), (.int p3)] maxLocals)) t := fun t k => k154 t (st155.trans k)
    have k157 : ∀ t, Steps p.tables e below (T155.setTop (mkF m 204 #[.val (.int p1), .val (.int p2), .val (.int p3), .val (.ref b2), .val (.int (own_cap p3)), .val (.int (own_n p3)), .val (.ref b26), .val (.int (own_m p3)), .val (.int (own_f p3)), .val (.ref rs__141), .val (.int ((own_m p3) - (own_f p3))), .val (.int (1 : Int32))] [(.int ((own_m p3) - (own_f p3))), (.int (own_f p3)), (.ref b2), (.int (0 : Int32)), (.ref rs__141)])) t → Steps p.tables e below (s₁.setTop (entryFrame m #[(.int p1), (.int p2), (.int p3)] maxLocals)) t := by
      intro t k
      refine k156 t ?_
      show Steps p.tables e below (T155.setTop (mkF m 179 #[.val (.int p1), .val (.int p2), .val (.int p3), .val (.ref b2), .val (.int (own_cap p3)), .val (.int (own_n p3)), .val (.ref b26), .val (.int (own_m p3)), .val (.int (own_f p3)), .val (.ref rs__141), .val (.int ((own_m p3) - (own_f p3))), .unset] [(.int (own_m p3))])) _
      refine XS.iload X155.here hx rfl (hb hby at_179) rfl ?_
      show Steps p.tables e below (T155.setTop (mkF m 181 #[.val (.int p1), .val (.int p2), .val (.int p3), .val (.ref b2), .val (.int (own_cap p3)), .val (.int (own_n p3)), .val (.ref b26), .val (.int (own_m p3)), .val (.int (own_f p3)), .val (.ref rs__141), .val (.int ((own_m p3) - (own_f p3))), .unset] [(.int (own_m p3)), (.int (own_m p3))])) _
      refine XS.icmpNo X155.here hx rfl (hb hby at_181) rfl (teq (rfl : (own_m p3) = (own_m p3))).2 ?_
      show Steps p.tables e below (T155.setTop (mkF m 184 #[.val (.int p1), .val (.int p2), .val (.int p3), .val (.ref b2), .val (.int (own_cap p3)), .val (.int (own_n p3)), .val (.ref b26), .val (.int (own_m p3)), .val (.int (own_f p3)), .val (.ref rs__141), .val (.int ((own_m p3) - (own_f p3))), .unset] [])) _
      refine XS.iconst X155.here hx rfl (hb hby at_184) ?_
      show Steps p.tables e below (T155.setTop (mkF m 185 #[.val (.int p1), .val (.int p2), .val (.int p3), .val (.ref b2), .val (.int (own_cap p3)), .val (.int (own_n p3)), .val (.ref b26), .val (.int (own_m p3)), .val (.int (own_f p3)), .val (.ref rs__141), .val (.int ((own_m p3) - (own_f p3))), .unset] [(.int (1 : Int32))])) _
      refine XS.goto X155.here hx rfl (pc0 := 185) (pc' := 189) rfl (hb hby at_185) (by decide) (by decide) ?_
      show Steps p.tables e below (T155.setTop (mkF m 189 #[.val (.int p1), .val (.int p2), .val (.int p3), .val (.ref b2), .val (.int (own_cap p3)), .val (.int (own_n p3)), .val (.ref b26), .val (.int (own_m p3)), .val (.int (own_f p3)), .val (.ref rs__141), .val (.int ((own_m p3) - (own_f p3))), .unset] [(.int (1 : Int32))])) _
      refine XS.istore X155.here hx rfl (hb hby at_189) rfl (l' := #[.val (.int p1), .val (.int p2), .val (.int p3), .val (.ref b2), .val (.int (own_cap p3)), .val (.int (own_n p3)), .val (.ref b26), .val (.int (own_m p3)), .val (.int (own_f p3)), .val (.ref rs__141), .val (.int ((own_m p3) - (own_f p3))), .val (.int (1 : Int32))]) rfl ?_
      show Steps p.tables e below (T155.setTop (mkF m 191 #[.val (.int p1), .val (.int p2), .val (.int p3), .val (.ref b2), .val (.int (own_cap p3)), .val (.int (own_n p3)), .val (.ref b26), .val (.int (own_m p3)), .val (.int (own_f p3)), .val (.ref rs__141), .val (.int ((own_m p3) - (own_f p3))), .val (.int (1 : Int32))] [])) _
      refine XS.iload X155.here hx rfl (hb hby at_191) rfl ?_
      show Steps p.tables e below (T155.setTop (mkF m 193 #[.val (.int p1), .val (.int p2), .val (.int p3), .val (.ref b2), .val (.int (own_cap p3)), .val (.int (own_n p3)), .val (.ref b26), .val (.int (own_m p3)), .val (.int (own_f p3)), .val (.ref rs__141), .val (.int ((own_m p3) - (own_f p3))), .val (.int (1 : Int32))] [(.int (1 : Int32))])) _
      refine XS.ifNo X155.here hx rfl (hb hby at_193) rfl ((if0 _ _).trans (feq (by decide : ¬ ((1 : Int32) = (0 : Int32)))).1) ?_
      show Steps p.tables e below (T155.setTop (mkF m 196 #[.val (.int p1), .val (.int p2), .val (.int p3), .val (.ref b2), .val (.int (own_cap p3)), .val (.int (own_n p3)), .val (.ref b26), .val (.int (own_m p3)), .val (.int (own_f p3)), .val (.ref rs__141), .val (.int ((own_m p3) - (own_f p3))), .val (.int (1 : Int32))] [])) _
      refine XS.aload X155.here hx rfl (hb hby at_196) rfl rfl ?_
      show Steps p.tables e below (T155.setTop (mkF m 198 #[.val (.int p1), .val (.int p2), .val (.int p3), .val (.ref b2), .val (.int (own_cap p3)), .val (.int (own_n p3)), .val (.ref b26), .val (.int (own_m p3)), .val (.int (own_f p3)), .val (.ref rs__141), .val (.int ((own_m p3) - (own_f p3))), .val (.int (1 : Int32))] [(.ref rs__141)])) _
      refine XS.iconst X155.here hx rfl (hb hby at_198) ?_
      show Steps p.tables e below (T155.setTop (mkF m 199 #[.val (.int p1), .val (.int p2), .val (.int p3), .val (.ref b2), .val (.int (own_cap p3)), .val (.int (own_n p3)), .val (.ref b26), .val (.int (own_m p3)), .val (.int (own_f p3)), .val (.ref rs__141), .val (.int ((own_m p3) - (own_f p3))), .val (.int (1 : Int32))] [(.int (0 : Int32)), (.ref rs__141)])) _
      refine XS.aloadN X155.here hx rfl (hb hby at_199) rfl rfl ?_
      show Steps p.tables e below (T155.setTop (mkF m 200 #[.val (.int p1), .val (.int p2), .val (.int p3), .val (.ref b2), .val (.int (own_cap p3)), .val (.int (own_n p3)), .val (.ref b26), .val (.int (own_m p3)), .val (.int (own_f p3)), .val (.ref rs__141), .val (.int ((own_m p3) - (own_f p3))), .val (.int (1 : Int32))] [(.ref b2), (.int (0 : Int32)), (.ref rs__141)])) _
      refine XS.iload X155.here hx rfl (hb hby at_200) rfl ?_
      show Steps p.tables e below (T155.setTop (mkF m 202 #[.val (.int p1), .val (.int p2), .val (.int p3), .val (.ref b2), .val (.int (own_cap p3)), .val (.int (own_n p3)), .val (.ref b26), .val (.int (own_m p3)), .val (.int (own_f p3)), .val (.ref rs__141), .val (.int ((own_m p3) - (own_f p3))), .val (.int (1 : Int32))] [(.int (own_f p3)), (.ref b2), (.int (0 : Int32)), (.ref rs__141)])) _
      refine XS.iload X155.here hx rfl (hb hby at_202) rfl ?_
      exact k
    obtain ⟨_, _, ⟨T158, L158, k158c, n158⟩, -, X158, ⟨Lc158, hQ158, l158, y158, z158⟩, st158⟩ := Jvm.LawKit.callS X155 hx (y := (⟨"com/example/cureline/cureline/io/TextBufferSubstringPinLaw", "at", "(Ljava/lang/String;I[CII)Z"⟩ : MethodName)) hown (mvT hZ (hw _ (List.mem_of_getElem? (i := 70) rfl))) (mvT hZ (hw _ (List.mem_of_getElem? (i := 71) rfl))) (mvT hZ (hw _ (List.mem_of_getElem? (i := 72) rfl))) (mvT hZ (hw _ (List.mem_of_getElem? (i := 73) rfl))) (by decide) (backOf (W := 0) (own_rmat l Z a0 hw [] rs__141 (0 : Int32) b2 (own_f p3) ((own_m p3) - (own_f p3)) (mm - ff) ff fj 4 (own_cs p1 p2) 0 cs fm T141.heap n0 Z141 fq141_0 fq141_1 f149 Xo141 own_i0 hff (own_subn hmm hff (by omega)) SC SA SH SL SF hcs hfm (by omega) (by omega) hgf) hZ (hw _ (List.mem_of_getElem? (i := 73) rfl)) (hw _ (List.mem_of_getElem? (i := 72) rfl)) (by decide) (by decide)) (g := (mkF m 204 #[.val (.int p1), .val (.int p2), .val (.int p3), .val (.ref b2), .val (.int (own_cap p3)), .val (.int (own_n p3)), .val (.ref b26), .val (.int (own_m p3)), .val (.int (own_f p3)), .val (.ref rs__141), .val (.int ((own_m p3) - (own_f p3))), .val (.int (1 : Int32))] [(.int ((own_m p3) - (own_f p3))), (.int (own_f p3)), (.ref b2), (.int (0 : Int32)), (.ref rs__141)])) rfl (by rw [hml]; rfl) (argsL := [(.ref rs__141), (.int (0 : Int32)), (.ref b2), (.int (own_f p3)), (.int ((own_m p3) - (own_f p3)))]) (rest := []) (lenOf own_pd25 rfl) rfl (by show 2 * 0 + _ ≤ _; exact Nat.le_of_eq rfl) (hb hby at_204) (fun _ _ => ⟨rfl, e155, (by decide : 10 + 0 ≤ _), (by decide : 62 + 0 ≤ _)⟩)
    dsimp only [Pt.U, Pt.locs, Pt.cells, Pt.slots] at X158 l158 y158 z158 st158 hQ158
    subst l158 y158 z158
    obtain ⟨rfl, N158q, e158⟩ := hQ158
    have N158 := Fr.app N155 N158q
    have k159 : ∀ t, Steps p.tables e below (T158.setTop (mkF m 207 #[.val (.int p1), .val (.int p2), .val (.int p3), .val (.ref b2), .val (.int (own_cap p3)), .val (.int (own_n p3)), .val (.ref b26), .val (.int (own_m p3)), .val (.int (own_f p3)), .val (.ref rs__141), .val (.int ((own_m p3) - (own_f p3))), .val (.int (1 : Int32))] [(.int (1 : Int32))])) t → Steps p.tables e below (s₁.setTop (entryFrame m #[(.int p1), (.int p2), (.int p3)] maxLocals)) t := fun t k => k157 t (st158 t k)
    have k160 : ∀ t, Steps p.tables e below (T158.setTop (mkF m 218 #[.val (.int p1), .val (.int p2), .val (.int p3), .val (.ref b2), .val (.int (own_cap p3)), .val (.int (own_n p3)), .val (.ref b26), .val (.int (own_m p3)), .val (.int (own_f p3)), .val (.ref rs__141), .val (.int ((own_m p3) - (own_f p3))), .val (.int (1 : Int32))] [(.int ((own_m p3) - (own_f p3))), (.int (own_f p3)), (.ref b2), (.int (1 : Int32)), (.ref rs__141)])) t → Steps p.tables e below (s₁.setTop (entryFrame m #[(.int p1), (.int p2), (.int p3)] maxLocals)) t := by
      intro t k
      refine k159 t ?_
      show Steps p.tables e below (T158.setTop (mkF m 207 #[.val (.int p1), .val (.int p2), .val (.int p3), .val (.ref b2), .val (.int (own_cap p3)), .val (.int (own_n p3)), .val (.ref b26), .val (.int (own_m p3)), .val (.int (own_f p3)), .val (.ref rs__141), .val (.int ((own_m p3) - (own_f p3))), .val (.int (1 : Int32))] [(.int (1 : Int32))])) _
      refine XS.ifNo X158.here hx rfl (hb hby at_207) rfl ((if0 _ _).trans (feq (by decide : ¬ ((1 : Int32) = (0 : Int32)))).1) ?_
      show Steps p.tables e below (T158.setTop (mkF m 210 #[.val (.int p1), .val (.int p2), .val (.int p3), .val (.ref b2), .val (.int (own_cap p3)), .val (.int (own_n p3)), .val (.ref b26), .val (.int (own_m p3)), .val (.int (own_f p3)), .val (.ref rs__141), .val (.int ((own_m p3) - (own_f p3))), .val (.int (1 : Int32))] [])) _
      refine XS.aload X158.here hx rfl (hb hby at_210) rfl rfl ?_
      show Steps p.tables e below (T158.setTop (mkF m 212 #[.val (.int p1), .val (.int p2), .val (.int p3), .val (.ref b2), .val (.int (own_cap p3)), .val (.int (own_n p3)), .val (.ref b26), .val (.int (own_m p3)), .val (.int (own_f p3)), .val (.ref rs__141), .val (.int ((own_m p3) - (own_f p3))), .val (.int (1 : Int32))] [(.ref rs__141)])) _
      refine XS.iconst X158.here hx rfl (hb hby at_212) ?_
      show Steps p.tables e below (T158.setTop (mkF m 213 #[.val (.int p1), .val (.int p2), .val (.int p3), .val (.ref b2), .val (.int (own_cap p3)), .val (.int (own_n p3)), .val (.ref b26), .val (.int (own_m p3)), .val (.int (own_f p3)), .val (.ref rs__141), .val (.int ((own_m p3) - (own_f p3))), .val (.int (1 : Int32))] [(.int (1 : Int32)), (.ref rs__141)])) _
      refine XS.aloadN X158.here hx rfl (hb hby at_213) rfl rfl ?_
      show Steps p.tables e below (T158.setTop (mkF m 214 #[.val (.int p1), .val (.int p2), .val (.int p3), .val (.ref b2), .val (.int (own_cap p3)), .val (.int (own_n p3)), .val (.ref b26), .val (.int (own_m p3)), .val (.int (own_f p3)), .val (.ref rs__141), .val (.int ((own_m p3) - (own_f p3))), .val (.int (1 : Int32))] [(.ref b2), (.int (1 : Int32)), (.ref rs__141)])) _
      refine XS.iload X158.here hx rfl (hb hby at_214) rfl ?_
      show Steps p.tables e below (T158.setTop (mkF m 216 #[.val (.int p1), .val (.int p2), .val (.int p3), .val (.ref b2), .val (.int (own_cap p3)), .val (.int (own_n p3)), .val (.ref b26), .val (.int (own_m p3)), .val (.int (own_f p3)), .val (.ref rs__141), .val (.int ((own_m p3) - (own_f p3))), .val (.int (1 : Int32))] [(.int (own_f p3)), (.ref b2), (.int (1 : Int32)), (.ref rs__141)])) _
      refine XS.iload X158.here hx rfl (hb hby at_216) rfl ?_
      exact k
    obtain ⟨_, _, ⟨T161, L161, k161c, n161⟩, -, X161, ⟨Lc161, hQ161, l161, y161, z161⟩, st161⟩ := Jvm.LawKit.callS X158 hx (y := (⟨"com/example/cureline/cureline/io/TextBufferSubstringPinLaw", "at", "(Ljava/lang/String;I[CII)Z"⟩ : MethodName)) hown (mvT hZ (hw _ (List.mem_of_getElem? (i := 70) rfl))) (mvT hZ (hw _ (List.mem_of_getElem? (i := 71) rfl))) (mvT hZ (hw _ (List.mem_of_getElem? (i := 72) rfl))) (mvT hZ (hw _ (List.mem_of_getElem? (i := 73) rfl))) (by decide) (backOf (W := 0) (own_rmat l Z a0 hw [] rs__141 (1 : Int32) b2 (own_f p3) ((own_m p3) - (own_f p3)) (mm - ff) ff fj 4 (own_cs p1 p2) 1 cs fm T141.heap n0 Z141 fq141_0 fq141_1 f149 Xo141 own_i1 hff (own_subn hmm hff (by omega)) SC SA SH SL SF hcs hfm (by omega) (by omega) hgf) hZ (hw _ (List.mem_of_getElem? (i := 73) rfl)) (hw _ (List.mem_of_getElem? (i := 72) rfl)) (by decide) (by decide)) (g := (mkF m 218 #[.val (.int p1), .val (.int p2), .val (.int p3), .val (.ref b2), .val (.int (own_cap p3)), .val (.int (own_n p3)), .val (.ref b26), .val (.int (own_m p3)), .val (.int (own_f p3)), .val (.ref rs__141), .val (.int ((own_m p3) - (own_f p3))), .val (.int (1 : Int32))] [(.int ((own_m p3) - (own_f p3))), (.int (own_f p3)), (.ref b2), (.int (1 : Int32)), (.ref rs__141)])) rfl (by rw [hml]; rfl) (argsL := [(.ref rs__141), (.int (1 : Int32)), (.ref b2), (.int (own_f p3)), (.int ((own_m p3) - (own_f p3)))]) (rest := []) (lenOf own_pd25 rfl) rfl (by show 2 * 0 + _ ≤ _; exact Nat.le_of_eq rfl) (hb hby at_218) (fun _ _ => ⟨rfl, e158, (by decide : 10 + 0 ≤ _), (by decide : 62 + 0 ≤ _)⟩)
    dsimp only [Pt.U, Pt.locs, Pt.cells, Pt.slots] at X161 l161 y161 z161 st161 hQ161
    subst l161 y161 z161
    obtain ⟨rfl, N161q, e161⟩ := hQ161
    have N161 := Fr.app N158 N161q
    have k162 : ∀ t, Steps p.tables e below (T161.setTop (mkF m 221 #[.val (.int p1), .val (.int p2), .val (.int p3), .val (.ref b2), .val (.int (own_cap p3)), .val (.int (own_n p3)), .val (.ref b26), .val (.int (own_m p3)), .val (.int (own_f p3)), .val (.ref rs__141), .val (.int ((own_m p3) - (own_f p3))), .val (.int (1 : Int32))] [(.int (1 : Int32))])) t → Steps p.tables e below (s₁.setTop (entryFrame m #[(.int p1), (.int p2), (.int p3)] maxLocals)) t := fun t k => k160 t (st161 t k)
    have k163 : ∀ t, Steps p.tables e below (T161.setTop (mkF m 232 #[.val (.int p1), .val (.int p2), .val (.int p3), .val (.ref b2), .val (.int (own_cap p3)), .val (.int (own_n p3)), .val (.ref b26), .val (.int (own_m p3)), .val (.int (own_f p3)), .val (.ref rs__141), .val (.int ((own_m p3) - (own_f p3))), .val (.int (1 : Int32))] [(.int ((own_m p3) - (own_f p3))), (.int (own_f p3)), (.ref b2), (.int (2 : Int32)), (.ref rs__141)])) t → Steps p.tables e below (s₁.setTop (entryFrame m #[(.int p1), (.int p2), (.int p3)] maxLocals)) t := by
      intro t k
      refine k162 t ?_
      show Steps p.tables e below (T161.setTop (mkF m 221 #[.val (.int p1), .val (.int p2), .val (.int p3), .val (.ref b2), .val (.int (own_cap p3)), .val (.int (own_n p3)), .val (.ref b26), .val (.int (own_m p3)), .val (.int (own_f p3)), .val (.ref rs__141), .val (.int ((own_m p3) - (own_f p3))), .val (.int (1 : Int32))] [(.int (1 : Int32))])) _
      refine XS.ifNo X161.here hx rfl (hb hby at_221) rfl ((if0 _ _).trans (feq (by decide : ¬ ((1 : Int32) = (0 : Int32)))).1) ?_
      show Steps p.tables e below (T161.setTop (mkF m 224 #[.val (.int p1), .val (.int p2), .val (.int p3), .val (.ref b2), .val (.int (own_cap p3)), .val (.int (own_n p3)), .val (.ref b26), .val (.int (own_m p3)), .val (.int (own_f p3)), .val (.ref rs__141), .val (.int ((own_m p3) - (own_f p3))), .val (.int (1 : Int32))] [])) _
      refine XS.aload X161.here hx rfl (hb hby at_224) rfl rfl ?_
      show Steps p.tables e below (T161.setTop (mkF m 226 #[.val (.int p1), .val (.int p2), .val (.int p3), .val (.ref b2), .val (.int (own_cap p3)), .val (.int (own_n p3)), .val (.ref b26), .val (.int (own_m p3)), .val (.int (own_f p3)), .val (.ref rs__141), .val (.int ((own_m p3) - (own_f p3))), .val (.int (1 : Int32))] [(.ref rs__141)])) _
      refine XS.iconst X161.here hx rfl (hb hby at_226) ?_
      show Steps p.tables e below (T161.setTop (mkF m 227 #[.val (.int p1), .val (.int p2), .val (.int p3), .val (.ref b2), .val (.int (own_cap p3)), .val (.int (own_n p3)), .val (.ref b26), .val (.int (own_m p3)), .val (.int (own_f p3)), .val (.ref rs__141), .val (.int ((own_m p3) - (own_f p3))), .val (.int (1 : Int32))] [(.int (2 : Int32)), (.ref rs__141)])) _
      refine XS.aloadN X161.here hx rfl (hb hby at_227) rfl rfl ?_
      show Steps p.tables e below (T161.setTop (mkF m 228 #[.val (.int p1), .val (.int p2), .val (.int p3), .val (.ref b2), .val (.int (own_cap p3)), .val (.int (own_n p3)), .val (.ref b26), .val (.int (own_m p3)), .val (.int (own_f p3)), .val (.ref rs__141), .val (.int ((own_m p3) - (own_f p3))), .val (.int (1 : Int32))] [(.ref b2), (.int (2 : Int32)), (.ref rs__141)])) _
      refine XS.iload X161.here hx rfl (hb hby at_228) rfl ?_
      show Steps p.tables e below (T161.setTop (mkF m 230 #[.val (.int p1), .val (.int p2), .val (.int p3), .val (.ref b2), .val (.int (own_cap p3)), .val (.int (own_n p3)), .val (.ref b26), .val (.int (own_m p3)), .val (.int (own_f p3)), .val (.ref rs__141), .val (.int ((own_m p3) - (own_f p3))), .val (.int (1 : Int32))] [(.int (own_f p3)), (.ref b2), (.int (2 : Int32)), (.ref rs__141)])) _
      refine XS.iload X161.here hx rfl (hb hby at_230) rfl ?_
      exact k
    obtain ⟨_, _, ⟨T164, L164, k164c, n164⟩, -, X164, ⟨Lc164, hQ164, l164, y164, z164⟩, st164⟩ := Jvm.LawKit.callS X161 hx (y := (⟨"com/example/cureline/cureline/io/TextBufferSubstringPinLaw", "at", "(Ljava/lang/String;I[CII)Z"⟩ : MethodName)) hown (mvT hZ (hw _ (List.mem_of_getElem? (i := 70) rfl))) (mvT hZ (hw _ (List.mem_of_getElem? (i := 71) rfl))) (mvT hZ (hw _ (List.mem_of_getElem? (i := 72) rfl))) (mvT hZ (hw _ (List.mem_of_getElem? (i := 73) rfl))) (by decide) (backOf (W := 0) (own_rmat l Z a0 hw [] rs__141 (2 : Int32) b2 (own_f p3) ((own_m p3) - (own_f p3)) (mm - ff) ff fj 4 (own_cs p1 p2) 2 cs fm T141.heap n0 Z141 fq141_0 fq141_1 f149 Xo141 own_i2 hff (own_subn hmm hff (by omega)) SC SA SH SL SF hcs hfm (by omega) (by omega) hgf) hZ (hw _ (List.mem_of_getElem? (i := 73) rfl)) (hw _ (List.mem_of_getElem? (i := 72) rfl)) (by decide) (by decide)) (g := (mkF m 232 #[.val (.int p1), .val (.int p2), .val (.int p3), .val (.ref b2), .val (.int (own_cap p3)), .val (.int (own_n p3)), .val (.ref b26), .val (.int (own_m p3)), .val (.int (own_f p3)), .val (.ref rs__141), .val (.int ((own_m p3) - (own_f p3))), .val (.int (1 : Int32))] [(.int ((own_m p3) - (own_f p3))), (.int (own_f p3)), (.ref b2), (.int (2 : Int32)), (.ref rs__141)])) rfl (by rw [hml]; rfl) (argsL := [(.ref rs__141), (.int (2 : Int32)), (.ref b2), (.int (own_f p3)), (.int ((own_m p3) - (own_f p3)))]) (rest := []) (lenOf own_pd25 rfl) rfl (by show 2 * 0 + _ ≤ _; exact Nat.le_of_eq rfl) (hb hby at_232) (fun _ _ => ⟨rfl, e161, (by decide : 10 + 0 ≤ _), (by decide : 62 + 0 ≤ _)⟩)
    dsimp only [Pt.U, Pt.locs, Pt.cells, Pt.slots] at X164 l164 y164 z164 st164 hQ164
    subst l164 y164 z164
    obtain ⟨rfl, N164q, e164⟩ := hQ164
    have N164 := Fr.app N161 N164q
    have k165 : ∀ t, Steps p.tables e below (T164.setTop (mkF m 235 #[.val (.int p1), .val (.int p2), .val (.int p3), .val (.ref b2), .val (.int (own_cap p3)), .val (.int (own_n p3)), .val (.ref b26), .val (.int (own_m p3)), .val (.int (own_f p3)), .val (.ref rs__141), .val (.int ((own_m p3) - (own_f p3))), .val (.int (1 : Int32))] [(.int (1 : Int32))])) t → Steps p.tables e below (s₁.setTop (entryFrame m #[(.int p1), (.int p2), (.int p3)] maxLocals)) t := fun t k => k163 t (st164 t k)
    have k166 : ∀ t, Steps p.tables e below (T164.setTop (mkF m 246 #[.val (.int p1), .val (.int p2), .val (.int p3), .val (.ref b2), .val (.int (own_cap p3)), .val (.int (own_n p3)), .val (.ref b26), .val (.int (own_m p3)), .val (.int (own_f p3)), .val (.ref rs__141), .val (.int ((own_m p3) - (own_f p3))), .val (.int (1 : Int32))] [(.int ((own_m p3) - (own_f p3))), (.int (own_f p3)), (.ref b2), (.int (3 : Int32)), (.ref rs__141)])) t → Steps p.tables e below (s₁.setTop (entryFrame m #[(.int p1), (.int p2), (.int p3)] maxLocals)) t := by
      intro t k
      refine k165 t ?_
      show Steps p.tables e below (T164.setTop (mkF m 235 #[.val (.int p1), .val (.int p2), .val (.int p3), .val (.ref b2), .val (.int (own_cap p3)), .val (.int (own_n p3)), .val (.ref b26), .val (.int (own_m p3)), .val (.int (own_f p3)), .val (.ref rs__141), .val (.int ((own_m p3) - (own_f p3))), .val (.int (1 : Int32))] [(.int (1 : Int32))])) _
      refine XS.ifNo X164.here hx rfl (hb hby at_235) rfl ((if0 _ _).trans (feq (by decide : ¬ ((1 : Int32) = (0 : Int32)))).1) ?_
      show Steps p.tables e below (T164.setTop (mkF m 238 #[.val (.int p1), .val (.int p2), .val (.int p3), .val (.ref b2), .val (.int (own_cap p3)), .val (.int (own_n p3)), .val (.ref b26), .val (.int (own_m p3)), .val (.int (own_f p3)), .val (.ref rs__141), .val (.int ((own_m p3) - (own_f p3))), .val (.int (1 : Int32))] [])) _
      refine XS.aload X164.here hx rfl (hb hby at_238) rfl rfl ?_
      show Steps p.tables e below (T164.setTop (mkF m 240 #[.val (.int p1), .val (.int p2), .val (.int p3), .val (.ref b2), .val (.int (own_cap p3)), .val (.int (own_n p3)), .val (.ref b26), .val (.int (own_m p3)), .val (.int (own_f p3)), .val (.ref rs__141), .val (.int ((own_m p3) - (own_f p3))), .val (.int (1 : Int32))] [(.ref rs__141)])) _
      refine XS.iconst X164.here hx rfl (hb hby at_240) ?_
      show Steps p.tables e below (T164.setTop (mkF m 241 #[.val (.int p1), .val (.int p2), .val (.int p3), .val (.ref b2), .val (.int (own_cap p3)), .val (.int (own_n p3)), .val (.ref b26), .val (.int (own_m p3)), .val (.int (own_f p3)), .val (.ref rs__141), .val (.int ((own_m p3) - (own_f p3))), .val (.int (1 : Int32))] [(.int (3 : Int32)), (.ref rs__141)])) _
      refine XS.aloadN X164.here hx rfl (hb hby at_241) rfl rfl ?_
      show Steps p.tables e below (T164.setTop (mkF m 242 #[.val (.int p1), .val (.int p2), .val (.int p3), .val (.ref b2), .val (.int (own_cap p3)), .val (.int (own_n p3)), .val (.ref b26), .val (.int (own_m p3)), .val (.int (own_f p3)), .val (.ref rs__141), .val (.int ((own_m p3) - (own_f p3))), .val (.int (1 : Int32))] [(.ref b2), (.int (3 : Int32)), (.ref rs__141)])) _
      refine XS.iload X164.here hx rfl (hb hby at_242) rfl ?_
      show Steps p.tables e below (T164.setTop (mkF m 244 #[.val (.int p1), .val (.int p2), .val (.int p3), .val (.ref b2), .val (.int (own_cap p3)), .val (.int (own_n p3)), .val (.ref b26), .val (.int (own_m p3)), .val (.int (own_f p3)), .val (.ref rs__141), .val (.int ((own_m p3) - (own_f p3))), .val (.int (1 : Int32))] [(.int (own_f p3)), (.ref b2), (.int (3 : Int32)), (.ref rs__141)])) _
      refine XS.iload X164.here hx rfl (hb hby at_244) rfl ?_
      exact k
    obtain ⟨_, _, ⟨T167, L167, k167c, n167⟩, -, X167, ⟨Lc167, hQ167, l167, y167, z167⟩, st167⟩ := Jvm.LawKit.callS X164 hx (y := (⟨"com/example/cureline/cureline/io/TextBufferSubstringPinLaw", "at", "(Ljava/lang/String;I[CII)Z"⟩ : MethodName)) hown (mvT hZ (hw _ (List.mem_of_getElem? (i := 70) rfl))) (mvT hZ (hw _ (List.mem_of_getElem? (i := 71) rfl))) (mvT hZ (hw _ (List.mem_of_getElem? (i := 72) rfl))) (mvT hZ (hw _ (List.mem_of_getElem? (i := 73) rfl))) (by decide) (backOf (W := 0) (own_rmat l Z a0 hw [] rs__141 (3 : Int32) b2 (own_f p3) ((own_m p3) - (own_f p3)) (mm - ff) ff fj 4 (own_cs p1 p2) 3 cs fm T141.heap n0 Z141 fq141_0 fq141_1 f149 Xo141 own_i3 hff (own_subn hmm hff (by omega)) SC SA SH SL SF hcs hfm (by omega) (by omega) hgf) hZ (hw _ (List.mem_of_getElem? (i := 73) rfl)) (hw _ (List.mem_of_getElem? (i := 72) rfl)) (by decide) (by decide)) (g := (mkF m 246 #[.val (.int p1), .val (.int p2), .val (.int p3), .val (.ref b2), .val (.int (own_cap p3)), .val (.int (own_n p3)), .val (.ref b26), .val (.int (own_m p3)), .val (.int (own_f p3)), .val (.ref rs__141), .val (.int ((own_m p3) - (own_f p3))), .val (.int (1 : Int32))] [(.int ((own_m p3) - (own_f p3))), (.int (own_f p3)), (.ref b2), (.int (3 : Int32)), (.ref rs__141)])) rfl (by rw [hml]; rfl) (argsL := [(.ref rs__141), (.int (3 : Int32)), (.ref b2), (.int (own_f p3)), (.int ((own_m p3) - (own_f p3)))]) (rest := []) (lenOf own_pd25 rfl) rfl (by show 2 * 0 + _ ≤ _; exact Nat.le_of_eq rfl) (hb hby at_246) (fun _ _ => ⟨rfl, e164, (by decide : 10 + 0 ≤ _), (by decide : 62 + 0 ≤ _)⟩)
    dsimp only [Pt.U, Pt.locs, Pt.cells, Pt.slots] at X167 l167 y167 z167 st167 hQ167
    subst l167 y167 z167
    obtain ⟨rfl, N167q, e167⟩ := hQ167
    have N167 := Fr.app N164 N167q
    have k168 : ∀ t, Steps p.tables e below (T167.setTop (mkF m 249 #[.val (.int p1), .val (.int p2), .val (.int p3), .val (.ref b2), .val (.int (own_cap p3)), .val (.int (own_n p3)), .val (.ref b26), .val (.int (own_m p3)), .val (.int (own_f p3)), .val (.ref rs__141), .val (.int ((own_m p3) - (own_f p3))), .val (.int (1 : Int32))] [(.int (1 : Int32))])) t → Steps p.tables e below (s₁.setTop (entryFrame m #[(.int p1), (.int p2), (.int p3)] maxLocals)) t := fun t k => k166 t (st167 t k)
    have k169 : ∀ t, Steps p.tables e below (T167.setTop (mkF m 261 #[.val (.int p1), .val (.int p2), .val (.int p3), .val (.ref b2), .val (.int (own_cap p3)), .val (.int (own_n p3)), .val (.ref b26), .val (.int (own_m p3)), .val (.int (own_f p3)), .val (.ref rs__141), .val (.int ((own_m p3) - (own_f p3))), .val (.int (1 : Int32))] [(.int (1 : Int32))])) t → Steps p.tables e below (s₁.setTop (entryFrame m #[(.int p1), (.int p2), (.int p3)] maxLocals)) t := by
      intro t k
      refine k168 t ?_
      show Steps p.tables e below (T167.setTop (mkF m 249 #[.val (.int p1), .val (.int p2), .val (.int p3), .val (.ref b2), .val (.int (own_cap p3)), .val (.int (own_n p3)), .val (.ref b26), .val (.int (own_m p3)), .val (.int (own_f p3)), .val (.ref rs__141), .val (.int ((own_m p3) - (own_f p3))), .val (.int (1 : Int32))] [(.int (1 : Int32))])) _
      refine XS.ifNo X167.here hx rfl (hb hby at_249) rfl ((if0 _ _).trans (feq (by decide : ¬ ((1 : Int32) = (0 : Int32)))).1) ?_
      show Steps p.tables e below (T167.setTop (mkF m 252 #[.val (.int p1), .val (.int p2), .val (.int p3), .val (.ref b2), .val (.int (own_cap p3)), .val (.int (own_n p3)), .val (.ref b26), .val (.int (own_m p3)), .val (.int (own_f p3)), .val (.ref rs__141), .val (.int ((own_m p3) - (own_f p3))), .val (.int (1 : Int32))] [])) _
      refine XS.iconst X167.here hx rfl (hb hby at_252) ?_
      show Steps p.tables e below (T167.setTop (mkF m 253 #[.val (.int p1), .val (.int p2), .val (.int p3), .val (.ref b2), .val (.int (own_cap p3)), .val (.int (own_n p3)), .val (.ref b26), .val (.int (own_m p3)), .val (.int (own_f p3)), .val (.ref rs__141), .val (.int ((own_m p3) - (own_f p3))), .val (.int (1 : Int32))] [(.int (1 : Int32))])) _
      refine XS.goto X167.here hx rfl (pc0 := 253) (pc' := 257) rfl (hb hby at_253) (by decide) (by decide) ?_
      show Steps p.tables e below (T167.setTop (mkF m 257 #[.val (.int p1), .val (.int p2), .val (.int p3), .val (.ref b2), .val (.int (own_cap p3)), .val (.int (own_n p3)), .val (.ref b26), .val (.int (own_m p3)), .val (.int (own_f p3)), .val (.ref rs__141), .val (.int ((own_m p3) - (own_f p3))), .val (.int (1 : Int32))] [(.int (1 : Int32))])) _
      refine XS.istore X167.here hx rfl (hb hby at_257) rfl (l' := #[.val (.int p1), .val (.int p2), .val (.int p3), .val (.ref b2), .val (.int (own_cap p3)), .val (.int (own_n p3)), .val (.ref b26), .val (.int (own_m p3)), .val (.int (own_f p3)), .val (.ref rs__141), .val (.int ((own_m p3) - (own_f p3))), .val (.int (1 : Int32))]) rfl ?_
      show Steps p.tables e below (T167.setTop (mkF m 259 #[.val (.int p1), .val (.int p2), .val (.int p3), .val (.ref b2), .val (.int (own_cap p3)), .val (.int (own_n p3)), .val (.ref b26), .val (.int (own_m p3)), .val (.int (own_f p3)), .val (.ref rs__141), .val (.int ((own_m p3) - (own_f p3))), .val (.int (1 : Int32))] [])) _
      refine XS.iload X167.here hx rfl (hb hby at_259) rfl ?_
      exact k
    obtain ⟨fs, hr, hrun, hended, hW, hsame⟩ := X167.leave (v := (some (.int (1 : Int32)))) (fun h => by rw [Bd.returns] at h; cases h)
    refine ⟨_, _, k169 _ ?_, hrun, hended, _, _, rfl, ?_, ⟨_, rfl⟩, hW.wide, hW.no_new_pair _, hsame.mono (by decide) (by decide)⟩
    · exact retN X167 hx (t := .boolean) Bd.returns (by simp) (hb hby at_261) hr
    · exact ⟨rfl, N167⟩
  · skip
    have hfe : (own_f p3).toInt = (mm : Int) := by rw [hff, show ff = mm by omega]
    have hgf : ∀ i, i < 0 → fj (mm + i) = (own_cs p1 p2) (mm + i) := fun i hi => absurd hi (Nat.not_lt_zero i)
    have k170 : ∀ t, Steps p.tables e below (T134.setTop (mkF m 152 #[.val (.int p1), .val (.int p2), .val (.int p3), .val (.ref b2), .val (.int (own_cap p3)), .val (.int (own_n p3)), .val (.ref b26), .val (.int (own_m p3)), .val (.int (own_f p3)), .unset, .unset, .unset] [(.int (own_f p3)), (.ref b26)])) t → Steps p.tables e below (s₁.setTop (entryFrame m #[(.int p1), (.int p2), (.int p3)] maxLocals)) t := by
      intro t k
      refine k139 t ?_
      show Steps p.tables e below (T134.setTop (mkF m 148 #[.val (.int p1), .val (.int p2), .val (.int p3), .val (.ref b2), .val (.int (own_cap p3)), .val (.int (own_n p3)), .val (.ref b26), .val (.int (own_m p3)), .val (.int (own_f p3)), .unset, .unset, .unset] [])) _
      refine XS.aload X134.here hx rfl (hb hby at_148) rfl rfl ?_
      show Steps p.tables e below (T134.setTop (mkF m 150 #[.val (.int p1), .val (.int p2), .val (.int p3), .val (.ref b2), .val (.int (own_cap p3)), .val (.int (own_n p3)), .val (.ref b26), .val (.int (own_m p3)), .val (.int (own_f p3)), .unset, .unset, .unset] [(.ref b26)])) _
      refine XS.iload X134.here hx rfl (hb hby at_150) rfl ?_
      exact k
    obtain ⟨_, T171, L171, X171, Si171, hZ, hown, hQ171, st171⟩ := own_callVW (W := 0) X134 hx hw hZ hown (hH0.keep K134 (fun x hx => nomatch hx)) (hw _ (List.mem_of_getElem? (i := 19) rfl)) (hw _ (List.mem_of_getElem? (i := 20) rfl)) (hw _ (List.mem_of_getElem? (i := 22) rfl)) (hw _ (List.mem_of_getElem? (i := 21) rfl)) (hw _ (List.mem_of_getElem? (i := 3) rfl)) (hw _ (List.mem_of_getElem? (i := 23) rfl)) (by decide) (own_rmsbw l Z a0 hw [] b26 (own_f p3) bj (own_m p3) zj fj mm fm T134.heap n0 Z134 f135 fq134_0 fq134_1 f136 Xo134 hmm hfe SF hfm (by omega) (by omega)) (by decide) (by decide) rfl f135 (g := (mkF m 152 #[.val (.int p1), .val (.int p2), .val (.int p3), .val (.ref b2), .val (.int (own_cap p3)), .val (.int (own_n p3)), .val (.ref b26), .val (.int (own_m p3)), .val (.int (own_f p3)), .unset, .unset, .unset] [(.int (own_f p3)), (.ref b26)])) rfl (by rw [hml]; rfl) own_pd23 (argsL := [(.int (own_f p3))]) (rest := []) rfl rfl rfl (by show 2 * 0 + _ ≤ _; exact Nat.le_of_eq rfl) (hb hby at_152) (by decide) (by decide)
    obtain ⟨rs__171, rfl, N171q, Kq171, gz171_s_, fq171_0, fq171_1⟩ := hQ171
    have N171 := Fr.app N134 N171q
    have ge171_s_ : n0 ≤ rs__171 := Nat.le_trans Z134 gz171_s_
    have bo171_s_ : h0.size ≤ rs__171 := Nat.le_trans K134.1 gz171_s_
    have ne172 : b2 ≠ rs__171 := Nat.ne_of_lt (Nat.lt_of_lt_of_le f137.lt gz171_s_)
    have ne173 : b26 ≠ rs__171 := Nat.ne_of_lt (Nat.lt_of_lt_of_le f135.lt gz171_s_)
    have ne174 : bj ≠ rs__171 := Nat.ne_of_lt (Nat.lt_of_lt_of_le f136.lt gz171_s_)
    have f175 := f135.keep Kq171
    have f176 := fq134_0.keep Kq171 List.not_mem_nil
    have f177 := fq134_1.keep Kq171 List.not_mem_nil
    have f178 := f136.keep Kq171 List.not_mem_nil
    have f179 := f137.keep Kq171 List.not_mem_nil
    have Z171 : n0 ≤ T171.heap.size := Nat.le_trans Z134 Kq171.1
    have K171 : Keep h0 T171.heap [] := K134.trans Kq171 (fun x hx => nomatch hx)
    have Xo171 := Xo134.keep Kq171 all0
    have k180 : ∀ t, Steps p.tables e below (T171.setTop (mkF m 155 #[.val (.int p1), .val (.int p2), .val (.int p3), .val (.ref b2), .val (.int (own_cap p3)), .val (.int (own_n p3)), .val (.ref b26), .val (.int (own_m p3)), .val (.int (own_f p3)), .unset, .unset, .unset] [(.ref rs__171)])) t → Steps p.tables e below (s₁.setTop (entryFrame m #[(.int p1), (.int p2), (.int p3)] maxLocals)) t := fun t k => k170 t (st171 t k)
    have k181 : ∀ t, Steps p.tables e below (T171.setTop (mkF m 166 #[.val (.int p1), .val (.int p2), .val (.int p3), .val (.ref b2), .val (.int (own_cap p3)), .val (.int (own_n p3)), .val (.ref b26), .val (.int (own_m p3)), .val (.int (own_f p3)), .val (.ref rs__171), .val (.int ((own_m p3) - (own_f p3))), .unset] [(.ref rs__171)])) t → Steps p.tables e below (s₁.setTop (entryFrame m #[(.int p1), (.int p2), (.int p3)] maxLocals)) t := by
      intro t k
      refine k180 t ?_
      show Steps p.tables e below (T171.setTop (mkF m 155 #[.val (.int p1), .val (.int p2), .val (.int p3), .val (.ref b2), .val (.int (own_cap p3)), .val (.int (own_n p3)), .val (.ref b26), .val (.int (own_m p3)), .val (.int (own_f p3)), .unset, .unset, .unset] [(.ref rs__171)])) _
      refine XS.astore X171.here hx rfl (hb hby at_155) rfl rfl (l' := #[.val (.int p1), .val (.int p2), .val (.int p3), .val (.ref b2), .val (.int (own_cap p3)), .val (.int (own_n p3)), .val (.ref b26), .val (.int (own_m p3)), .val (.int (own_f p3)), .val (.ref rs__171), .unset, .unset]) rfl ?_
      show Steps p.tables e below (T171.setTop (mkF m 157 #[.val (.int p1), .val (.int p2), .val (.int p3), .val (.ref b2), .val (.int (own_cap p3)), .val (.int (own_n p3)), .val (.ref b26), .val (.int (own_m p3)), .val (.int (own_f p3)), .val (.ref rs__171), .unset, .unset] [])) _
      refine XS.iload X171.here hx rfl (hb hby at_157) rfl ?_
      show Steps p.tables e below (T171.setTop (mkF m 159 #[.val (.int p1), .val (.int p2), .val (.int p3), .val (.ref b2), .val (.int (own_cap p3)), .val (.int (own_n p3)), .val (.ref b26), .val (.int (own_m p3)), .val (.int (own_f p3)), .val (.ref rs__171), .unset, .unset] [(.int (own_m p3))])) _
      refine XS.iload X171.here hx rfl (hb hby at_159) rfl ?_
      show Steps p.tables e below (T171.setTop (mkF m 161 #[.val (.int p1), .val (.int p2), .val (.int p3), .val (.ref b2), .val (.int (own_cap p3)), .val (.int (own_n p3)), .val (.ref b26), .val (.int (own_m p3)), .val (.int (own_f p3)), .val (.ref rs__171), .unset, .unset] [(.int (own_f p3)), (.int (own_m p3))])) _
      refine XS.isub X171.here hx rfl (hb hby at_161) rfl ?_
      show Steps p.tables e below (T171.setTop (mkF m 162 #[.val (.int p1), .val (.int p2), .val (.int p3), .val (.ref b2), .val (.int (own_cap p3)), .val (.int (own_n p3)), .val (.ref b26), .val (.int (own_m p3)), .val (.int (own_f p3)), .val (.ref rs__171), .unset, .unset] [(.int ((own_m p3) - (own_f p3)))])) _
      refine XS.istore X171.here hx rfl (hb hby at_162) rfl (l' := #[.val (.int p1), .val (.int p2), .val (.int p3), .val (.ref b2), .val (.int (own_cap p3)), .val (.int (own_n p3)), .val (.ref b26), .val (.int (own_m p3)), .val (.int (own_f p3)), .val (.ref rs__171), .val (.int ((own_m p3) - (own_f p3))), .unset]) rfl ?_
      show Steps p.tables e below (T171.setTop (mkF m 164 #[.val (.int p1), .val (.int p2), .val (.int p3), .val (.ref b2), .val (.int (own_cap p3)), .val (.int (own_n p3)), .val (.ref b26), .val (.int (own_m p3)), .val (.int (own_f p3)), .val (.ref rs__171), .val (.int ((own_m p3) - (own_f p3))), .unset] [])) _
      refine XS.aload X171.here hx rfl (hb hby at_164) rfl rfl ?_
      exact k
    obtain ⟨cq182, kq182, q182a, q182b, q182c⟩ := isOf hZ rfl fq171_0
    obtain ⟨_, _, ⟨T182, L182, k182c, n182⟩, -, X182, ⟨Lc182, hQ182, l182, y182, z182⟩, st182⟩ := X171.virtualBack hx (y := (⟨"java/lang/String", "length", "()I"⟩ : MethodName)) (z := (⟨"java/lang/String", "length", "()I"⟩ : MethodName)) hown (mvT hZ (hw _ (List.mem_of_getElem? (i := 54) rfl))) (mvT hZ (hw _ (List.mem_of_getElem? (i := 55) rfl))) (notFace_of_selects (args := #[]) (mvT hZ (hw _ (List.mem_of_getElem? (i := 57) rfl)))) (mvT hZ (hw _ (List.mem_of_getElem? (i := 57) rfl))) (mvT hZ (hw _ (List.mem_of_getElem? (i := 56) rfl))) (by decide) (backOf (W := 0) (own_rmle l Z a0 hw [] rs__171 0 mm fj cs T171.heap n0 Z171 fq171_0 fq171_1 Xo171 SC hcs) hZ (hw _ (List.mem_of_getElem? (i := 58) rfl)) (hw _ (List.mem_of_getElem? (i := 26) rfl)) (by decide) (by decide)) q182a q182c (g := (mkF m 166 #[.val (.int p1), .val (.int p2), .val (.int p3), .val (.ref b2), .val (.int (own_cap p3)), .val (.int (own_n p3)), .val (.ref b26), .val (.int (own_m p3)), .val (.int (own_f p3)), .val (.ref rs__171), .val (.int ((own_m p3) - (own_f p3))), .unset] [(.ref rs__171)])) rfl (by rw [hml]; rfl) (Steps.refl _) (argsL := []) (rest := []) (lenOf own_pd24 rfl) rfl (by show 2 * 0 + _ ≤ _; exact Nat.le_of_eq rfl) (hb hby at_166) (fun _ _ => ⟨rfl, rfl, (by decide : 10 + 0 ≤ _), (by decide : 54 + 0 ≤ _)⟩)
    dsimp only [Pt.U, Pt.locs, Pt.cells, Pt.slots] at X182 l182 y182 z182 st182 hQ182
    subst l182 y182 z182
    obtain ⟨r_182, rfl, N182q, e182, hq182_hr⟩ := hQ182
    have N182 := Fr.app N171 N182q
    have k183 : ∀ t, Steps p.tables e below (T182.setTop (mkF m 169 #[.val (.int p1), .val (.int p2), .val (.int p3), .val (.ref b2), .val (.int (own_cap p3)), .val (.int (own_n p3)), .val (.ref b26), .val (.int (own_m p3)), .val (.int (own_f p3)), .val (.ref rs__171), .val (.int ((own_m p3) - (own_f p3))), .unset] [(.int r_182)])) t → Steps p.tables e below (s₁.setTop (entryFrame m #[(.int p1), (.int p2), (.int p3)] maxLocals)) t := fun t k => k181 t (st182.trans k)
    have k184 : ∀ t, Steps p.tables e below (T182.setTop (mkF m 176 #[.val (.int p1), .val (.int p2), .val (.int p3), .val (.ref b2), .val (.int (own_cap p3)), .val (.int (own_n p3)), .val (.ref b26), .val (.int (own_m p3)), .val (.int (own_f p3)), .val (.ref rs__171), .val (.int ((own_m p3) - (own_f p3))), .unset] [(.ref b26)])) t → Steps p.tables e below (s₁.setTop (entryFrame m #[(.int p1), (.int p2), (.int p3)] maxLocals)) t := by
      intro t k
      refine k183 t ?_
      show Steps p.tables e below (T182.setTop (mkF m 169 #[.val (.int p1), .val (.int p2), .val (.int p3), .val (.ref b2), .val (.int (own_cap p3)), .val (.int (own_n p3)), .val (.ref b26), .val (.int (own_m p3)), .val (.int (own_f p3)), .val (.ref rs__171), .val (.int ((own_m p3) - (own_f p3))), .unset] [(.int r_182)])) _
      refine XS.iload X182.here hx rfl (hb hby at_169) rfl ?_
      show Steps p.tables e below (T182.setTop (mkF m 171 #[.val (.int p1), .val (.int p2), .val (.int p3), .val (.ref b2), .val (.int (own_cap p3)), .val (.int (own_n p3)), .val (.ref b26), .val (.int (own_m p3)), .val (.int (own_f p3)), .val (.ref rs__171), .val (.int ((own_m p3) - (own_f p3))), .unset] [(.int ((own_m p3) - (own_f p3))), (.int r_182)])) _
      refine XS.icmpNo X182.here hx rfl (hb hby at_171) rfl (teq (own_eqn hq182_hr (own_subz hmm hfe))).2 ?_
      show Steps p.tables e below (T182.setTop (mkF m 174 #[.val (.int p1), .val (.int p2), .val (.int p3), .val (.ref b2), .val (.int (own_cap p3)), .val (.int (own_n p3)), .val (.ref b26), .val (.int (own_m p3)), .val (.int (own_f p3)), .val (.ref rs__171), .val (.int ((own_m p3) - (own_f p3))), .unset] [])) _
      refine XS.aload X182.here hx rfl (hb hby at_174) rfl rfl ?_
      exact k
    obtain ⟨cq185, kq185, q185a, q185b, q185c⟩ := isOf hZ e182 f175
    obtain ⟨_, _, ⟨T185, L185, k185c, n185⟩, -, X185, ⟨Lc185, hQ185, l185, y185, z185⟩, st185⟩ := X182.virtualBack hx (y := (⟨"com/example/cureline/cureline/io/TextBuffer", "length", "()I"⟩ : MethodName)) (z := (⟨"com/example/cureline/cureline/io/TextBuffer", "length", "()I"⟩ : MethodName)) hown (mvT hZ (hw _ (List.mem_of_getElem? (i := 65) rfl))) (mvT hZ (hw _ (List.mem_of_getElem? (i := 66) rfl))) (notFace_of_selects (args := #[]) (mvT hZ (hw _ (List.mem_of_getElem? (i := 68) rfl)))) (mvT hZ (hw _ (List.mem_of_getElem? (i := 68) rfl))) (mvT hZ (hw _ (List.mem_of_getElem? (i := 67) rfl))) (by decide) (backOf (W := 0) (own_rmtl l Z a0 hw [] b26 (own_m p3) T171.heap n0 Z171 f175 f177) hZ (hw _ (List.mem_of_getElem? (i := 69) rfl)) (hw _ (List.mem_of_getElem? (i := 3) rfl)) (by decide) (by decide)) q185a q185c (g := (mkF m 176 #[.val (.int p1), .val (.int p2), .val (.int p3), .val (.ref b2), .val (.int (own_cap p3)), .val (.int (own_n p3)), .val (.ref b26), .val (.int (own_m p3)), .val (.int (own_f p3)), .val (.ref rs__171), .val (.int ((own_m p3) - (own_f p3))), .unset] [(.ref b26)])) rfl (by rw [hml]; rfl) (Steps.refl _) (argsL := []) (rest := []) (lenOf own_pd24 rfl) rfl (by show 2 * 0 + _ ≤ _; exact Nat.le_of_eq rfl) (hb hby at_176) (fun _ _ => ⟨rfl, e182, (by decide : 10 + 0 ≤ _), (by decide : 54 + 0 ≤ _)⟩)
    dsimp only [Pt.U, Pt.locs, Pt.cells, Pt.slots] at X185 l185 y185 z185 st185 hQ185
    subst l185 y185 z185
    obtain ⟨rfl, N185q, e185⟩ := hQ185
    have N185 := Fr.app N182 N185q
    have k186 : ∀ t, Steps p.tables e below (T185.setTop (mkF m 179 #[.val (.int p1), .val (.int p2), .val (.int p3), .val (.ref b2), .val (.int (own_cap p3)), .val (.int (own_n p3)), .val (.ref b26), .val (.int (own_m p3)), .val (.int (own_f p3)), .val (.ref rs__171), .val (.int ((own_m p3) - (own_f p3))), .unset] [(.int (own_m p3))])) t → Steps p.tables e below (s₁.setTop (entryFrame m #[(.int p1), (.int p2), (.int p3)] maxLocals)) t := fun t k => k184 t (st185.trans k)
    have k187 : ∀ t, Steps p.tables e below (T185.setTop (mkF m 204 #[.val (.int p1), .val (.int p2), .val (.int p3), .val (.ref b2), .val (.int (own_cap p3)), .val (.int (own_n p3)), .val (.ref b26), .val (.int (own_m p3)), .val (.int (own_f p3)), .val (.ref rs__171), .val (.int ((own_m p3) - (own_f p3))), .val (.int (1 : Int32))] [(.int ((own_m p3) - (own_f p3))), (.int (own_f p3)), (.ref b2), (.int (0 : Int32)), (.ref rs__171)])) t → Steps p.tables e below (s₁.setTop (entryFrame m #[(.int p1), (.int p2), (.int p3)] maxLocals)) t := by
      intro t k
      refine k186 t ?_
      show Steps p.tables e below (T185.setTop (mkF m 179 #[.val (.int p1), .val (.int p2), .val (.int p3), .val (.ref b2), .val (.int (own_cap p3)), .val (.int (own_n p3)), .val (.ref b26), .val (.int (own_m p3)), .val (.int (own_f p3)), .val (.ref rs__171), .val (.int ((own_m p3) - (own_f p3))), .unset] [(.int (own_m p3))])) _
      refine XS.iload X185.here hx rfl (hb hby at_179) rfl ?_
      show Steps p.tables e below (T185.setTop (mkF m 181 #[.val (.int p1), .val (.int p2), .val (.int p3), .val (.ref b2), .val (.int (own_cap p3)), .val (.int (own_n p3)), .val (.ref b26), .val (.int (own_m p3)), .val (.int (own_f p3)), .val (.ref rs__171), .val (.int ((own_m p3) - (own_f p3))), .unset] [(.int (own_m p3)), (.int (own_m p3))])) _
      refine XS.icmpNo X185.here hx rfl (hb hby at_181) rfl (teq (rfl : (own_m p3) = (own_m p3))).2 ?_
      show Steps p.tables e below (T185.setTop (mkF m 184 #[.val (.int p1), .val (.int p2), .val (.int p3), .val (.ref b2), .val (.int (own_cap p3)), .val (.int (own_n p3)), .val (.ref b26), .val (.int (own_m p3)), .val (.int (own_f p3)), .val (.ref rs__171), .val (.int ((own_m p3) - (own_f p3))), .unset] [])) _
      refine XS.iconst X185.here hx rfl (hb hby at_184) ?_
      show Steps p.tables e below (T185.setTop (mkF m 185 #[.val (.int p1), .val (.int p2), .val (.int p3), .val (.ref b2), .val (.int (own_cap p3)), .val (.int (own_n p3)), .val (.ref b26), .val (.int (own_m p3)), .val (.int (own_f p3)), .val (.ref rs__171), .val (.int ((own_m p3) - (own_f p3))), .unset] [(.int (1 : Int32))])) _
      refine XS.goto X185.here hx rfl (pc0 := 185) (pc' := 189) rfl (hb hby at_185) (by decide) (by decide) ?_
      show Steps p.tables e below (T185.setTop (mkF m 189 #[.val (.int p1), .val (.int p2), .val (.int p3), .val (.ref b2), .val (.int (own_cap p3)), .val (.int (own_n p3)), .val (.ref b26), .val (.int (own_m p3)), .val (.int (own_f p3)), .val (.ref rs__171), .val (.int ((own_m p3) - (own_f p3))), .unset] [(.int (1 : Int32))])) _
      refine XS.istore X185.here hx rfl (hb hby at_189) rfl (l' := #[.val (.int p1), .val (.int p2), .val (.int p3), .val (.ref b2), .val (.int (own_cap p3)), .val (.int (own_n p3)), .val (.ref b26), .val (.int (own_m p3)), .val (.int (own_f p3)), .val (.ref rs__171), .val (.int ((own_m p3) - (own_f p3))), .val (.int (1 : Int32))]) rfl ?_
      show Steps p.tables e below (T185.setTop (mkF m 191 #[.val (.int p1), .val (.int p2), .val (.int p3), .val (.ref b2), .val (.int (own_cap p3)), .val (.int (own_n p3)), .val (.ref b26), .val (.int (own_m p3)), .val (.int (own_f p3)), .val (.ref rs__171), .val (.int ((own_m p3) - (own_f p3))), .val (.int (1 : Int32))] [])) _
      refine XS.iload X185.here hx rfl (hb hby at_191) rfl ?_
      show Steps p.tables e below (T185.setTop (mkF m 193 #[.val (.int p1), .val (.int p2), .val (.int p3), .val (.ref b2), .val (.int (own_cap p3)), .val (.int (own_n p3)), .val (.ref b26), .val (.int (own_m p3)), .val (.int (own_f p3)), .val (.ref rs__171), .val (.int ((own_m p3) - (own_f p3))), .val (.int (1 : Int32))] [(.int (1 : Int32))])) _
      refine XS.ifNo X185.here hx rfl (hb hby at_193) rfl ((if0 _ _).trans (feq (by decide : ¬ ((1 : Int32) = (0 : Int32)))).1) ?_
      show Steps p.tables e below (T185.setTop (mkF m 196 #[.val (.int p1), .val (.int p2), .val (.int p3), .val (.ref b2), .val (.int (own_cap p3)), .val (.int (own_n p3)), .val (.ref b26), .val (.int (own_m p3)), .val (.int (own_f p3)), .val (.ref rs__171), .val (.int ((own_m p3) - (own_f p3))), .val (.int (1 : Int32))] [])) _
      refine XS.aload X185.here hx rfl (hb hby at_196) rfl rfl ?_
      show Steps p.tables e below (T185.setTop (mkF m 198 #[.val (.int p1), .val (.int p2), .val (.int p3), .val (.ref b2), .val (.int (own_cap p3)), .val (.int (own_n p3)), .val (.ref b26), .val (.int (own_m p3)), .val (.int (own_f p3)), .val (.ref rs__171), .val (.int ((own_m p3) - (own_f p3))), .val (.int (1 : Int32))] [(.ref rs__171)])) _
      refine XS.iconst X185.here hx rfl (hb hby at_198) ?_
      show Steps p.tables e below (T185.setTop (mkF m 199 #[.val (.int p1), .val (.int p2), .val (.int p3), .val (.ref b2), .val (.int (own_cap p3)), .val (.int (own_n p3)), .val (.ref b26), .val (.int (own_m p3)), .val (.int (own_f p3)), .val (.ref rs__171), .val (.int ((own_m p3) - (own_f p3))), .val (.int (1 : Int32))] [(.int (0 : Int32)), (.ref rs__171)])) _
      refine XS.aloadN X185.here hx rfl (hb hby at_199) rfl rfl ?_
      show Steps p.tables e below (T185.setTop (mkF m 200 #[.val (.int p1), .val (.int p2), .val (.int p3), .val (.ref b2), .val (.int (own_cap p3)), .val (.int (own_n p3)), .val (.ref b26), .val (.int (own_m p3)), .val (.int (own_f p3)), .val (.ref rs__171), .val (.int ((own_m p3) - (own_f p3))), .val (.int (1 : Int32))] [(.ref b2), (.int (0 : Int32)), (.ref rs__171)])) _
      refine XS.iload X185.here hx rfl (hb hby at_200) rfl ?_
      show Steps p.tables e below (T185.setTop (mkF m 202 #[.val (.int p1), .val (.int p2), .val (.int p3), .val (.ref b2), .val (.int (own_cap p3)), .val (.int (own_n p3)), .val (.ref b26), .val (.int (own_m p3)), .val (.int (own_f p3)), .val (.ref rs__171), .val (.int ((own_m p3) - (own_f p3))), .val (.int (1 : Int32))] [(.int (own_f p3)), (.ref b2), (.int (0 : Int32)), (.ref rs__171)])) _
      refine XS.iload X185.here hx rfl (hb hby at_202) rfl ?_
      exact k
    obtain ⟨_, _, ⟨T188, L188, k188c, n188⟩, -, X188, ⟨Lc188, hQ188, l188, y188, z188⟩, st188⟩ := Jvm.LawKit.callS X185 hx (y := (⟨"com/example/cureline/cureline/io/TextBufferSubstringPinLaw", "at", "(Ljava/lang/String;I[CII)Z"⟩ : MethodName)) hown (mvT hZ (hw _ (List.mem_of_getElem? (i := 70) rfl))) (mvT hZ (hw _ (List.mem_of_getElem? (i := 71) rfl))) (mvT hZ (hw _ (List.mem_of_getElem? (i := 72) rfl))) (mvT hZ (hw _ (List.mem_of_getElem? (i := 73) rfl))) (by decide) (backOf (W := 0) (own_rmat l Z a0 hw [] rs__171 (0 : Int32) b2 (own_f p3) ((own_m p3) - (own_f p3)) 0 mm fj 4 (own_cs p1 p2) 0 cs fm T171.heap n0 Z171 fq171_0 fq171_1 f179 Xo171 own_i0 hfe (own_subz hmm hfe) SC SA SH SL SF hcs hfm (by omega) (by omega) hgf) hZ (hw _ (List.mem_of_getElem? (i := 73) rfl)) (hw _ (List.mem_of_getElem? (i := 72) rfl)) (by decide) (by decide)) (g := (mkF m 204 #[.val (.int p1), .val (.int p2), .val (.int p3), .val (.ref b2), .val (.int (own_cap p3)), .val (.int (own_n p3)), .val (.ref b26), .val (.int (own_m p3)), .val (.int (own_f p3)), .val (.ref rs__171), .val (.int ((own_m p3) - (own_f p3))), .val (.int (1 : Int32))] [(.int ((own_m p3) - (own_f p3))), (.int (own_f p3)), (.ref b2), (.int (0 : Int32)), (.ref rs__171)])) rfl (by rw [hml]; rfl) (argsL := [(.ref rs__171), (.int (0 : Int32)), (.ref b2), (.int (own_f p3)), (.int ((own_m p3) - (own_f p3)))]) (rest := []) (lenOf own_pd25 rfl) rfl (by show 2 * 0 + _ ≤ _; exact Nat.le_of_eq rfl) (hb hby at_204) (fun _ _ => ⟨rfl, e185, (by decide : 10 + 0 ≤ _), (by decide : 54 + 0 ≤ _)⟩)
    dsimp only [Pt.U, Pt.locs, Pt.cells, Pt.slots] at X188 l188 y188 z188 st188 hQ188
    subst l188 y188 z188
    obtain ⟨rfl, N188q, e188⟩ := hQ188
    have N188 := Fr.app N185 N188q
    have k189 : ∀ t, Steps p.tables e below (T188.setTop (mkF m 207 #[.val (.int p1), .val (.int p2), .val (.int p3), .val (.ref b2), .val (.int (own_cap p3)), .val (.int (own_n p3)), .val (.ref b26), .val (.int (own_m p3)), .val (.int (own_f p3)), .val (.ref rs__171), .val (.int ((own_m p3) - (own_f p3))), .val (.int (1 : Int32))] [(.int (1 : Int32))])) t → Steps p.tables e below (s₁.setTop (entryFrame m #[(.int p1), (.int p2), (.int p3)] maxLocals)) t := fun t k => k187 t (st188 t k)
    have k190 : ∀ t, Steps p.tables e below (T188.setTop (mkF m 218 #[.val (.int p1), .val (.int p2), .val (.int p3), .val (.ref b2), .val (.int (own_cap p3)), .val (.int (own_n p3)), .val (.ref b26), .val (.int (own_m p3)), .val (.int (own_f p3)), .val (.ref rs__171), .val (.int ((own_m p3) - (own_f p3))), .val (.int (1 : Int32))] [(.int ((own_m p3) - (own_f p3))), (.int (own_f p3)), (.ref b2), (.int (1 : Int32)), (.ref rs__171)])) t → Steps p.tables e below (s₁.setTop (entryFrame m #[(.int p1), (.int p2), (.int p3)] maxLocals)) t := by
      intro t k
      refine k189 t ?_
      show Steps p.tables e below (T188.setTop (mkF m 207 #[.val (.int p1), .val (.int p2), .val (.int p3), .val (.ref b2), .val (.int (own_cap p3)), .val (.int (own_n p3)), .val (.ref b26), .val (.int (own_m p3)), .val (.int (own_f p3)), .val (.ref rs__171), .val (.int ((own_m p3) - (own_f p3))), .val (.int (1 : Int32))] [(.int (1 : Int32))])) _
      refine XS.ifNo X188.here hx rfl (hb hby at_207) rfl ((if0 _ _).trans (feq (by decide : ¬ ((1 : Int32) = (0 : Int32)))).1) ?_
      show Steps p.tables e below (T188.setTop (mkF m 210 #[.val (.int p1), .val (.int p2), .val (.int p3), .val (.ref b2), .val (.int (own_cap p3)), .val (.int (own_n p3)), .val (.ref b26), .val (.int (own_m p3)), .val (.int (own_f p3)), .val (.ref rs__171), .val (.int ((own_m p3) - (own_f p3))), .val (.int (1 : Int32))] [])) _
      refine XS.aload X188.here hx rfl (hb hby at_210) rfl rfl ?_
      show Steps p.tables e below (T188.setTop (mkF m 212 #[.val (.int p1), .val (.int p2), .val (.int p3), .val (.ref b2), .val (.int (own_cap p3)), .val (.int (own_n p3)), .val (.ref b26), .val (.int (own_m p3)), .val (.int (own_f p3)), .val (.ref rs__171), .val (.int ((own_m p3) - (own_f p3))), .val (.int (1 : Int32))] [(.ref rs__171)])) _
      refine XS.iconst X188.here hx rfl (hb hby at_212) ?_
      show Steps p.tables e below (T188.setTop (mkF m 213 #[.val (.int p1), .val (.int p2), .val (.int p3), .val (.ref b2), .val (.int (own_cap p3)), .val (.int (own_n p3)), .val (.ref b26), .val (.int (own_m p3)), .val (.int (own_f p3)), .val (.ref rs__171), .val (.int ((own_m p3) - (own_f p3))), .val (.int (1 : Int32))] [(.int (1 : Int32)), (.ref rs__171)])) _
      refine XS.aloadN X188.here hx rfl (hb hby at_213) rfl rfl ?_
      show Steps p.tables e below (T188.setTop (mkF m 214 #[.val (.int p1), .val (.int p2), .val (.int p3), .val (.ref b2), .val (.int (own_cap p3)), .val (.int (own_n p3)), .val (.ref b26), .val (.int (own_m p3)), .val (.int (own_f p3)), .val (.ref rs__171), .val (.int ((own_m p3) - (own_f p3))), .val (.int (1 : Int32))] [(.ref b2), (.int (1 : Int32)), (.ref rs__171)])) _
      refine XS.iload X188.here hx rfl (hb hby at_214) rfl ?_
      show Steps p.tables e below (T188.setTop (mkF m 216 #[.val (.int p1), .val (.int p2), .val (.int p3), .val (.ref b2), .val (.int (own_cap p3)), .val (.int (own_n p3)), .val (.ref b26), .val (.int (own_m p3)), .val (.int (own_f p3)), .val (.ref rs__171), .val (.int ((own_m p3) - (own_f p3))), .val (.int (1 : Int32))] [(.int (own_f p3)), (.ref b2), (.int (1 : Int32)), (.ref rs__171)])) _
      refine XS.iload X188.here hx rfl (hb hby at_216) rfl ?_
      exact k
    obtain ⟨_, _, ⟨T191, L191, k191c, n191⟩, -, X191, ⟨Lc191, hQ191, l191, y191, z191⟩, st191⟩ := Jvm.LawKit.callS X188 hx (y := (⟨"com/example/cureline/cureline/io/TextBufferSubstringPinLaw", "at", "(Ljava/lang/String;I[CII)Z"⟩ : MethodName)) hown (mvT hZ (hw _ (List.mem_of_getElem? (i := 70) rfl))) (mvT hZ (hw _ (List.mem_of_getElem? (i := 71) rfl))) (mvT hZ (hw _ (List.mem_of_getElem? (i := 72) rfl))) (mvT hZ (hw _ (List.mem_of_getElem? (i := 73) rfl))) (by decide) (backOf (W := 0) (own_rmat l Z a0 hw [] rs__171 (1 : Int32) b2 (own_f p3) ((own_m p3) - (own_f p3)) 0 mm fj 4 (own_cs p1 p2) 1 cs fm T171.heap n0 Z171 fq171_0 fq171_1 f179 Xo171 own_i1 hfe (own_subz hmm hfe) SC SA SH SL SF hcs hfm (by omega) (by omega) hgf) hZ (hw _ (List.mem_of_getElem? (i := 73) rfl)) (hw _ (List.mem_of_getElem? (i := 72) rfl)) (by decide) (by decide)) (g := (mkF m 218 #[.val (.int p1), .val (.int p2), .val (.int p3), .val (.ref b2), .val (.int (own_cap p3)), .val (.int (own_n p3)), .val (.ref b26), .val (.int (own_m p3)), .val (.int (own_f p3)), .val (.ref rs__171), .val (.int ((own_m p3) - (own_f p3))), .val (.int (1 : Int32))] [(.int ((own_m p3) - (own_f p3))), (.int (own_f p3)), (.ref b2), (.int (1 : Int32)), (.ref rs__171)])) rfl (by rw [hml]; rfl) (argsL := [(.ref rs__171), (.int (1 : Int32)), (.ref b2), (.int (own_f p3)), (.int ((own_m p3) - (own_f p3)))]) (rest := []) (lenOf own_pd25 rfl) rfl (by show 2 * 0 + _ ≤ _; exact Nat.le_of_eq rfl) (hb hby at_218) (fun _ _ => ⟨rfl, e188, (by decide : 10 + 0 ≤ _), (by decide : 54 + 0 ≤ _)⟩)
    dsimp only [Pt.U, Pt.locs, Pt.cells, Pt.slots] at X191 l191 y191 z191 st191 hQ191
    subst l191 y191 z191
    obtain ⟨rfl, N191q, e191⟩ := hQ191
    have N191 := Fr.app N188 N191q
    have k192 : ∀ t, Steps p.tables e below (T191.setTop (mkF m 221 #[.val (.int p1), .val (.int p2), .val (.int p3), .val (.ref b2), .val (.int (own_cap p3)), .val (.int (own_n p3)), .val (.ref b26), .val (.int (own_m p3)), .val (.int (own_f p3)), .val (.ref rs__171), .val (.int ((own_m p3) - (own_f p3))), .val (.int (1 : Int32))] [(.int (1 : Int32))])) t → Steps p.tables e below (s₁.setTop (entryFrame m #[(.int p1), (.int p2), (.int p3)] maxLocals)) t := fun t k => k190 t (st191 t k)
    have k193 : ∀ t, Steps p.tables e below (T191.setTop (mkF m 232 #[.val (.int p1), .val (.int p2), .val (.int p3), .val (.ref b2), .val (.int (own_cap p3)), .val (.int (own_n p3)), .val (.ref b26), .val (.int (own_m p3)), .val (.int (own_f p3)), .val (.ref rs__171), .val (.int ((own_m p3) - (own_f p3))), .val (.int (1 : Int32))] [(.int ((own_m p3) - (own_f p3))), (.int (own_f p3)), (.ref b2), (.int (2 : Int32)), (.ref rs__171)])) t → Steps p.tables e below (s₁.setTop (entryFrame m #[(.int p1), (.int p2), (.int p3)] maxLocals)) t := by
      intro t k
      refine k192 t ?_
      show Steps p.tables e below (T191.setTop (mkF m 221 #[.val (.int p1), .val (.int p2), .val (.int p3), .val (.ref b2), .val (.int (own_cap p3)), .val (.int (own_n p3)), .val (.ref b26), .val (.int (own_m p3)), .val (.int (own_f p3)), .val (.ref rs__171), .val (.int ((own_m p3) - (own_f p3))), .val (.int (1 : Int32))] [(.int (1 : Int32))])) _
      refine XS.ifNo X191.here hx rfl (hb hby at_221) rfl ((if0 _ _).trans (feq (by decide : ¬ ((1 : Int32) = (0 : Int32)))).1) ?_
      show Steps p.tables e below (T191.setTop (mkF m 224 #[.val (.int p1), .val (.int p2), .val (.int p3), .val (.ref b2), .val (.int (own_cap p3)), .val (.int (own_n p3)), .val (.ref b26), .val (.int (own_m p3)), .val (.int (own_f p3)), .val (.ref rs__171), .val (.int ((own_m p3) - (own_f p3))), .val (.int (1 : Int32))] [])) _
      refine XS.aload X191.here hx rfl (hb hby at_224) rfl rfl ?_
      show Steps p.tables e below (T191.setTop (mkF m 226 #[.val (.int p1), .val (.int p2), .val (.int p3), .val (.ref b2), .val (.int (own_cap p3)), .val (.int (own_n p3)), .val (.ref b26), .val (.int (own_m p3)), .val (.int (own_f p3)), .val (.ref rs__171), .val (.int ((own_m p3) - (own_f p3))), .val (.int (1 : Int32))] [(.ref rs__171)])) _
      refine XS.iconst X191.here hx rfl (hb hby at_226) ?_
      show Steps p.tables e below (T191.setTop (mkF m 227 #[.val (.int p1), .val (.int p2), .val (.int p3), .val (.ref b2), .val (.int (own_cap p3)), .val (.int (own_n p3)), .val (.ref b26), .val (.int (own_m p3)), .val (.int (own_f p3)), .val (.ref rs__171), .val (.int ((own_m p3) - (own_f p3))), .val (.int (1 : Int32))] [(.int (2 : Int32)), (.ref rs__171)])) _
      refine XS.aloadN X191.here hx rfl (hb hby at_227) rfl rfl ?_
      show Steps p.tables e below (T191.setTop (mkF m 228 #[.val (.int p1), .val (.int p2), .val (.int p3), .val (.ref b2), .val (.int (own_cap p3)), .val (.int (own_n p3)), .val (.ref b26), .val (.int (own_m p3)), .val (.int (own_f p3)), .val (.ref rs__171), .val (.int ((own_m p3) - (own_f p3))), .val (.int (1 : Int32))] [(.ref b2), (.int (2 : Int32)), (.ref rs__171)])) _
      refine XS.iload X191.here hx rfl (hb hby at_228) rfl ?_
      show Steps p.tables e below (T191.setTop (mkF m 230 #[.val (.int p1), .val (.int p2), .val (.int p3), .val (.ref b2), .val (.int (own_cap p3)), .val (.int (own_n p3)), .val (.ref b26), .val (.int (own_m p3)), .val (.int (own_f p3)), .val (.ref rs__171), .val (.int ((own_m p3) - (own_f p3))), .val (.int (1 : Int32))] [(.int (own_f p3)), (.ref b2), (.int (2 : Int32)), (.ref rs__171)])) _
      refine XS.iload X191.here hx rfl (hb hby at_230) rfl ?_
      exact k
    obtain ⟨_, _, ⟨T194, L194, k194c, n194⟩, -, X194, ⟨Lc194, hQ194, l194, y194, z194⟩, st194⟩ := Jvm.LawKit.callS X191 hx (y := (⟨"com/example/cureline/cureline/io/TextBufferSubstringPinLaw", "at", "(Ljava/lang/String;I[CII)Z"⟩ : MethodName)) hown (mvT hZ (hw _ (List.mem_of_getElem? (i := 70) rfl))) (mvT hZ (hw _ (List.mem_of_getElem? (i := 71) rfl))) (mvT hZ (hw _ (List.mem_of_getElem? (i := 72) rfl))) (mvT hZ (hw _ (List.mem_of_getElem? (i := 73) rfl))) (by decide) (backOf (W := 0) (own_rmat l Z a0 hw [] rs__171 (2 : Int32) b2 (own_f p3) ((own_m p3) - (own_f p3)) 0 mm fj 4 (own_cs p1 p2) 2 cs fm T171.heap n0 Z171 fq171_0 fq171_1 f179 Xo171 own_i2 hfe (own_subz hmm hfe) SC SA SH SL SF hcs hfm (by omega) (by omega) hgf) hZ (hw _ (List.mem_of_getElem? (i := 73) rfl)) (hw _ (List.mem_of_getElem? (i := 72) rfl)) (by decide) (by decide)) (g := (mkF m 232 #[.val (.int p1), .val (.int p2), .val (.int p3), .val (.ref b2), .val (.int (own_cap p3)), .val (.int (own_n p3)), .val (.ref b26), .val (.int (own_m p3)), .val (.int (own_f p3)), .val (.ref rs__171), .val (.int ((own_m p3) - (own_f p3))), .val (.int (1 : Int32))] [(.int ((own_m p3) - (own_f p3))), (.int (own_f p3)), (.ref b2), (.int (2 : Int32)), (.ref rs__171)])) rfl (by rw [hml]; rfl) (argsL := [(.ref rs__171), (.int (2 : Int32)), (.ref b2), (.int (own_f p3)), (.int ((own_m p3) - (own_f p3)))]) (rest := []) (lenOf own_pd25 rfl) rfl (by show 2 * 0 + _ ≤ _; exact Nat.le_of_eq rfl) (hb hby at_232) (fun _ _ => ⟨rfl, e191, (by decide : 10 + 0 ≤ _), (by decide : 54 + 0 ≤ _)⟩)
    dsimp only [Pt.U, Pt.locs, Pt.cells, Pt.slots] at X194 l194 y194 z194 st194 hQ194
    subst l194 y194 z194
    obtain ⟨rfl, N194q, e194⟩ := hQ194
    have N194 := Fr.app N191 N194q
    have k195 : ∀ t, Steps p.tables e below (T194.setTop (mkF m 235 #[.val (.int p1), .val (.int p2), .val (.int p3), .val (.ref b2), .val (.int (own_cap p3)), .val (.int (own_n p3)), .val (.ref b26), .val (.int (own_m p3)), .val (.int (own_f p3)), .val (.ref rs__171), .val (.int ((own_m p3) - (own_f p3))), .val (.int (1 : Int32))] [(.int (1 : Int32))])) t → Steps p.tables e below (s₁.setTop (entryFrame m #[(.int p1), (.int p2), (.int p3)] maxLocals)) t := fun t k => k193 t (st194 t k)
    have k196 : ∀ t, Steps p.tables e below (T194.setTop (mkF m 246 #[.val (.int p1), .val (.int p2), .val (.int p3), .val (.ref b2), .val (.int (own_cap p3)), .val (.int (own_n p3)), .val (.ref b26), .val (.int (own_m p3)), .val (.int (own_f p3)), .val (.ref rs__171), .val (.int ((own_m p3) - (own_f p3))), .val (.int (1 : Int32))] [(.int ((own_m p3) - (own_f p3))), (.int (own_f p3)), (.ref b2), (.int (3 : Int32)), (.ref rs__171)])) t → Steps p.tables e below (s₁.setTop (entryFrame m #[(.int p1), (.int p2), (.int p3)] maxLocals)) t := by
      intro t k
      refine k195 t ?_
      show Steps p.tables e below (T194.setTop (mkF m 235 #[.val (.int p1), .val (.int p2), .val (.int p3), .val (.ref b2), .val (.int (own_cap p3)), .val (.int (own_n p3)), .val (.ref b26), .val (.int (own_m p3)), .val (.int (own_f p3)), .val (.ref rs__171), .val (.int ((own_m p3) - (own_f p3))), .val (.int (1 : Int32))] [(.int (1 : Int32))])) _
      refine XS.ifNo X194.here hx rfl (hb hby at_235) rfl ((if0 _ _).trans (feq (by decide : ¬ ((1 : Int32) = (0 : Int32)))).1) ?_
      show Steps p.tables e below (T194.setTop (mkF m 238 #[.val (.int p1), .val (.int p2), .val (.int p3), .val (.ref b2), .val (.int (own_cap p3)), .val (.int (own_n p3)), .val (.ref b26), .val (.int (own_m p3)), .val (.int (own_f p3)), .val (.ref rs__171), .val (.int ((own_m p3) - (own_f p3))), .val (.int (1 : Int32))] [])) _
      refine XS.aload X194.here hx rfl (hb hby at_238) rfl rfl ?_
      show Steps p.tables e below (T194.setTop (mkF m 240 #[.val (.int p1), .val (.int p2), .val (.int p3), .val (.ref b2), .val (.int (own_cap p3)), .val (.int (own_n p3)), .val (.ref b26), .val (.int (own_m p3)), .val (.int (own_f p3)), .val (.ref rs__171), .val (.int ((own_m p3) - (own_f p3))), .val (.int (1 : Int32))] [(.ref rs__171)])) _
      refine XS.iconst X194.here hx rfl (hb hby at_240) ?_
      show Steps p.tables e below (T194.setTop (mkF m 241 #[.val (.int p1), .val (.int p2), .val (.int p3), .val (.ref b2), .val (.int (own_cap p3)), .val (.int (own_n p3)), .val (.ref b26), .val (.int (own_m p3)), .val (.int (own_f p3)), .val (.ref rs__171), .val (.int ((own_m p3) - (own_f p3))), .val (.int (1 : Int32))] [(.int (3 : Int32)), (.ref rs__171)])) _
      refine XS.aloadN X194.here hx rfl (hb hby at_241) rfl rfl ?_
      show Steps p.tables e below (T194.setTop (mkF m 242 #[.val (.int p1), .val (.int p2), .val (.int p3), .val (.ref b2), .val (.int (own_cap p3)), .val (.int (own_n p3)), .val (.ref b26), .val (.int (own_m p3)), .val (.int (own_f p3)), .val (.ref rs__171), .val (.int ((own_m p3) - (own_f p3))), .val (.int (1 : Int32))] [(.ref b2), (.int (3 : Int32)), (.ref rs__171)])) _
      refine XS.iload X194.here hx rfl (hb hby at_242) rfl ?_
      show Steps p.tables e below (T194.setTop (mkF m 244 #[.val (.int p1), .val (.int p2), .val (.int p3), .val (.ref b2), .val (.int (own_cap p3)), .val (.int (own_n p3)), .val (.ref b26), .val (.int (own_m p3)), .val (.int (own_f p3)), .val (.ref rs__171), .val (.int ((own_m p3) - (own_f p3))), .val (.int (1 : Int32))] [(.int (own_f p3)), (.ref b2), (.int (3 : Int32)), (.ref rs__171)])) _
      refine XS.iload X194.here hx rfl (hb hby at_244) rfl ?_
      exact k
    obtain ⟨_, _, ⟨T197, L197, k197c, n197⟩, -, X197, ⟨Lc197, hQ197, l197, y197, z197⟩, st197⟩ := Jvm.LawKit.callS X194 hx (y := (⟨"com/example/cureline/cureline/io/TextBufferSubstringPinLaw", "at", "(Ljava/lang/String;I[CII)Z"⟩ : MethodName)) hown (mvT hZ (hw _ (List.mem_of_getElem? (i := 70) rfl))) (mvT hZ (hw _ (List.mem_of_getElem? (i := 71) rfl))) (mvT hZ (hw _ (List.mem_of_getElem? (i := 72) rfl))) (mvT hZ (hw _ (List.mem_of_getElem? (i := 73) rfl))) (by decide) (backOf (W := 0) (own_rmat l Z a0 hw [] rs__171 (3 : Int32) b2 (own_f p3) ((own_m p3) - (own_f p3)) 0 mm fj 4 (own_cs p1 p2) 3 cs fm T171.heap n0 Z171 fq171_0 fq171_1 f179 Xo171 own_i3 hfe (own_subz hmm hfe) SC SA SH SL SF hcs hfm (by omega) (by omega) hgf) hZ (hw _ (List.mem_of_getElem? (i := 73) rfl)) (hw _ (List.mem_of_getElem? (i := 72) rfl)) (by decide) (by decide)) (g := (mkF m 246 #[.val (.int p1), .val (.int p2), .val (.int p3), .val (.ref b2), .val (.int (own_cap p3)), .val (.int (own_n p3)), .val (.ref b26), .val (.int (own_m p3)), .val (.int (own_f p3)), .val (.ref rs__171), .val (.int ((own_m p3) - (own_f p3))), .val (.int (1 : Int32))] [(.int ((own_m p3) - (own_f p3))), (.int (own_f p3)), (.ref b2), (.int (3 : Int32)), (.ref rs__171)])) rfl (by rw [hml]; rfl) (argsL := [(.ref rs__171), (.int (3 : Int32)), (.ref b2), (.int (own_f p3)), (.int ((own_m p3) - (own_f p3)))]) (rest := []) (lenOf own_pd25 rfl) rfl (by show 2 * 0 + _ ≤ _; exact Nat.le_of_eq rfl) (hb hby at_246) (fun _ _ => ⟨rfl, e194, (by decide : 10 + 0 ≤ _), (by decide : 54 + 0 ≤ _)⟩)
    dsimp only [Pt.U, Pt.locs, Pt.cells, Pt.slots] at X197 l197 y197 z197 st197 hQ197
    subst l197 y197 z197
    obtain ⟨rfl, N197q, e197⟩ := hQ197
    have N197 := Fr.app N194 N197q
    have k198 : ∀ t, Steps p.tables e below (T197.setTop (mkF m 249 #[.val (.int p1), .val (.int p2), .val (.int p3), .val (.ref b2), .val (.int (own_cap p3)), .val (.int (own_n p3)), .val (.ref b26), .val (.int (own_m p3)), .val (.int (own_f p3)), .val (.ref rs__171), .val (.int ((own_m p3) - (own_f p3))), .val (.int (1 : Int32))] [(.int (1 : Int32))])) t → Steps p.tables e below (s₁.setTop (entryFrame m #[(.int p1), (.int p2), (.int p3)] maxLocals)) t := fun t k => k196 t (st197 t k)
    have k199 : ∀ t, Steps p.tables e below (T197.setTop (mkF m 261 #[.val (.int p1), .val (.int p2), .val (.int p3), .val (.ref b2), .val (.int (own_cap p3)), .val (.int (own_n p3)), .val (.ref b26), .val (.int (own_m p3)), .val (.int (own_f p3)), .val (.ref rs__171), .val (.int ((own_m p3) - (own_f p3))), .val (.int (1 : Int32))] [(.int (1 : Int32))])) t → Steps p.tables e below (s₁.setTop (entryFrame m #[(.int p1), (.int p2), (.int p3)] maxLocals)) t := by
      intro t k
      refine k198 t ?_
      show Steps p.tables e below (T197.setTop (mkF m 249 #[.val (.int p1), .val (.int p2), .val (.int p3), .val (.ref b2), .val (.int (own_cap p3)), .val (.int (own_n p3)), .val (.ref b26), .val (.int (own_m p3)), .val (.int (own_f p3)), .val (.ref rs__171), .val (.int ((own_m p3) - (own_f p3))), .val (.int (1 : Int32))] [(.int (1 : Int32))])) _
      refine XS.ifNo X197.here hx rfl (hb hby at_249) rfl ((if0 _ _).trans (feq (by decide : ¬ ((1 : Int32) = (0 : Int32)))).1) ?_
      show Steps p.tables e below (T197.setTop (mkF m 252 #[.val (.int p1), .val (.int p2), .val (.int p3), .val (.ref b2), .val (.int (own_cap p3)), .val (.int (own_n p3)), .val (.ref b26), .val (.int (own_m p3)), .val (.int (own_f p3)), .val (.ref rs__171), .val (.int ((own_m p3) - (own_f p3))), .val (.int (1 : Int32))] [])) _
      refine XS.iconst X197.here hx rfl (hb hby at_252) ?_
      show Steps p.tables e below (T197.setTop (mkF m 253 #[.val (.int p1), .val (.int p2), .val (.int p3), .val (.ref b2), .val (.int (own_cap p3)), .val (.int (own_n p3)), .val (.ref b26), .val (.int (own_m p3)), .val (.int (own_f p3)), .val (.ref rs__171), .val (.int ((own_m p3) - (own_f p3))), .val (.int (1 : Int32))] [(.int (1 : Int32))])) _
      refine XS.goto X197.here hx rfl (pc0 := 253) (pc' := 257) rfl (hb hby at_253) (by decide) (by decide) ?_
      show Steps p.tables e below (T197.setTop (mkF m 257 #[.val (.int p1), .val (.int p2), .val (.int p3), .val (.ref b2), .val (.int (own_cap p3)), .val (.int (own_n p3)), .val (.ref b26), .val (.int (own_m p3)), .val (.int (own_f p3)), .val (.ref rs__171), .val (.int ((own_m p3) - (own_f p3))), .val (.int (1 : Int32))] [(.int (1 : Int32))])) _
      refine XS.istore X197.here hx rfl (hb hby at_257) rfl (l' := #[.val (.int p1), .val (.int p2), .val (.int p3), .val (.ref b2), .val (.int (own_cap p3)), .val (.int (own_n p3)), .val (.ref b26), .val (.int (own_m p3)), .val (.int (own_f p3)), .val (.ref rs__171), .val (.int ((own_m p3) - (own_f p3))), .val (.int (1 : Int32))]) rfl ?_
      show Steps p.tables e below (T197.setTop (mkF m 259 #[.val (.int p1), .val (.int p2), .val (.int p3), .val (.ref b2), .val (.int (own_cap p3)), .val (.int (own_n p3)), .val (.ref b26), .val (.int (own_m p3)), .val (.int (own_f p3)), .val (.ref rs__171), .val (.int ((own_m p3) - (own_f p3))), .val (.int (1 : Int32))] [])) _
      refine XS.iload X197.here hx rfl (hb hby at_259) rfl ?_
      exact k
    obtain ⟨fs, hr, hrun, hended, hE⟩ := Stand.leaveW (s := s) X197 Si171 (by rw [e197]; exact Nat.le_refl _) (v := (some (.int (1 : Int32)))) (fun h => by rw [Bd.returns] at h; cases h)
    refine ⟨_, _, k199 _ ?_, hrun, hended, _, _, rfl, ?_, ⟨_, rfl⟩, hE.2.1, hE.2.2.1, hE.2.2.2.mono (by decide) (by decide)⟩
    · exact retN X197 hx (t := .boolean) Bd.returns (by simp) (hb hby at_261) hr
    · exact ⟨rfl, N197⟩
set_option maxRecDepth 65536 in
set_option maxHeartbeats 40000000 in
theorem comes_1 {Post : Tables → Env → Array Value → State → Outcome → State → Prop} (hpost : ∀ tb e args s v u, (limb_1_1.after args s (.returned v) u = true ∧ limb_1_2.after args s (.returned v) u = true ∧ True) → Jvm.D.FramedW s (.returned v) u (Jvm.fieldLocs frame_1_writes args s ++ Jvm.arrayLocs frame_1_arrays args s ++ Jvm.staticLocs frame_1_statics s) 32 1152 → Post tb e args s (.returned v) u) :
    ArmFor flags0 classFile x code maxLocals ret World_1 tables_1 room_1 Calls_1 rest_1 Pre_1 Post := by
  intro l hfl _ _ p e ha hc hk s m args below hf hA hF happ hP
  obtain ⟨hcalls, hrest, hpre⟩ := hP
  obtain ⟨-, -, -, hnamed, -, -, -, hat⟩ := (Spec.applies_iff hf).mp happ
  obtain ⟨hg, hn⟩ := and_e (Cond.before_iff.mp (show (Jvm.Cond.and given_1 narrow_1).before args s = true from hpre))
  obtain ⟨hg0, hg⟩ := and_e hg
  obtain ⟨hi0, hg⟩ := and_e hg
  obtain ⟨hi1, hg⟩ := and_e hg
  have hi2 := hg
  obtain ⟨w0, w1, w2, rfl⟩ : ∃ w0 w1 w2 : Value, args = #[w0, w1, w2] := by
    have hs : args.size = 3 := by simpa [Cond.value, given_1] using hg0
    obtain ⟨L⟩ := args
    match L, hs with
    | [w0, w1, w2], _ => exact ⟨w0, w1, w2, rfl⟩
  have hw := fun d (hd : d ∈ tables_1) => atoms_spec (ws := Jvm.Cond.code x code maxLocals ret :: tables_1) hat d (List.mem_cons_of_mem _ hd)
  obtain ⟨p1, ev0⟩ := is_v hi0
  obtain rfl : w0 = (.int p1) := Option.some.inj ev0
  obtain ⟨p2, ev1⟩ := is_v hi1
  obtain rfl : w1 = (.int p2) := Option.some.inj ev1
  obtain ⟨p3, ev2⟩ := is_v hi2
  obtain rfl : w2 = (.int p3) := Option.some.inj ev2
  obtain ⟨hsets, hown0⟩ := atoms_of _ (rest_1_c_eq ▸ (show rest_1_c.before _ s = true from hrest))
  have own_eqint : ∀ {A : Array Value} {t : Term} {n : Int32}, (Cond.eq t (.int n)).value A s none s [] = some true → t.eval A s none [] s = some (.int n) := by
    intro A t n h
    obtain ⟨x, y, hx, hy, k1, k2⟩ := cmp_v (Or.inl h)
    obtain rfl : y = .int n := Option.some.inj (hy.symm.trans (Term.int_eval n))
    obtain ⟨z, rfl⟩ := k2
    rw [hx, gotT (Cond.eq_ints hx (Term.int_eval n)) h]
  have hcs0 := not_v (Cond.before_iff.mp (hsets _ (List.mem_of_getElem? (i := 2) rfl)))
  obtain ⟨cs, ecs⟩ := is_v (Cond.before_iff.mp (hsets _ (List.mem_of_getElem? (i := 1) rfl)))
  have SC := Sta.start ecs (Or.inl (hsets _ (List.mem_of_getElem? (i := 0) rfl)))
  have hcs : ¬ (cs = (0 : Int32)) := gotF (Cond.eq_ints ecs (Term.int_eval (0))) hcs0
  have SA := Sta.start (own_eqint (Cond.before_iff.mp (hsets _ (List.mem_of_getElem? (i := 12) rfl)))) (Or.inl (hsets _ (List.mem_of_getElem? (i := 11) rfl)))
  have SH := Sta.start (own_eqint (Cond.before_iff.mp (hsets _ (List.mem_of_getElem? (i := 15) rfl)))) (Or.inl (hsets _ (List.mem_of_getElem? (i := 14) rfl)))
  have SL := Sta.start (own_eqint (Cond.before_iff.mp (hsets _ (List.mem_of_getElem? (i := 18) rfl)))) (Or.inl (hsets _ (List.mem_of_getElem? (i := 17) rfl)))
  obtain ⟨fm, efm, hfm⟩ := isR_v (Cond.before_iff.mp (hsets _ (List.mem_of_getElem? (i := 8) rfl)))
  have SF := Sta.start efm (Or.inl (hsets _ (List.mem_of_getElem? (i := 7) rfl)))
  have hH := CHv.start (own_EW hw) (fun p hp => hcalls.1 p hp) (hsets _ (List.mem_of_getElem? (i := 2) rfl)) (own_SA hw _ (by simp [Bundle.stringAtoms])) (own_SA hw _ (by simp [Bundle.stringAtoms, Bundle.sN]))
  obtain ⟨n, o, h1, h2, h3, _, L, rfl, ⟨rfl, N⟩, hq⟩ := own_rm0 l s _ hw tables_1 p1 p2 p3 cs fm s.heap s.heap.size (Nat.le_refl _) (Old.start s) SC SA SH SL SF hcs hfm  p e ha hc hk s m _ below hf ((Spec.applies_iff_loose hf).mp happ).1 ⟨rfl, State.Warmed39.refl s, rfl, hH⟩ trivial
  refine ⟨n, _, h1, h2, h3, hpost _ _ _ _ _ _ ⟨Cond.after_iff.mpr rfl, Cond.after_iff.mpr (eq_i res_at (Term.int_eval (1)) rfl), trivial⟩ ⟨hq.1, hq.2.1, hq.2.2.1, (hq.2.2.2.sift fun y hy => Or.inr (N y hy)).mono (by decide) (by decide)⟩⟩
theorem main_1_1 : Claimed_1_1 := comes_1 fun _ _ _ _ _ _ h hF => ⟨h.1, hF⟩
theorem main_1_2 : Claimed_1_2 := comes_1 fun _ _ _ _ _ _ h hF => ⟨h.2.1, hF⟩
end Jvm.Pilot.@@N@@
namespace Jvm.Pilot.@@N@@
open Jvm Jvm.ClassFile Sem Op Lib Jvm.Free Jvm.Stand Jvm.Pilot.@@N@@.Jvm.D
/-! MADE BY PROGRAM (witnessworld.py) out of the Statement's table words and the real class files: 23 classes; the members and pool entries that the words name. The judged class is class 1, her method 1. -/
namespace start1
open Jvm.ClassFile
def u (s : String) : CpInfo := .utf8 (stringToUtf16 s)
/-- a pool by its gaps: so many unusable entries, then the entry; so many at the end -/
def gap : Nat → List CpInfo → List CpInfo
  | 0, r => r
  | n + 1, r => .unusable :: gap n r
def poolList (es : List (Nat × CpInfo)) (last : Nat) : List CpInfo := es.foldr (fun e r => gap e.1 (e.2 :: r)) (gap last [])
def pool (es : List (Nat × CpInfo)) (last : Nat) : Array CpInfo := ⟨poolList es last⟩
def fileOf (pool : Array CpInfo) (this : Nat) (attrs : Array Attribute := #[]) (ms : Array MethodInfo := #[]) (fl : Nat := 33) (sup : Nat := 0) (ifs : Array Nat := #[]) (fds : Array FieldInfo := #[]) : ClassFile where
  minorVersion := 0
  majorVersion := 65
  constantPool := pool
  accessFlags := fl
  thisClass := this
  superClass := sup
  interfaces := ifs
  fields := fds
  methods := ms
  attributes := attrs
def plain (name : String) (sup : Option ClassId) : Class where
  name := name
  kind := .ordinary
  loader := none
  accessFlags := 33
  super := sup
  interfaces := #[]
  cf := none
  fields := #[]
  methods := #[]
  instanceTypes := #[]
  staticTypes := #[]
  resolved := #[]
  callSites := []
  init := .initialized
  statics := none
  mirror := none

def pool0 : Array CpInfo := pool [(5, u "<init>"), (0, u "()V"), (1, .class_ 10), (1, u "java/lang/Object")] 113

def k0c0 : Code := { maxStack := 0, maxLocals := 1, code := object_method_1_code, exceptionTable := #[], attributes := #[] }
def k0m0 : Method := { name := "<init>", desc := "()V", sig := { parameters := [], returnType := none }, accessFlags := 1, code := some k0c0 }
/-- java/lang/Object -/
def k0 : Class := { plain "java/lang/Object" none with
  accessFlags := 33
  interfaces := #[]
  cf := some (fileOf pool0 8 #[] #[{ accessFlags := 1, nameIndex := 5, descriptorIndex := 6, attributes := #[] }] 33 0 #[] #[])
  fields := #[]
  methods := #[k0m0]
  instanceTypes := #[]
  staticTypes := #[]
  resolved := Array.replicate 124 none
  statics := none }

def pool1 : Array CpInfo := pool [(2, .class_ 4), (1, u "java/lang/Object"), (0, u "<init>"), (0, u "()V"), (0, .class_ 8), (0, u "com/example/cureline/cureline/io/TextBuffer"), (0, .methodref 7 10), (0, .nameAndType 5 11), (0, u "(I)V"), (0, .methodref 7 13), (0, .nameAndType 14 15), (0, u "append"), (0, u "(C)Lcom/example/cureline/cureline/io/TextBuffer;"), (0, .methodref 7 17), (0, .nameAndType 18 11), (0, u "setLength"), (0, .methodref 7 20), (0, .nameAndType 21 22), (0, u "substring"), (0, u "(I)Ljava/lang/String;"), (0, .methodref 24 25), (0, .class_ 26), (0, .nameAndType 27 28), (0, u "java/lang/String"), (0, u "length"), (0, u "()I"), (0, .methodref 7 25), (0, .methodref 31 32), (0, .class_ 33), (0, .nameAndType 34 35), (0, u "com/example/cureline/cureline/io/TextBufferSubstringPinLaw"), (0, u "at"), (0, u "(Ljava/lang/String;I[CII)Z"), (0, .methodref 24 37), (0, .nameAndType 38 39), (0, u "charAt"), (0, u "(I)C"), (2, u "law"), (0, u "(III)Z")] 5

def k1m0 : Method := { name := "<init>", desc := "()V", sig := { parameters := [], returnType := none }, accessFlags := 1, code := none }
def k1c1 : Code := { maxStack := 5, maxLocals := 12, code := code, exceptionTable := #[], attributes := #[] }
def k1m1 : Method := { name := "law", desc := "(III)Z", sig := { parameters := [.int, .int, .int], returnType := some .boolean }, accessFlags := 9, code := some k1c1 }
def k1c2 : Code := { maxStack := 4, maxLocals := 5, code := method_3_code, exceptionTable := #[], attributes := #[] }
def k1m2 : Method := { name := "at", desc := "(Ljava/lang/String;I[CII)Z", sig := { parameters := [(.object "java/lang/String"), .int, (.array .char), .int, .int], returnType := some .boolean }, accessFlags := 10, code := some k1c2 }
/-- com/example/cureline/cureline/io/TextBufferSubstringPinLaw -/
def k1 : Class := { plain "com/example/cureline/cureline/io/TextBufferSubstringPinLaw" (some 0) with
  accessFlags := 49
  interfaces := #[]
  cf := some (fileOf pool1 31 #[] #[{ accessFlags := 1, nameIndex := 5, descriptorIndex := 6, attributes := #[] }, { accessFlags := 9, nameIndex := 42, descriptorIndex := 43, attributes := #[] }, { accessFlags := 10, nameIndex := 34, descriptorIndex := 35, attributes := #[] }] 49 2 #[] #[])
  fields := #[]
  methods := #[k1m0, k1m1, k1m2]
  instanceTypes := #[]
  staticTypes := #[]
  resolved := Array.replicate 49 none
  statics := none }

def pool2 : Array CpInfo := pool [(1, .methodref 2 3), (0, .class_ 4), (0, .nameAndType 5 6), (0, u "java/lang/Object"), (0, u "<init>"), (0, u "()V"), (0, .fieldref 8 9), (0, .class_ 10), (0, .nameAndType 11 12), (0, u "com/example/cureline/cureline/io/TextBuffer"), (0, u "chars"), (0, u "[C"), (0, .fieldref 8 14), (0, .nameAndType 15 16), (0, u "length"), (0, u "I"), (0, .methodref 8 18), (0, .nameAndType 19 20), (0, u "makeRoom"), (0, u "(I)V"), (1, .class_ 24), (1, u "java/lang/String"), (0, u "()I"), (9, u "(I)Ljava/lang/String;"), (7, .methodref 44 45), (0, .class_ 46), (0, .nameAndType 47 48), (0, u "java/lang/Math"), (0, u "max"), (0, u "(II)I"), (9, u "([CII)V"), (0, .methodref 22 60), (0, .nameAndType 5 58), (0, .methodref 62 63), (0, .class_ 64), (0, .nameAndType 65 66), (0, u "java/util/Arrays"), (0, u "copyOf"), (0, u "([CI)[C"), (4, u "setLength"), (0, u "append"), (0, u "(C)Lcom/example/cureline/cureline/io/TextBuffer;"), (9, u "substring")] 19

def k2c0 : Code := { maxStack := 2, maxLocals := 2, code := prog_20_method_1_code, exceptionTable := #[], attributes := #[] }
def k2m0 : Method := { name := "<init>", desc := "(I)V", sig := { parameters := [.int], returnType := none }, accessFlags := 0, code := some k2c0 }
def k2c1 : Code := { maxStack := 1, maxLocals := 1, code := prog_20_method_2_code, exceptionTable := #[], attributes := #[] }
def k2m1 : Method := { name := "length", desc := "()I", sig := { parameters := [], returnType := some .int }, accessFlags := 0, code := some k2c1 }
def k2c2 : Code := { maxStack := 2, maxLocals := 2, code := prog_20_method_4_code, exceptionTable := #[], attributes := #[] }
def k2m2 : Method := { name := "setLength", desc := "(I)V", sig := { parameters := [.int], returnType := none }, accessFlags := 0, code := some k2c2 }
def k2c3 : Code := { maxStack := 5, maxLocals := 2, code := prog_20_method_5_code, exceptionTable := #[], attributes := #[] }
def k2m3 : Method := { name := "append", desc := "(C)Lcom/example/cureline/cureline/io/TextBuffer;", sig := { parameters := [.char], returnType := some (.object "com/example/cureline/cureline/io/TextBuffer") }, accessFlags := 0, code := some k2c3 }
def k2c4 : Code := { maxStack := 6, maxLocals := 2, code := prog_20_method_9_code, exceptionTable := #[], attributes := #[] }
def k2m4 : Method := { name := "substring", desc := "(I)Ljava/lang/String;", sig := { parameters := [.int], returnType := some (.object "java/lang/String") }, accessFlags := 0, code := some k2c4 }
def k2c5 : Code := { maxStack := 5, maxLocals := 2, code := prog_20_method_12_code, exceptionTable := #[], attributes := #[] }
def k2m5 : Method := { name := "makeRoom", desc := "(I)V", sig := { parameters := [.int], returnType := none }, accessFlags := 2, code := some k2c5 }
/-- com/example/cureline/cureline/io/TextBuffer -/
def k2 : Class := { plain "com/example/cureline/cureline/io/TextBuffer" (some 0) with
  accessFlags := 48
  interfaces := #[]
  cf := some (fileOf pool2 8 #[] #[{ accessFlags := 0, nameIndex := 5, descriptorIndex := 20, attributes := #[] }, { accessFlags := 0, nameIndex := 15, descriptorIndex := 25, attributes := #[] }, { accessFlags := 0, nameIndex := 71, descriptorIndex := 20, attributes := #[] }, { accessFlags := 0, nameIndex := 72, descriptorIndex := 73, attributes := #[] }, { accessFlags := 0, nameIndex := 83, descriptorIndex := 35, attributes := #[] }, { accessFlags := 2, nameIndex := 19, descriptorIndex := 20, attributes := #[] }] 48 2 #[] #[{ accessFlags := 2, nameIndex := 11, descriptorIndex := 12, attributes := #[] }, { accessFlags := 2, nameIndex := 15, descriptorIndex := 16, attributes := #[] }])
  fields := #[{ name := "chars", type := (.array .char), accessFlags := 2, slot := 0, constantValue := 0 }, { name := "length", type := .int, accessFlags := 2, slot := 1, constantValue := 0 }]
  methods := #[k2m0, k2m1, k2m2, k2m3, k2m4, k2m5]
  instanceTypes := #[(.array .char), .int]
  staticTypes := #[]
  resolved := Array.replicate 103 none
  statics := none }

def pool3 : Array CpInfo := pool [(1, .class_ 2), (0, u "java/io/Serializable"), (0, .class_ 4), (0, u "java/lang/Object")] 2

/-- java/io/Serializable -/
def k3 : Class := { plain "java/io/Serializable" (some 0) with
  accessFlags := 1537
  interfaces := #[]
  cf := some (fileOf pool3 1 #[] #[] 1537 3 #[] #[])
  fields := #[]
  methods := #[]
  instanceTypes := #[]
  staticTypes := #[]
  resolved := Array.replicate 7 none
  statics := none }

def pool4 : Array CpInfo := pool [(1, .class_ 2), (0, u "java/lang/Comparable"), (0, .class_ 4), (0, u "java/lang/Object")] 7

/-- java/lang/Comparable -/
def k4 : Class := { plain "java/lang/Comparable" (some 0) with
  accessFlags := 1537
  interfaces := #[]
  cf := some (fileOf pool4 1 #[] #[] 1537 3 #[] #[])
  fields := #[]
  methods := #[]
  instanceTypes := #[]
  staticTypes := #[]
  resolved := Array.replicate 12 none
  statics := none }

def pool5 : Array CpInfo := pool [(2, .class_ 4), (1, u "java/lang/CharSequence"), (42, .class_ 48), (0, u "java/lang/CharSequence$1CodePointIterator"), (10, .class_ 60), (0, u "java/lang/CharSequence$1CharIterator"), (5, .class_ 67), (0, u "java/lang/Object")] 63

/-- java/lang/CharSequence -/
def k5 : Class := { plain "java/lang/CharSequence" (some 0) with
  accessFlags := 1537
  interfaces := #[]
  cf := some (fileOf pool5 2 #[.nestMembers #[47, 59]] #[] 1537 66 #[] #[])
  fields := #[]
  methods := #[]
  instanceTypes := #[]
  staticTypes := #[]
  resolved := Array.replicate 131 none
  statics := none }

def pool6 : Array CpInfo := pool [(1, .class_ 2), (0, u "java/lang/constant/Constable"), (0, .class_ 4), (0, u "java/lang/Object")] 6

/-- java/lang/constant/Constable -/
def k6 : Class := { plain "java/lang/constant/Constable" (some 0) with
  accessFlags := 1537
  interfaces := #[]
  cf := some (fileOf pool6 1 #[] #[] 1537 3 #[] #[])
  fields := #[]
  methods := #[]
  instanceTypes := #[]
  staticTypes := #[]
  resolved := Array.replicate 11 none
  statics := none }

def pool7 : Array CpInfo := pool [(1, .class_ 2), (0, u "java/lang/constant/ConstantDesc"), (0, .class_ 4), (0, u "java/lang/Object")] 32

/-- java/lang/constant/ConstantDesc -/
def k7 : Class := { plain "java/lang/constant/ConstantDesc" (some 0) with
  accessFlags := 1537
  interfaces := #[]
  cf := some (fileOf pool7 1 #[] #[] 1537 3 #[] #[])
  fields := #[]
  methods := #[]
  instanceTypes := #[]
  staticTypes := #[]
  resolved := Array.replicate 37 none
  statics := none }

def pool8 : Array CpInfo := pool [(1, .methodref 2 3), (0, .class_ 4), (0, .nameAndType 5 6), (0, u "java/lang/Object"), (0, u "<init>"), (0, u "()V"), (0, .string 8), (0, u ""), (0, .fieldref 10 11), (0, .class_ 12), (0, .nameAndType 13 14), (0, u "java/lang/String"), (0, u "value"), (0, u "[B"), (0, .fieldref 10 16), (0, .nameAndType 17 18), (0, u "coder"), (0, u "B"), (2, u "hash"), (0, u "I"), (2, u "hashIsZero"), (0, u "Z"), (0, .methodref 10 28), (0, .nameAndType 5 29), (0, u "([CIILjava/lang/Void;)V"), (0, .methodref 10 31), (0, .nameAndType 32 33), (0, u "rangeCheck"), (0, u "([CII)Ljava/lang/Void;"), (0, .methodref 10 35), (0, .nameAndType 36 37), (0, u "checkBoundsOffCount"), (0, u "(III)I"), (0, .fieldref 10 39), (0, .nameAndType 40 26), (0, u "COMPACT_STRINGS"), (1, .class_ 44), (1, u "java/lang/StringUTF16"), (0, u "compress"), (1, .methodref 42 48), (0, .nameAndType 49 50), (0, u "coderFromArrayLen"), (0, u "([BI)B"), (56, .class_ 109), (1, u "java/lang/StringLatin1"), (32, u "()Z"), (34, .methodref 42 178), (0, .nameAndType 45 179), (0, u "([CII)[B"), (154, u "()I"), (0, .methodref 10 336), (0, .nameAndType 17 337), (0, u "()B"), (25, u "([BI)C"), (27, u "(II)V"), (35, u "(I)C"), (64, .methodref 10 493), (0, .nameAndType 494 142), (0, u "isLatin1"), (0, .methodref 107 496), (0, .nameAndType 497 363), (0, u "charAt"), (0, .methodref 42 496), (2, u "checkIndex"), (5, u "length"), (67, .class_ 576), (0, u "java/lang/CharSequence"), (22, u "CASE_INSENSITIVE_ORDER"), (0, u "Ljava/util/Comparator;"), (371, u "([CII)V"), (80, .fieldref 1054 1055), (0, .class_ 1056), (0, .nameAndType 1057 1058), (0, u "jdk/internal/util/Preconditions"), (0, u "SIOOBE_FORMATTER"), (0, u "Ljava/util/function/BiFunction;"), (0, .methodref 1054 1060), (0, .nameAndType 501 1061), (0, u "(IILjava/util/function/BiFunction;)I"), (2, u "(IIILjava/util/function/BiFunction;)I"), (0, .methodref 1054 1066), (0, .nameAndType 1067 1064), (0, u "checkFromIndexSize"), (33, u "serialPersistentFields"), (0, u "[Ljava/io/ObjectStreamField;"), (0, .class_ 1104), (0, u "java/lang/String$CaseInsensitiveComparator"), (1, .class_ 1107), (0, u "java/io/Serializable"), (0, .class_ 1109), (0, u "java/lang/Comparable"), (0, .class_ 1111), (0, u "java/lang/constant/Constable"), (0, .class_ 1113), (0, u "java/lang/constant/ConstantDesc"), (2, u "serialVersionUID"), (0, u "J"), (3, u "REPL"), (0, u "C"), (2, u "LATIN1"), (1, u "UTF16")] 323

def k8m0 : Method := { name := "<init>", desc := "()V", sig := { parameters := [], returnType := none }, accessFlags := 1, code := none }
def k8c1 : Code := { maxStack := 7, maxLocals := 4, code := jdk_42_method_4_code, exceptionTable := #[], attributes := #[] }
def k8m1 : Method := { name := "<init>", desc := "([CII)V", sig := { parameters := [(.array .char), .int, .int], returnType := none }, accessFlags := 1, code := some k8c1 }
def k8c2 : Code := { maxStack := 3, maxLocals := 3, code := jdk_42_method_5_code, exceptionTable := #[], attributes := #[] }
def k8m2 : Method := { name := "rangeCheck", desc := "([CII)Ljava/lang/Void;", sig := { parameters := [(.array .char), .int, .int], returnType := some (.object "java/lang/Void") }, accessFlags := 10, code := some k8c2 }
def k8c3 : Code := { maxStack := 2, maxLocals := 1, code := jdk_42_method_54_code, exceptionTable := #[], attributes := #[] }
def k8m3 : Method := { name := "length", desc := "()I", sig := { parameters := [], returnType := some .int }, accessFlags := 1, code := some k8c3 }
def k8c4 : Code := { maxStack := 2, maxLocals := 2, code := jdk_42_method_56_code, exceptionTable := #[], attributes := #[] }
def k8m4 : Method := { name := "charAt", desc := "(I)C", sig := { parameters := [.int], returnType := some .char }, accessFlags := 1, code := some k8c4 }
def k8c5 : Code := { maxStack := 4, maxLocals := 6, code := jdk_42_method_149_code, exceptionTable := #[], attributes := #[] }
def k8m5 : Method := { name := "<init>", desc := "([CIILjava/lang/Void;)V", sig := { parameters := [(.array .char), .int, .int, (.object "java/lang/Void")], returnType := none }, accessFlags := 2, code := some k8c5 }
def k8c6 : Code := { maxStack := 1, maxLocals := 1, code := jdk_42_method_152_code, exceptionTable := #[], attributes := #[] }
def k8m6 : Method := { name := "coder", desc := "()B", sig := { parameters := [], returnType := some .byte }, accessFlags := 0, code := some k8c6 }
def k8c7 : Code := { maxStack := 1, maxLocals := 1, code := jdk_42_method_154_code, exceptionTable := #[], attributes := #[] }
def k8m7 : Method := { name := "isLatin1", desc := "()Z", sig := { parameters := [], returnType := some .boolean }, accessFlags := 0, code := some k8c7 }
def k8c8 : Code := { maxStack := 3, maxLocals := 2, code := jdk_42_method_155_code, exceptionTable := #[], attributes := #[] }
def k8m8 : Method := { name := "checkIndex", desc := "(II)V", sig := { parameters := [.int, .int], returnType := none }, accessFlags := 8, code := some k8c8 }
def k8c9 : Code := { maxStack := 4, maxLocals := 3, code := jdk_42_method_157_code, exceptionTable := #[], attributes := #[] }
def k8m9 : Method := { name := "checkBoundsOffCount", desc := "(III)I", sig := { parameters := [.int, .int, .int], returnType := some .int }, accessFlags := 8, code := some k8c9 }
/-- java/lang/String -/
def k8 : Class := { plain "java/lang/String" (some 0) with
  accessFlags := 49
  interfaces := #[3, 4, 5, 6, 7]
  cf := some (fileOf pool8 10 #[.nestMembers #[1103]] #[{ accessFlags := 1, nameIndex := 5, descriptorIndex := 6, attributes := #[] }, { accessFlags := 1, nameIndex := 5, descriptorIndex := 972, attributes := #[] }, { accessFlags := 10, nameIndex := 32, descriptorIndex := 33, attributes := #[] }, { accessFlags := 1, nameIndex := 507, descriptorIndex := 334, attributes := #[] }, { accessFlags := 1, nameIndex := 497, descriptorIndex := 427, attributes := #[] }, { accessFlags := 2, nameIndex := 5, descriptorIndex := 29, attributes := #[] }, { accessFlags := 0, nameIndex := 17, descriptorIndex := 337, attributes := #[] }, { accessFlags := 0, nameIndex := 494, descriptorIndex := 142, attributes := #[] }, { accessFlags := 8, nameIndex := 501, descriptorIndex := 391, attributes := #[] }, { accessFlags := 8, nameIndex := 36, descriptorIndex := 37, attributes := #[] }] 49 2 #[1106, 1108, 575, 1110, 1112] #[{ accessFlags := 18, nameIndex := 13, descriptorIndex := 14, attributes := #[] }, { accessFlags := 18, nameIndex := 17, descriptorIndex := 18, attributes := #[] }, { accessFlags := 2, nameIndex := 21, descriptorIndex := 22, attributes := #[] }, { accessFlags := 2, nameIndex := 25, descriptorIndex := 26, attributes := #[] }, { accessFlags := 26, nameIndex := 1116, descriptorIndex := 1117, attributes := #[] }, { accessFlags := 24, nameIndex := 40, descriptorIndex := 26, attributes := #[] }, { accessFlags := 26, nameIndex := 1101, descriptorIndex := 1102, attributes := #[] }, { accessFlags := 26, nameIndex := 1121, descriptorIndex := 1122, attributes := #[] }, { accessFlags := 25, nameIndex := 599, descriptorIndex := 600, attributes := #[] }, { accessFlags := 24, nameIndex := 1125, descriptorIndex := 18, attributes := #[] }, { accessFlags := 24, nameIndex := 1127, descriptorIndex := 18, attributes := #[] }])
  fields := #[{ name := "value", type := (.array .byte), accessFlags := 18, slot := 0, constantValue := 0 }, { name := "coder", type := .byte, accessFlags := 18, slot := 1, constantValue := 0 }, { name := "hash", type := .int, accessFlags := 2, slot := 2, constantValue := 0 }, { name := "hashIsZero", type := .boolean, accessFlags := 2, slot := 3, constantValue := 0 }, { name := "serialVersionUID", type := .long, accessFlags := 26, slot := 0, constantValue := 0 }, { name := "COMPACT_STRINGS", type := .boolean, accessFlags := 24, slot := 1, constantValue := 0 }, { name := "serialPersistentFields", type := (.array (.object "java/io/ObjectStreamField")), accessFlags := 26, slot := 2, constantValue := 0 }, { name := "REPL", type := .char, accessFlags := 26, slot := 3, constantValue := 0 }, { name := "CASE_INSENSITIVE_ORDER", type := (.object "java/util/Comparator"), accessFlags := 25, slot := 4, constantValue := 0 }, { name := "LATIN1", type := .byte, accessFlags := 24, slot := 5, constantValue := 0 }, { name := "UTF16", type := .byte, accessFlags := 24, slot := 6, constantValue := 0 }]
  methods := #[k8m0, k8m1, k8m2, k8m3, k8m4, k8m5, k8m6, k8m7, k8m8, k8m9]
  instanceTypes := #[(.array .byte), .byte, .int, .boolean]
  staticTypes := #[.long, .boolean, (.array (.object "java/io/ObjectStreamField")), .char, (.object "java/util/Comparator"), .byte, .byte]
  resolved := Array.replicate 1451 none
  statics := some 0 }

def pool9 : Array CpInfo := pool [(2, .class_ 4), (1, u "java/lang/Object"), (0, u "<init>"), (0, u "()V"), (17, .class_ 26), (1, u "jdk/internal/util/Preconditions"), (6, u "checkIndex"), (15, u "checkFromIndexSize"), (5, .class_ 56), (0, u "jdk/internal/util/Preconditions$4"), (57, .class_ 115), (0, u "jdk/internal/util/Preconditions$1"), (7, u "SIOOBE_FORMATTER"), (0, u "Ljava/util/function/BiFunction;"), (0, .class_ 126), (0, u "jdk/internal/util/Preconditions$2"), (3, u "AIOOBE_FORMATTER"), (0, .class_ 132), (0, u "jdk/internal/util/Preconditions$3"), (3, u "IOOBE_FORMATTER"), (41, u "(IILjava/util/function/BiFunction;)I"), (4, u "(IIILjava/util/function/BiFunction;)I")] 10

def k9m0 : Method := { name := "<init>", desc := "()V", sig := { parameters := [], returnType := none }, accessFlags := 1, code := none }
def k9c1 : Code := { maxStack := 3, maxLocals := 3, code := jdk_41_method_11_code, exceptionTable := #[], attributes := #[] }
def k9m1 : Method := { name := "checkIndex", desc := "(IILjava/util/function/BiFunction;)I", sig := { parameters := [.int, .int, (.object "java/util/function/BiFunction")], returnType := some .int }, accessFlags := 9, code := some k9c1 }
def k9c2 : Code := { maxStack := 4, maxLocals := 4, code := jdk_41_method_13_code, exceptionTable := #[], attributes := #[] }
def k9m2 : Method := { name := "checkFromIndexSize", desc := "(IIILjava/util/function/BiFunction;)I", sig := { parameters := [.int, .int, .int, (.object "java/util/function/BiFunction")], returnType := some .int }, accessFlags := 9, code := some k9c2 }
/-- jdk/internal/util/Preconditions -/
def k9 : Class := { plain "jdk/internal/util/Preconditions" (some 0) with
  accessFlags := 33
  interfaces := #[]
  cf := some (fileOf pool9 24 #[.nestMembers #[55, 131, 125, 114]] #[{ accessFlags := 1, nameIndex := 5, descriptorIndex := 6, attributes := #[] }, { accessFlags := 9, nameIndex := 33, descriptorIndex := 178, attributes := #[] }, { accessFlags := 9, nameIndex := 49, descriptorIndex := 183, attributes := #[] }] 33 2 #[] #[{ accessFlags := 25, nameIndex := 123, descriptorIndex := 124, attributes := #[] }, { accessFlags := 25, nameIndex := 130, descriptorIndex := 124, attributes := #[] }, { accessFlags := 25, nameIndex := 136, descriptorIndex := 124, attributes := #[] }])
  fields := #[{ name := "SIOOBE_FORMATTER", type := (.object "java/util/function/BiFunction"), accessFlags := 25, slot := 0, constantValue := 0 }, { name := "AIOOBE_FORMATTER", type := (.object "java/util/function/BiFunction"), accessFlags := 25, slot := 1, constantValue := 0 }, { name := "IOOBE_FORMATTER", type := (.object "java/util/function/BiFunction"), accessFlags := 25, slot := 2, constantValue := 0 }]
  methods := #[k9m0, k9m1, k9m2]
  instanceTypes := #[]
  staticTypes := #[(.object "java/util/function/BiFunction"), (.object "java/util/function/BiFunction"), (.object "java/util/function/BiFunction")]
  resolved := Array.replicate 194 none
  statics := some 1 }

def pool10 : Array CpInfo := pool [(3, .class_ 4), (0, u "java/lang/String"), (1, .class_ 8), (1, u "java/lang/Object"), (0, u "<init>"), (0, u "()V"), (0, .methodref 12 13), (0, .class_ 14), (0, .nameAndType 15 16), (0, u "java/lang/StringUTF16"), (0, u "newBytesLength"), (0, u "(I)I"), (3, .integer 1073741823), (23, .fieldref 12 45), (0, .nameAndType 46 47), (0, u "$assertionsDisabled"), (0, u "Z"), (0, .methodref 12 49), (0, .nameAndType 50 51), (0, u "length"), (0, u "([B)I"), (7, .fieldref 12 60), (0, .nameAndType 61 62), (0, u "HI_BYTE_SHIFT"), (0, u "I"), (0, .fieldref 12 64), (0, .nameAndType 65 62), (0, u "LO_BYTE_SHIFT"), (1, .methodref 12 68), (0, .nameAndType 69 70), (0, u "checkIndex"), (0, u "(I[B)V"), (0, .methodref 12 72), (0, .nameAndType 73 74), (0, u "getChar"), (0, u "([BI)C"), (32, .methodref 12 108), (0, .nameAndType 109 110), (0, u "newBytesFor"), (0, u "(I)[B"), (0, .methodref 12 112), (0, .nameAndType 113 114), (0, u "putChar"), (0, u "([BII)V"), (0, .methodref 12 116), (0, .nameAndType 117 118), (0, u "compress"), (0, u "([CI[BII)I"), (0, .methodref 12 120), (0, .nameAndType 121 122), (0, u "toBytes"), (0, u "([CII)[B"), (138, u "coderFromArrayLen"), (0, u "([BI)B"), (106, .class_ 371), (1, u "java/lang/StringUTF16$LinesSpliterator"), (20, u "charAt"), (21, .methodref 3 415), (0, .nameAndType 69 416), (0, u "(II)V"), (13, u "MAX_LENGTH"), (196, .class_ 628), (0, u "java/lang/StringUTF16$CodePointsSpliterator"), (0, .class_ 630), (0, u "java/lang/StringUTF16$CharsSpliterator")] 4

def k10m0 : Method := { name := "<init>", desc := "()V", sig := { parameters := [], returnType := none }, accessFlags := 0, code := none }
def k10c1 : Code := { maxStack := 1, maxLocals := 1, code := jdk_52_method_2_code, exceptionTable := #[], attributes := #[] }
def k10m1 : Method := { name := "newBytesFor", desc := "(I)[B", sig := { parameters := [.int], returnType := some (.array .byte) }, accessFlags := 9, code := some k10c1 }
def k10c2 : Code := { maxStack := 4, maxLocals := 1, code := jdk_52_method_3_code, exceptionTable := #[], attributes := #[] }
def k10m2 : Method := { name := "newBytesLength", desc := "(I)I", sig := { parameters := [.int], returnType := some .int }, accessFlags := 9, code := some k10c2 }
def k10c3 : Code := { maxStack := 4, maxLocals := 3, code := jdk_52_method_4_code, exceptionTable := #[], attributes := #[] }
def k10m3 : Method := { name := "putChar", desc := "([BII)V", sig := { parameters := [(.array .byte), .int, .int], returnType := none }, accessFlags := 8, code := some k10c3 }
def k10c4 : Code := { maxStack := 3, maxLocals := 2, code := jdk_52_method_5_code, exceptionTable := #[], attributes := #[] }
def k10m4 : Method := { name := "getChar", desc := "([BI)C", sig := { parameters := [(.array .byte), .int], returnType := some .char }, accessFlags := 8, code := some k10c4 }
def k10c5 : Code := { maxStack := 2, maxLocals := 1, code := jdk_52_method_6_code, exceptionTable := #[], attributes := #[] }
def k10m5 : Method := { name := "length", desc := "([B)I", sig := { parameters := [(.array .byte)], returnType := some .int }, accessFlags := 9, code := some k10c5 }
def k10c6 : Code := { maxStack := 4, maxLocals := 5, code := jdk_52_method_14_code, exceptionTable := #[], attributes := #[] }
def k10m6 : Method := { name := "toBytes", desc := "([CII)[B", sig := { parameters := [(.array .char), .int, .int], returnType := some (.array .byte) }, accessFlags := 9, code := some k10c6 }
def k10c7 : Code := { maxStack := 2, maxLocals := 2, code := jdk_52_method_15_code, exceptionTable := #[], attributes := #[] }
def k10m7 : Method := { name := "coderFromArrayLen", desc := "([BI)B", sig := { parameters := [(.array .byte), .int], returnType := some .byte }, accessFlags := 8, code := some k10c7 }
def k10c8 : Code := { maxStack := 5, maxLocals := 6, code := jdk_52_method_16_code, exceptionTable := #[], attributes := #[] }
def k10m8 : Method := { name := "compress", desc := "([CII)[B", sig := { parameters := [(.array .char), .int, .int], returnType := some (.array .byte) }, accessFlags := 9, code := some k10c8 }
def k10c9 : Code := { maxStack := 3, maxLocals := 7, code := jdk_52_method_21_code, exceptionTable := #[], attributes := #[] }
def k10m9 : Method := { name := "compress", desc := "([CI[BII)I", sig := { parameters := [(.array .char), .int, (.array .byte), .int, .int], returnType := some .int }, accessFlags := 9, code := some k10c9 }
def k10c10 : Code := { maxStack := 2, maxLocals := 2, code := jdk_52_method_83_code, exceptionTable := #[], attributes := #[] }
def k10m10 : Method := { name := "charAt", desc := "([BI)C", sig := { parameters := [(.array .byte), .int], returnType := some .char }, accessFlags := 9, code := some k10c10 }
def k10c11 : Code := { maxStack := 2, maxLocals := 2, code := jdk_52_method_91_code, exceptionTable := #[], attributes := #[] }
def k10m11 : Method := { name := "checkIndex", desc := "(I[B)V", sig := { parameters := [.int, (.array .byte)], returnType := none }, accessFlags := 9, code := some k10c11 }
/-- java/lang/StringUTF16 -/
def k10 : Class := { plain "java/lang/StringUTF16" (some 0) with
  accessFlags := 48
  interfaces := #[]
  cf := some (fileOf pool10 12 #[.nestMembers #[627, 629, 369]] #[{ accessFlags := 0, nameIndex := 9, descriptorIndex := 10, attributes := #[] }, { accessFlags := 9, nameIndex := 109, descriptorIndex := 110, attributes := #[] }, { accessFlags := 9, nameIndex := 15, descriptorIndex := 16, attributes := #[] }, { accessFlags := 8, nameIndex := 113, descriptorIndex := 114, attributes := #[] }, { accessFlags := 8, nameIndex := 73, descriptorIndex := 74, attributes := #[] }, { accessFlags := 9, nameIndex := 50, descriptorIndex := 51, attributes := #[] }, { accessFlags := 9, nameIndex := 121, descriptorIndex := 122, attributes := #[] }, { accessFlags := 8, nameIndex := 261, descriptorIndex := 262, attributes := #[] }, { accessFlags := 9, nameIndex := 117, descriptorIndex := 122, attributes := #[] }, { accessFlags := 9, nameIndex := 117, descriptorIndex := 118, attributes := #[] }, { accessFlags := 9, nameIndex := 392, descriptorIndex := 74, attributes := #[] }, { accessFlags := 9, nameIndex := 69, descriptorIndex := 70, attributes := #[] }] 48 6 #[] #[{ accessFlags := 26, nameIndex := 61, descriptorIndex := 62, attributes := #[] }, { accessFlags := 26, nameIndex := 65, descriptorIndex := 62, attributes := #[] }, { accessFlags := 24, nameIndex := 430, descriptorIndex := 62, attributes := #[] }, { accessFlags := 4120, nameIndex := 46, descriptorIndex := 47, attributes := #[] }])
  fields := #[{ name := "HI_BYTE_SHIFT", type := .int, accessFlags := 26, slot := 0, constantValue := 0 }, { name := "LO_BYTE_SHIFT", type := .int, accessFlags := 26, slot := 1, constantValue := 0 }, { name := "MAX_LENGTH", type := .int, accessFlags := 24, slot := 2, constantValue := 0 }, { name := "$assertionsDisabled", type := .boolean, accessFlags := 4120, slot := 3, constantValue := 0 }]
  methods := #[k10m0, k10m1, k10m2, k10m3, k10m4, k10m5, k10m6, k10m7, k10m8, k10m9, k10m10, k10m11]
  instanceTypes := #[]
  staticTypes := #[.int, .int, .int, .boolean]
  resolved := Array.replicate 635 none
  statics := some 2 }

def pool11 : Array CpInfo := pool [(1, .class_ 2), (0, u "java/lang/String"), (1, .class_ 6), (1, u "java/lang/Object"), (0, u "<init>"), (0, u "()V"), (0, .methodref 1 10), (0, .nameAndType 11 12), (0, u "checkIndex"), (0, u "(II)V"), (1, .class_ 16), (1, u "java/lang/StringLatin1"), (36, u "([BI)C"), (67, u "$assertionsDisabled"), (0, u "Z"), (98, .class_ 223), (1, u "java/lang/StringLatin1$LinesSpliterator"), (28, u "charAt"), (137, .class_ 391), (0, u "java/lang/StringLatin1$CharsSpliterator")] 3

def k11m0 : Method := { name := "<init>", desc := "()V", sig := { parameters := [], returnType := none }, accessFlags := 0, code := none }
def k11c1 : Code := { maxStack := 2, maxLocals := 2, code := jdk_43_method_2_code, exceptionTable := #[], attributes := #[] }
def k11m1 : Method := { name := "charAt", desc := "([BI)C", sig := { parameters := [(.array .byte), .int], returnType := some .char }, accessFlags := 9, code := some k11c1 }
/-- java/lang/StringLatin1 -/
def k11 : Class := { plain "java/lang/StringLatin1" (some 0) with
  accessFlags := 48
  interfaces := #[]
  cf := some (fileOf pool11 14 #[.nestMembers #[390, 221]] #[{ accessFlags := 0, nameIndex := 7, descriptorIndex := 8, attributes := #[] }, { accessFlags := 9, nameIndex := 252, descriptorIndex := 53, attributes := #[] }] 48 4 #[] #[{ accessFlags := 4120, nameIndex := 121, descriptorIndex := 122, attributes := #[] }])
  fields := #[{ name := "$assertionsDisabled", type := .boolean, accessFlags := 4120, slot := 0, constantValue := 0 }]
  methods := #[k11m0, k11m1]
  instanceTypes := #[]
  staticTypes := #[.boolean]
  resolved := Array.replicate 395 none
  statics := none }

def pool12 : Array CpInfo := pool [(1, .class_ 2), (0, u "java/lang/Math"), (1, .class_ 6), (1, u "java/lang/Object"), (0, u "<init>"), (0, u "()V"), (89, .class_ 100), (1, u "java/lang/Math$RandomNumberGeneratorHolder"), (71, u "negativeZeroFloatBits"), (0, u "J"), (2, u "negativeZeroDoubleBits"), (21, u "max"), (2, u "min"), (43, u "$assertionsDisabled"), (0, u "Z"), (88, u "(II)I"), (2, u "twoToTheDoubleScaleDown"), (0, u "D"), (4, u "twoToTheDoubleScaleUp"), (9, u "E"), (3, u "PI"), (2, u "TAU"), (2, u "DEGREES_TO_RADIANS"), (0, u "RADIANS_TO_DEGREES")] 94

def k12m0 : Method := { name := "<init>", desc := "()V", sig := { parameters := [], returnType := none }, accessFlags := 2, code := none }
def k12c1 : Code := { maxStack := 2, maxLocals := 2, code := jdk_29_method_65_code, exceptionTable := #[], attributes := #[] }
def k12m1 : Method := { name := "max", desc := "(II)I", sig := { parameters := [.int, .int], returnType := some .int }, accessFlags := 9, code := some k12c1 }
def k12c2 : Code := { maxStack := 2, maxLocals := 2, code := jdk_29_method_69_code, exceptionTable := #[], attributes := #[] }
def k12m2 : Method := { name := "min", desc := "(II)I", sig := { parameters := [.int, .int], returnType := some .int }, accessFlags := 9, code := some k12c2 }
/-- java/lang/Math -/
def k12 : Class := { plain "java/lang/Math" (some 0) with
  accessFlags := 49
  interfaces := #[]
  cf := some (fileOf pool12 1 #[.nestMembers #[98]] #[{ accessFlags := 2, nameIndex := 7, descriptorIndex := 8, attributes := #[] }, { accessFlags := 9, nameIndex := 198, descriptorIndex := 335, attributes := #[] }, { accessFlags := 9, nameIndex := 201, descriptorIndex := 335, attributes := #[] }] 49 4 #[] #[{ accessFlags := 25, nameIndex := 354, descriptorIndex := 339, attributes := #[] }, { accessFlags := 25, nameIndex := 358, descriptorIndex := 339, attributes := #[] }, { accessFlags := 25, nameIndex := 361, descriptorIndex := 339, attributes := #[] }, { accessFlags := 26, nameIndex := 364, descriptorIndex := 339, attributes := #[] }, { accessFlags := 26, nameIndex := 365, descriptorIndex := 339, attributes := #[] }, { accessFlags := 26, nameIndex := 172, descriptorIndex := 173, attributes := #[] }, { accessFlags := 26, nameIndex := 176, descriptorIndex := 173, attributes := #[] }, { accessFlags := 8, nameIndex := 344, descriptorIndex := 339, attributes := #[] }, { accessFlags := 8, nameIndex := 338, descriptorIndex := 339, attributes := #[] }, { accessFlags := 4120, nameIndex := 245, descriptorIndex := 246, attributes := #[] }])
  fields := #[{ name := "E", type := .double, accessFlags := 25, slot := 0, constantValue := 0 }, { name := "PI", type := .double, accessFlags := 25, slot := 1, constantValue := 0 }, { name := "TAU", type := .double, accessFlags := 25, slot := 2, constantValue := 0 }, { name := "DEGREES_TO_RADIANS", type := .double, accessFlags := 26, slot := 3, constantValue := 0 }, { name := "RADIANS_TO_DEGREES", type := .double, accessFlags := 26, slot := 4, constantValue := 0 }, { name := "negativeZeroFloatBits", type := .long, accessFlags := 26, slot := 5, constantValue := 0 }, { name := "negativeZeroDoubleBits", type := .long, accessFlags := 26, slot := 6, constantValue := 0 }, { name := "twoToTheDoubleScaleUp", type := .double, accessFlags := 8, slot := 7, constantValue := 0 }, { name := "twoToTheDoubleScaleDown", type := .double, accessFlags := 8, slot := 8, constantValue := 0 }, { name := "$assertionsDisabled", type := .boolean, accessFlags := 4120, slot := 9, constantValue := 0 }]
  methods := #[k12m0, k12m1, k12m2]
  instanceTypes := #[]
  staticTypes := #[.double, .double, .double, .double, .double, .long, .long, .double, .double, .boolean]
  resolved := Array.replicate 460 none
  statics := none }

def pool13 : Array CpInfo := pool [(2, .class_ 4), (1, u "java/lang/Object"), (0, u "<init>"), (0, u "()V"), (7, .class_ 16), (1, u "java/util/Arrays"), (57, .class_ 76), (1, u "java/util/Arrays$NaturalOrder"), (36, .class_ 115), (1, u "java/util/Arrays$LegacyMergeSort"), (1, u "Z"), (32, .methodref 151 152), (0, .class_ 153), (0, .nameAndType 154 155), (0, u "java/lang/System"), (0, u "arraycopy"), (0, u "(Ljava/lang/Object;ILjava/lang/Object;II)V"), (146, u "copyOf"), (1, .methodref 305 306), (0, .class_ 307), (0, .nameAndType 308 309), (0, u "java/lang/Math"), (0, u "min"), (0, u "(II)I"), (65, .class_ 376), (0, u "java/util/Arrays$ArrayList"), (68, u "$assertionsDisabled"), (269, u "MIN_ARRAY_SORT_GRAN"), (0, u "I"), (2, u "INSERTIONSORT_THRESHOLD"), (153, u "([CI)[C"), (101, .class_ 976), (0, u "java/util/Arrays$ArrayItr")] 52

def k13m0 : Method := { name := "<init>", desc := "()V", sig := { parameters := [], returnType := none }, accessFlags := 2, code := none }
def k13c1 : Code := { maxStack := 6, maxLocals := 3, code := jdk_65_method_125_code, exceptionTable := #[], attributes := #[] }
def k13m1 : Method := { name := "copyOf", desc := "([CI)[C", sig := { parameters := [(.array .char), .int], returnType := some (.array .char) }, accessFlags := 9, code := some k13c1 }
/-- java/util/Arrays -/
def k13 : Class := { plain "java/util/Arrays" (some 0) with
  accessFlags := 49
  interfaces := #[]
  cf := some (fileOf pool13 14 #[.nestMembers #[975, 375, 113, 74]] #[{ accessFlags := 2, nameIndex := 5, descriptorIndex := 6, attributes := #[] }, { accessFlags := 9, nameIndex := 302, descriptorIndex := 873, attributes := #[] }] 49 2 #[] #[{ accessFlags := 26, nameIndex := 715, descriptorIndex := 716, attributes := #[] }, { accessFlags := 26, nameIndex := 719, descriptorIndex := 716, attributes := #[] }, { accessFlags := 4120, nameIndex := 445, descriptorIndex := 117, attributes := #[] }])
  fields := #[{ name := "MIN_ARRAY_SORT_GRAN", type := .int, accessFlags := 26, slot := 0, constantValue := 0 }, { name := "INSERTIONSORT_THRESHOLD", type := .int, accessFlags := 26, slot := 1, constantValue := 0 }, { name := "$assertionsDisabled", type := .boolean, accessFlags := 4120, slot := 2, constantValue := 0 }]
  methods := #[k13m0, k13m1]
  instanceTypes := #[]
  staticTypes := #[.int, .int, .boolean]
  resolved := Array.replicate 1029 none
  statics := none }

def pool14 : Array CpInfo := pool [(2, .class_ 4), (1, u "java/lang/Object"), (0, u "<init>"), (0, u "()V"), (1, .class_ 10), (1, u "java/lang/System"), (0, u "allowSecurityManager"), (0, u "I"), (16, u "cons"), (0, u "Ljava/io/Console;"), (77, .class_ 110), (1, u "java/lang/System$CallersHolder"), (43, u "initialErrStream"), (0, u "Ljava/io/PrintStream;"), (19, u "security"), (0, u "Ljava/lang/SecurityManager;"), (31, .class_ 209), (0, u "java/lang/System$1"), (7, u "props"), (0, u "Ljava/util/Properties;"), (2, u "lineSeparator"), (0, u "Ljava/lang/String;"), (96, .class_ 321), (1, u "java/lang/System$LoggerFinder"), (5, .class_ 328), (0, u "java/lang/System$Logger"), (67, u "err"), (2, u "out"), (91, u "notSupportedJnuEncoding"), (15, u "in"), (17, u "initialIn"), (0, u "Ljava/io/InputStream;"), (35, u "bootLayer"), (0, u "Ljava/lang/ModuleLayer;"), (99, .class_ 664), (0, u "java/lang/System$2"), (9, u "NEVER"), (2, u "MAYBE"), (49, u "arraycopy"), (0, u "(Ljava/lang/Object;ILjava/lang/Object;II)V"), (72, .class_ 802), (0, u "java/lang/System$Logger$Level")] 31

def k14m0 : Method := { name := "<init>", desc := "()V", sig := { parameters := [], returnType := none }, accessFlags := 2, code := none }
def k14m1 : Method := { name := "arraycopy", desc := "(Ljava/lang/Object;ILjava/lang/Object;II)V", sig := { parameters := [(.object "java/lang/Object"), .int, (.object "java/lang/Object"), .int, .int], returnType := none }, accessFlags := 265, code := none }
/-- java/lang/System -/
def k14 : Class := { plain "java/lang/System" (some 0) with
  accessFlags := 49
  interfaces := #[]
  cf := some (fileOf pool14 8 #[.nestMembers #[319, 327, 801, 108, 663, 208]] #[{ accessFlags := 2, nameIndex := 5, descriptorIndex := 6, attributes := #[] }, { accessFlags := 265, nameIndex := 727, descriptorIndex := 728, attributes := #[] }] 49 2 #[] #[{ accessFlags := 25, nameIndex := 507, descriptorIndex := 526, attributes := #[] }, { accessFlags := 25, nameIndex := 399, descriptorIndex := 155, attributes := #[] }, { accessFlags := 25, nameIndex := 396, descriptorIndex := 155, attributes := #[] }, { accessFlags := 10, nameIndex := 525, descriptorIndex := 526, attributes := #[] }, { accessFlags := 26, nameIndex := 674, descriptorIndex := 12, attributes := #[] }, { accessFlags := 26, nameIndex := 677, descriptorIndex := 12, attributes := #[] }, { accessFlags := 10, nameIndex := 11, descriptorIndex := 12, attributes := #[] }, { accessFlags := 74, nameIndex := 175, descriptorIndex := 176, attributes := #[] }, { accessFlags := 10, nameIndex := 491, descriptorIndex := 222, attributes := #[] }, { accessFlags := 74, nameIndex := 29, descriptorIndex := 30, attributes := #[] }, { accessFlags := 74, nameIndex := 154, descriptorIndex := 155, attributes := #[] }, { accessFlags := 10, nameIndex := 217, descriptorIndex := 218, attributes := #[] }, { accessFlags := 10, nameIndex := 221, descriptorIndex := 222, attributes := #[] }, { accessFlags := 8, nameIndex := 562, descriptorIndex := 563, attributes := #[] }])
  fields := #[{ name := "in", type := (.object "java/io/InputStream"), accessFlags := 25, slot := 0, constantValue := 0 }, { name := "out", type := (.object "java/io/PrintStream"), accessFlags := 25, slot := 1, constantValue := 0 }, { name := "err", type := (.object "java/io/PrintStream"), accessFlags := 25, slot := 2, constantValue := 0 }, { name := "initialIn", type := (.object "java/io/InputStream"), accessFlags := 10, slot := 3, constantValue := 0 }, { name := "NEVER", type := .int, accessFlags := 26, slot := 4, constantValue := 0 }, { name := "MAYBE", type := .int, accessFlags := 26, slot := 5, constantValue := 0 }, { name := "allowSecurityManager", type := .int, accessFlags := 10, slot := 6, constantValue := 0 }, { name := "security", type := (.object "java/lang/SecurityManager"), accessFlags := 74, slot := 7, constantValue := 0 }, { name := "notSupportedJnuEncoding", type := (.object "java/lang/String"), accessFlags := 10, slot := 8, constantValue := 0 }, { name := "cons", type := (.object "java/io/Console"), accessFlags := 74, slot := 9, constantValue := 0 }, { name := "initialErrStream", type := (.object "java/io/PrintStream"), accessFlags := 74, slot := 10, constantValue := 0 }, { name := "props", type := (.object "java/util/Properties"), accessFlags := 10, slot := 11, constantValue := 0 }, { name := "lineSeparator", type := (.object "java/lang/String"), accessFlags := 10, slot := 12, constantValue := 0 }, { name := "bootLayer", type := (.object "java/lang/ModuleLayer"), accessFlags := 8, slot := 13, constantValue := 0 }]
  methods := #[k14m0, k14m1]
  instanceTypes := #[]
  staticTypes := #[(.object "java/io/InputStream"), (.object "java/io/PrintStream"), (.object "java/io/PrintStream"), (.object "java/io/InputStream"), .int, .int, .int, (.object "java/lang/SecurityManager"), (.object "java/lang/String"), (.object "java/io/Console"), (.object "java/io/PrintStream"), (.object "java/util/Properties"), (.object "java/lang/String"), (.object "java/lang/ModuleLayer")]
  resolved := Array.replicate 834 none
  statics := none }

def pool15 : Array CpInfo := pool [(9, u "<init>"), (6, .class_ 18), (1, u "java/lang/Object"), (0, u "()V"), (1, .class_ 23), (1, u "jdk/internal/util/ArraysSupport"), (0, u "LOG2_ARRAY_LONG_INDEX_SCALE"), (0, u "I"), (2, u "U"), (0, u "Ljdk/internal/misc/Unsafe;"), (8, u "BIG_ENDIAN"), (0, u "Z"), (8, u "LOG2_BYTE_BIT_SIZE"), (4, u "LOG2_ARRAY_INT_INDEX_SCALE"), (54, u "JLA"), (0, u "Ljdk/internal/access/JavaLangAccess;"), (11, u "LOG2_ARRAY_BOOLEAN_INDEX_SCALE"), (9, u "LOG2_ARRAY_BYTE_INDEX_SCALE"), (5, u "LOG2_ARRAY_CHAR_INDEX_SCALE"), (5, u "LOG2_ARRAY_SHORT_INDEX_SCALE"), (18, u "LOG2_ARRAY_FLOAT_INDEX_SCALE"), (24, u "LOG2_ARRAY_DOUBLE_INDEX_SCALE"), (89, u "T_BOOLEAN"), (2, u "T_CHAR"), (1, u "T_FLOAT"), (1, u "T_DOUBLE"), (1, u "T_BYTE"), (1, u "T_SHORT"), (1, u "T_INT"), (1, u "T_LONG"), (1, u "SOFT_MAX_ARRAY_LENGTH")] 83

def k15m0 : Method := { name := "<init>", desc := "()V", sig := { parameters := [], returnType := none }, accessFlags := 2, code := none }
/-- jdk/internal/util/ArraysSupport -/
def k15 : Class := { plain "jdk/internal/util/ArraysSupport" (some 0) with
  accessFlags := 33
  interfaces := #[]
  cf := some (fileOf pool15 21 #[] #[{ accessFlags := 2, nameIndex := 9, descriptorIndex := 19, attributes := #[] }] 33 16 #[] #[{ accessFlags := 24, nameIndex := 28, descriptorIndex := 29, attributes := #[] }, { accessFlags := 26, nameIndex := 38, descriptorIndex := 39, attributes := #[] }, { accessFlags := 25, nameIndex := 121, descriptorIndex := 25, attributes := #[] }, { accessFlags := 25, nameIndex := 131, descriptorIndex := 25, attributes := #[] }, { accessFlags := 25, nameIndex := 137, descriptorIndex := 25, attributes := #[] }, { accessFlags := 25, nameIndex := 143, descriptorIndex := 25, attributes := #[] }, { accessFlags := 25, nameIndex := 53, descriptorIndex := 25, attributes := #[] }, { accessFlags := 25, nameIndex := 24, descriptorIndex := 25, attributes := #[] }, { accessFlags := 25, nameIndex := 162, descriptorIndex := 25, attributes := #[] }, { accessFlags := 25, nameIndex := 187, descriptorIndex := 25, attributes := #[] }, { accessFlags := 26, nameIndex := 48, descriptorIndex := 25, attributes := #[] }, { accessFlags := 25, nameIndex := 277, descriptorIndex := 25, attributes := #[] }, { accessFlags := 25, nameIndex := 280, descriptorIndex := 25, attributes := #[] }, { accessFlags := 25, nameIndex := 282, descriptorIndex := 25, attributes := #[] }, { accessFlags := 25, nameIndex := 284, descriptorIndex := 25, attributes := #[] }, { accessFlags := 25, nameIndex := 286, descriptorIndex := 25, attributes := #[] }, { accessFlags := 25, nameIndex := 288, descriptorIndex := 25, attributes := #[] }, { accessFlags := 25, nameIndex := 290, descriptorIndex := 25, attributes := #[] }, { accessFlags := 25, nameIndex := 292, descriptorIndex := 25, attributes := #[] }, { accessFlags := 26, nameIndex := 108, descriptorIndex := 109, attributes := #[] }, { accessFlags := 25, nameIndex := 294, descriptorIndex := 25, attributes := #[] }])
  fields := #[{ name := "U", type := (.object "jdk/internal/misc/Unsafe"), accessFlags := 24, slot := 0, constantValue := 0 }, { name := "BIG_ENDIAN", type := .boolean, accessFlags := 26, slot := 1, constantValue := 0 }, { name := "LOG2_ARRAY_BOOLEAN_INDEX_SCALE", type := .int, accessFlags := 25, slot := 2, constantValue := 0 }, { name := "LOG2_ARRAY_BYTE_INDEX_SCALE", type := .int, accessFlags := 25, slot := 3, constantValue := 0 }, { name := "LOG2_ARRAY_CHAR_INDEX_SCALE", type := .int, accessFlags := 25, slot := 4, constantValue := 0 }, { name := "LOG2_ARRAY_SHORT_INDEX_SCALE", type := .int, accessFlags := 25, slot := 5, constantValue := 0 }, { name := "LOG2_ARRAY_INT_INDEX_SCALE", type := .int, accessFlags := 25, slot := 6, constantValue := 0 }, { name := "LOG2_ARRAY_LONG_INDEX_SCALE", type := .int, accessFlags := 25, slot := 7, constantValue := 0 }, { name := "LOG2_ARRAY_FLOAT_INDEX_SCALE", type := .int, accessFlags := 25, slot := 8, constantValue := 0 }, { name := "LOG2_ARRAY_DOUBLE_INDEX_SCALE", type := .int, accessFlags := 25, slot := 9, constantValue := 0 }, { name := "LOG2_BYTE_BIT_SIZE", type := .int, accessFlags := 26, slot := 10, constantValue := 0 }, { name := "T_BOOLEAN", type := .int, accessFlags := 25, slot := 11, constantValue := 0 }, { name := "T_CHAR", type := .int, accessFlags := 25, slot := 12, constantValue := 0 }, { name := "T_FLOAT", type := .int, accessFlags := 25, slot := 13, constantValue := 0 }, { name := "T_DOUBLE", type := .int, accessFlags := 25, slot := 14, constantValue := 0 }, { name := "T_BYTE", type := .int, accessFlags := 25, slot := 15, constantValue := 0 }, { name := "T_SHORT", type := .int, accessFlags := 25, slot := 16, constantValue := 0 }, { name := "T_INT", type := .int, accessFlags := 25, slot := 17, constantValue := 0 }, { name := "T_LONG", type := .int, accessFlags := 25, slot := 18, constantValue := 0 }, { name := "JLA", type := (.object "jdk/internal/access/JavaLangAccess"), accessFlags := 26, slot := 19, constantValue := 0 }, { name := "SOFT_MAX_ARRAY_LENGTH", type := .int, accessFlags := 25, slot := 20, constantValue := 0 }]
  methods := #[k15m0]
  instanceTypes := #[]
  staticTypes := #[(.object "jdk/internal/misc/Unsafe"), .boolean, .int, .int, .int, .int, .int, .int, .int, .int, .int, .int, .int, .int, .int, .int, .int, .int, .int, (.object "jdk/internal/access/JavaLangAccess"), .int]
  resolved := Array.replicate 378 none
  statics := none }

def pool16 : Array CpInfo := pool [(1, u "java/lang/Cloneable"), (0, .class_ 1), (0, u "java/lang/Object"), (0, .class_ 3)] 3

/-- java/lang/Cloneable -/
def k16 : Class := { plain "java/lang/Cloneable" (some 0) with
  accessFlags := 1537
  interfaces := #[]
  cf := some (fileOf pool16 2 #[] #[] 1537 4 #[] #[])
  fields := #[]
  methods := #[]
  instanceTypes := #[]
  staticTypes := #[]
  resolved := Array.replicate 8 none
  statics := none }

/-- the primitive byte -/
def k17 : Class := { plain "byte" none with kind := .primitive 'B', accessFlags := 0x411 }
/-- [B -/
def k18 : Class := { plain "[B" (some 0) with kind := .array 17 .byte, interfaces := #[16, 3], accessFlags := 1041 }

/-- the primitive char -/
def k19 : Class := { plain "char" none with kind := .primitive 'C', accessFlags := 0x411 }
/-- [C -/
def k20 : Class := { plain "[C" (some 0) with kind := .array 19 .char, interfaces := #[16, 3], accessFlags := 1041 }

/-- the primitive int -/
def k21 : Class := { plain "int" none with kind := .primitive 'I', accessFlags := 0x411 }
/-- [I -/
def k22 : Class := { plain "[I" (some 0) with kind := .array 21 .int, interfaces := #[16, 3], accessFlags := 1041 }

def heap : Heap := #[{ cls := 8, slots := #[.long 0, .int 1, .null, .int 0, .null, .int 0, .int 0], vm := .statics 8 },
  { cls := 9, slots := #[.null, .null, .null], vm := .statics 9 },
  { cls := 10, slots := #[.int 0, .int 8, .int 0, .int 1], vm := .statics 10 }]
def classes : Array Class := #[k0, k1, k2, k3, k4, k5, k6, k7, k8, k9, k10, k11, k12, k13, k14, k15, k16, k17, k18, k19, k20, k21, k22]
def interned : List (Array UInt16 × Addr) := []
def slotsUsed : Nat := 14
def theMethod : MethodId := ⟨1, 1⟩
def args0 : Array Value := #[.int 5, .int 6, .int 27]
def aboutOver (below : List Frame) : State where
  vm := { classes := classes, interned := interned.toArray }
  heap := heap
  slotsUsed := slotsUsed
  threads := #[{ frames := .invoking theMethod args0 :: below }]
def below0 : List Frame := [.native { method := ⟨0, 0⟩, args := #[] }]
def about1 : State := aboutOver below0
def p0 : Program := .bare "" "" ""
def e0 : Env := launch0.env 0 0 0
theorem w_frames : about1.frames = Frame.invoking theMethod args0 :: below0 := rfl
set_option maxRecDepth 65536 in
theorem w_args : argsFit about1.vm theMethod args0 = true := by decide +kernel
set_option maxRecDepth 65536 in
theorem w_heap : heapFits about1 = true := by decide +kernel
set_option maxRecDepth 65536 in
theorem w_runnable : about1.curStatus? = some .runnable := by decide +kernel
set_option maxRecDepth 65536 in
theorem w_alone : about1.alone = true := by decide +kernel
set_option maxRecDepth 65536 in
theorem w_named : about1.methodNamed? x = some theMethod := by decide +kernel
set_option maxRecDepth 65536 in
theorem w_hears : about1.hears theMethod below0 = true := by decide +kernel
set_option maxRecDepth 65536 in
theorem w_ripe : about1.ripe theMethod args0 below0 = true := by decide +kernel
theorem w_running : about1.status = .running := rfl
set_option maxRecDepth 65536 in
theorem w_room : about1.hasRoom e0.platform room_1 = true :=
  launch0.hasRoom_least _ room_1 (by decide +kernel) (by decide +kernel) (by decide +kernel) (by decide +kernel) (by decide +kernel) (by decide +kernel)
theorem allAtoms_all (ts : List Jvm.Cond) (a : Array Jvm.Value) (st : Jvm.State) : (allAtoms ts).before a st = ts.all (fun c => c.before a st) := by
  induction ts with
  | nil => rfl
  | cons c t ih =>
    show (Jvm.Cond.and c (allAtoms t)).before a st = _
    rw [Jvm.Cond.before_and, ih, List.all_cons]
def words1 : List Jvm.Cond := Jvm.Cond.code x code maxLocals ret :: tables_1
/-- a 'code' word, met by the world's own term for the bytes: nothing is compared byte by byte -/
theorem code_word {y : MethodName} {bytes : ByteArray} {mx : Nat} {rt : Option FieldType} {a : Array Value} {s : State} {m : MethodId} {meth : Method} {c : Code} (h1 : s.methodNamed? y = some m) (h2 : s.vm.method? m = some meth) (h3 : meth.code = some c) (h4 : c.code = bytes)
    (h5 : (c.maxLocals == mx && c.exceptionTable.isEmpty && decide (c.maxStack ≤ mostOperands) && decide (meth.sig.returnType = rt) && !meth.locks && decide (parseMethodDescriptor y.desc = some meth.sig)) = true) : (Jvm.Cond.code y bytes mx rt).before a s = true := by
  simp only [Bool.and_eq_true, beq_iff_eq, Bool.not_eq_true', decide_eq_true_eq] at h5
  obtain ⟨⟨⟨⟨⟨g1, g2⟩, g3⟩, g4⟩, g5⟩, g6⟩ := h5
  simp [Cond.before, Cond.holds, Cond.value, h1, h2, h3, h4, g1, g2, g3, g4, g5, g6]
def isCode : Jvm.Cond → Bool
  | .code _ _ _ _ => true
  | _ => false
theorem all_split {L : List Jvm.Cond} {P : Jvm.Cond → Bool} (h1 : L.all (fun c => isCode c || P c) = true) (h2 : ∀ c ∈ L.filter isCode, P c = true) : L.all P = true := by
  refine List.all_eq_true.mpr fun c hc => ?_
  have h := List.all_eq_true.mp h1 c hc
  rcases Bool.eq_false_or_eq_true (isCode c) with hi | hi
  · exact h2 c (List.mem_filter.mpr ⟨hc, hi⟩)
  · simpa [hi] using h
set_option maxRecDepth 65536 in
theorem w_c0 : (Jvm.Cond.code x code maxLocals ret).before args0 about1 = true := code_word (m := ⟨1, 1⟩) (meth := k1m1) (c := k1c1) (by decide +kernel) rfl rfl rfl (by decide +kernel)
set_option maxRecDepth 65536 in
theorem w_c1 : (Jvm.Cond.code ({ cls := "com/example/cureline/cureline/io/TextBuffer", name := "<init>", desc := "(I)V" } : Jvm.MethodName) prog_20_method_1_code (2 : Nat) (Option.none : Option Jvm.ClassFile.FieldType)).before args0 about1 = true := code_word (m := ⟨2, 0⟩) (meth := k2m0) (c := k2c0) (by decide +kernel) rfl rfl rfl (by decide +kernel)
set_option maxRecDepth 65536 in
theorem w_c2 : (Jvm.Cond.code ({ cls := "java/lang/Object", name := "<init>", desc := "()V" } : Jvm.MethodName) object_method_1_code (1 : Nat) (Option.none : Option Jvm.ClassFile.FieldType)).before args0 about1 = true := code_word (m := ⟨0, 0⟩) (meth := k0m0) (c := k0c0) (by decide +kernel) rfl rfl rfl (by decide +kernel)
set_option maxRecDepth 65536 in
theorem w_c3 : (Jvm.Cond.code ({ cls := "com/example/cureline/cureline/io/TextBuffer", name := "setLength", desc := "(I)V" } : Jvm.MethodName) prog_20_method_4_code (2 : Nat) (Option.none : Option Jvm.ClassFile.FieldType)).before args0 about1 = true := code_word (m := ⟨2, 2⟩) (meth := k2m2) (c := k2c2) (by decide +kernel) rfl rfl rfl (by decide +kernel)
set_option maxRecDepth 65536 in
theorem w_c4 : (Jvm.Cond.code ({ cls := "com/example/cureline/cureline/io/TextBuffer", name := "substring", desc := "(I)Ljava/lang/String;" } : Jvm.MethodName) prog_20_method_9_code (2 : Nat) (Option.some (Jvm.ClassFile.FieldType.object "java/lang/String"))).before args0 about1 = true := code_word (m := ⟨2, 4⟩) (meth := k2m4) (c := k2c4) (by decide +kernel) rfl rfl rfl (by decide +kernel)
set_option maxRecDepth 65536 in
theorem w_c5 : (Jvm.Cond.code ({ cls := "java/lang/String", name := "<init>", desc := "([CII)V" } : Jvm.MethodName) jdk_42_method_4_code (4 : Nat) (Option.none : Option Jvm.ClassFile.FieldType)).before args0 about1 = true := code_word (m := ⟨8, 1⟩) (meth := k8m1) (c := k8c1) (by decide +kernel) rfl rfl rfl (by decide +kernel)
set_option maxRecDepth 65536 in
theorem w_c6 : (Jvm.Cond.code ({ cls := "java/lang/String", name := "rangeCheck", desc := "([CII)Ljava/lang/Void;" } : Jvm.MethodName) jdk_42_method_5_code (3 : Nat) (Option.some (Jvm.ClassFile.FieldType.object "java/lang/Void"))).before args0 about1 = true := code_word (m := ⟨8, 2⟩) (meth := k8m2) (c := k8c2) (by decide +kernel) rfl rfl rfl (by decide +kernel)
set_option maxRecDepth 65536 in
theorem w_c7 : (Jvm.Cond.code ({ cls := "java/lang/String", name := "checkBoundsOffCount", desc := "(III)I" } : Jvm.MethodName) jdk_42_method_157_code (3 : Nat) (Option.some Jvm.ClassFile.FieldType.int)).before args0 about1 = true := code_word (m := ⟨8, 9⟩) (meth := k8m9) (c := k8c9) (by decide +kernel) rfl rfl rfl (by decide +kernel)
set_option maxRecDepth 65536 in
theorem w_c8 : (Jvm.Cond.code ({ cls := "jdk/internal/util/Preconditions", name := "checkFromIndexSize", desc := "(IIILjava/util/function/BiFunction;)I" } : Jvm.MethodName) jdk_41_method_13_code (4 : Nat) (Option.some Jvm.ClassFile.FieldType.int)).before args0 about1 = true := code_word (m := ⟨9, 2⟩) (meth := k9m2) (c := k9c2) (by decide +kernel) rfl rfl rfl (by decide +kernel)
set_option maxRecDepth 65536 in
theorem w_c9 : (Jvm.Cond.code ({ cls := "java/lang/String", name := "<init>", desc := "([CIILjava/lang/Void;)V" } : Jvm.MethodName) jdk_42_method_149_code (6 : Nat) (Option.none : Option Jvm.ClassFile.FieldType)).before args0 about1 = true := code_word (m := ⟨8, 5⟩) (meth := k8m5) (c := k8c5) (by decide +kernel) rfl rfl rfl (by decide +kernel)
set_option maxRecDepth 65536 in
theorem w_c10 : (Jvm.Cond.code ({ cls := "java/lang/String", name := "length", desc := "()I" } : Jvm.MethodName) jdk_42_method_54_code (1 : Nat) (Option.some Jvm.ClassFile.FieldType.int)).before args0 about1 = true := code_word (m := ⟨8, 3⟩) (meth := k8m3) (c := k8c3) (by decide +kernel) rfl rfl rfl (by decide +kernel)
set_option maxRecDepth 65536 in
theorem w_c11 : (Jvm.Cond.code ({ cls := "java/lang/String", name := "coder", desc := "()B" } : Jvm.MethodName) jdk_42_method_152_code (1 : Nat) (Option.some Jvm.ClassFile.FieldType.byte)).before args0 about1 = true := code_word (m := ⟨8, 6⟩) (meth := k8m6) (c := k8c6) (by decide +kernel) rfl rfl rfl (by decide +kernel)
set_option maxRecDepth 65536 in
theorem w_c12 : (Jvm.Cond.code ({ cls := "com/example/cureline/cureline/io/TextBuffer", name := "length", desc := "()I" } : Jvm.MethodName) prog_20_method_2_code (1 : Nat) (Option.some Jvm.ClassFile.FieldType.int)).before args0 about1 = true := code_word (m := ⟨2, 1⟩) (meth := k2m1) (c := k2c1) (by decide +kernel) rfl rfl rfl (by decide +kernel)
set_option maxRecDepth 65536 in
theorem w_c13 : (Jvm.Cond.code ({ cls := "com/example/cureline/cureline/io/TextBufferSubstringPinLaw", name := "at", desc := "(Ljava/lang/String;I[CII)Z" } : Jvm.MethodName) method_3_code (5 : Nat) (Option.some Jvm.ClassFile.FieldType.boolean)).before args0 about1 = true := code_word (m := ⟨1, 2⟩) (meth := k1m2) (c := k1c2) (by decide +kernel) rfl rfl rfl (by decide +kernel)
set_option maxRecDepth 65536 in
theorem w_c14 : (Jvm.Cond.code ({ cls := "com/example/cureline/cureline/io/TextBuffer", name := "append", desc := "(C)Lcom/example/cureline/cureline/io/TextBuffer;" } : Jvm.MethodName) prog_20_method_5_code (2 : Nat) (Option.some (Jvm.ClassFile.FieldType.object "com/example/cureline/cureline/io/TextBuffer"))).before args0 about1 = true := code_word (m := ⟨2, 3⟩) (meth := k2m3) (c := k2c3) (by decide +kernel) rfl rfl rfl (by decide +kernel)
set_option maxRecDepth 65536 in
theorem w_c15 : (Jvm.Cond.code ({ cls := "com/example/cureline/cureline/io/TextBuffer", name := "makeRoom", desc := "(I)V" } : Jvm.MethodName) prog_20_method_12_code (2 : Nat) (Option.none : Option Jvm.ClassFile.FieldType)).before args0 about1 = true := code_word (m := ⟨2, 5⟩) (meth := k2m5) (c := k2c5) (by decide +kernel) rfl rfl rfl (by decide +kernel)
set_option maxRecDepth 65536 in
theorem w_c16 : (Jvm.Cond.code ({ cls := "java/lang/StringUTF16", name := "compress", desc := "([CII)[B" } : Jvm.MethodName) jdk_52_method_16_code (6 : Nat) (Option.some (Jvm.ClassFile.FieldType.array Jvm.ClassFile.FieldType.byte))).before args0 about1 = true := code_word (m := ⟨10, 8⟩) (meth := k10m8) (c := k10c8) (by decide +kernel) rfl rfl rfl (by decide +kernel)
set_option maxRecDepth 65536 in
theorem w_c17 : (Jvm.Cond.code ({ cls := "java/lang/StringUTF16", name := "compress", desc := "([CI[BII)I" } : Jvm.MethodName) jdk_52_method_21_code (7 : Nat) (Option.some Jvm.ClassFile.FieldType.int)).before args0 about1 = true := code_word (m := ⟨10, 9⟩) (meth := k10m9) (c := k10c9) (by decide +kernel) rfl rfl rfl (by decide +kernel)
set_option maxRecDepth 65536 in
theorem w_c18 : (Jvm.Cond.code ({ cls := "java/lang/StringUTF16", name := "coderFromArrayLen", desc := "([BI)B" } : Jvm.MethodName) jdk_52_method_15_code (2 : Nat) (Option.some Jvm.ClassFile.FieldType.byte)).before args0 about1 = true := code_word (m := ⟨10, 7⟩) (meth := k10m7) (c := k10c7) (by decide +kernel) rfl rfl rfl (by decide +kernel)
set_option maxRecDepth 65536 in
theorem w_c19 : (Jvm.Cond.code ({ cls := "java/lang/String", name := "charAt", desc := "(I)C" } : Jvm.MethodName) jdk_42_method_56_code (2 : Nat) (Option.some Jvm.ClassFile.FieldType.char)).before args0 about1 = true := code_word (m := ⟨8, 4⟩) (meth := k8m4) (c := k8c4) (by decide +kernel) rfl rfl rfl (by decide +kernel)
set_option maxRecDepth 65536 in
theorem w_c20 : (Jvm.Cond.code ({ cls := "java/lang/String", name := "isLatin1", desc := "()Z" } : Jvm.MethodName) jdk_42_method_154_code (1 : Nat) (Option.some Jvm.ClassFile.FieldType.boolean)).before args0 about1 = true := code_word (m := ⟨8, 7⟩) (meth := k8m7) (c := k8c7) (by decide +kernel) rfl rfl rfl (by decide +kernel)
set_option maxRecDepth 65536 in
theorem w_c21 : (Jvm.Cond.code ({ cls := "java/lang/StringLatin1", name := "charAt", desc := "([BI)C" } : Jvm.MethodName) jdk_43_method_2_code (2 : Nat) (Option.some Jvm.ClassFile.FieldType.char)).before args0 about1 = true := code_word (m := ⟨11, 1⟩) (meth := k11m1) (c := k11c1) (by decide +kernel) rfl rfl rfl (by decide +kernel)
set_option maxRecDepth 65536 in
theorem w_c22 : (Jvm.Cond.code ({ cls := "java/lang/String", name := "checkIndex", desc := "(II)V" } : Jvm.MethodName) jdk_42_method_155_code (2 : Nat) (Option.none : Option Jvm.ClassFile.FieldType)).before args0 about1 = true := code_word (m := ⟨8, 8⟩) (meth := k8m8) (c := k8c8) (by decide +kernel) rfl rfl rfl (by decide +kernel)
set_option maxRecDepth 65536 in
theorem w_c23 : (Jvm.Cond.code ({ cls := "jdk/internal/util/Preconditions", name := "checkIndex", desc := "(IILjava/util/function/BiFunction;)I" } : Jvm.MethodName) jdk_41_method_11_code (3 : Nat) (Option.some Jvm.ClassFile.FieldType.int)).before args0 about1 = true := code_word (m := ⟨9, 1⟩) (meth := k9m1) (c := k9c1) (by decide +kernel) rfl rfl rfl (by decide +kernel)
set_option maxRecDepth 65536 in
theorem w_c24 : (Jvm.Cond.code ({ cls := "java/lang/StringUTF16", name := "toBytes", desc := "([CII)[B" } : Jvm.MethodName) jdk_52_method_14_code (5 : Nat) (Option.some (Jvm.ClassFile.FieldType.array Jvm.ClassFile.FieldType.byte))).before args0 about1 = true := code_word (m := ⟨10, 6⟩) (meth := k10m6) (c := k10c6) (by decide +kernel) rfl rfl rfl (by decide +kernel)
set_option maxRecDepth 65536 in
theorem w_c25 : (Jvm.Cond.code ({ cls := "java/lang/StringUTF16", name := "newBytesFor", desc := "(I)[B" } : Jvm.MethodName) jdk_52_method_2_code (1 : Nat) (Option.some (Jvm.ClassFile.FieldType.array Jvm.ClassFile.FieldType.byte))).before args0 about1 = true := code_word (m := ⟨10, 1⟩) (meth := k10m1) (c := k10c1) (by decide +kernel) rfl rfl rfl (by decide +kernel)
set_option maxRecDepth 65536 in
theorem w_c26 : (Jvm.Cond.code ({ cls := "java/lang/StringUTF16", name := "newBytesLength", desc := "(I)I" } : Jvm.MethodName) jdk_52_method_3_code (1 : Nat) (Option.some Jvm.ClassFile.FieldType.int)).before args0 about1 = true := code_word (m := ⟨10, 2⟩) (meth := k10m2) (c := k10c2) (by decide +kernel) rfl rfl rfl (by decide +kernel)
set_option maxRecDepth 65536 in
theorem w_c27 : (Jvm.Cond.code ({ cls := "java/lang/StringUTF16", name := "putChar", desc := "([BII)V" } : Jvm.MethodName) jdk_52_method_4_code (3 : Nat) (Option.none : Option Jvm.ClassFile.FieldType)).before args0 about1 = true := code_word (m := ⟨10, 3⟩) (meth := k10m3) (c := k10c3) (by decide +kernel) rfl rfl rfl (by decide +kernel)
set_option maxRecDepth 65536 in
theorem w_c28 : (Jvm.Cond.code ({ cls := "java/lang/StringUTF16", name := "getChar", desc := "([BI)C" } : Jvm.MethodName) jdk_52_method_5_code (2 : Nat) (Option.some Jvm.ClassFile.FieldType.char)).before args0 about1 = true := code_word (m := ⟨10, 4⟩) (meth := k10m4) (c := k10c4) (by decide +kernel) rfl rfl rfl (by decide +kernel)
set_option maxRecDepth 65536 in
theorem w_c29 : (Jvm.Cond.code ({ cls := "java/lang/StringUTF16", name := "charAt", desc := "([BI)C" } : Jvm.MethodName) jdk_52_method_83_code (2 : Nat) (Option.some Jvm.ClassFile.FieldType.char)).before args0 about1 = true := code_word (m := ⟨10, 10⟩) (meth := k10m10) (c := k10c10) (by decide +kernel) rfl rfl rfl (by decide +kernel)
set_option maxRecDepth 65536 in
theorem w_c30 : (Jvm.Cond.code ({ cls := "java/lang/StringUTF16", name := "checkIndex", desc := "(I[B)V" } : Jvm.MethodName) jdk_52_method_91_code (2 : Nat) (Option.none : Option Jvm.ClassFile.FieldType)).before args0 about1 = true := code_word (m := ⟨10, 11⟩) (meth := k10m11) (c := k10c11) (by decide +kernel) rfl rfl rfl (by decide +kernel)
set_option maxRecDepth 65536 in
theorem w_c31 : (Jvm.Cond.code ({ cls := "java/lang/StringUTF16", name := "length", desc := "([B)I" } : Jvm.MethodName) jdk_52_method_6_code (1 : Nat) (Option.some Jvm.ClassFile.FieldType.int)).before args0 about1 = true := code_word (m := ⟨10, 5⟩) (meth := k10m5) (c := k10c5) (by decide +kernel) rfl rfl rfl (by decide +kernel)
set_option maxRecDepth 65536 in
theorem w_c32 : (Jvm.Cond.code ({ cls := "java/lang/Math", name := "max", desc := "(II)I" } : Jvm.MethodName) jdk_29_method_65_code (2 : Nat) (Option.some Jvm.ClassFile.FieldType.int)).before args0 about1 = true := code_word (m := ⟨12, 1⟩) (meth := k12m1) (c := k12c1) (by decide +kernel) rfl rfl rfl (by decide +kernel)
set_option maxRecDepth 65536 in
theorem w_c33 : (Jvm.Cond.code ({ cls := "java/util/Arrays", name := "copyOf", desc := "([CI)[C" } : Jvm.MethodName) jdk_65_method_125_code (3 : Nat) (Option.some (Jvm.ClassFile.FieldType.array Jvm.ClassFile.FieldType.char))).before args0 about1 = true := code_word (m := ⟨13, 1⟩) (meth := k13m1) (c := k13c1) (by decide +kernel) rfl rfl rfl (by decide +kernel)
set_option maxRecDepth 65536 in
theorem w_c34 : (Jvm.Cond.code ({ cls := "java/lang/Math", name := "min", desc := "(II)I" } : Jvm.MethodName) jdk_29_method_69_code (2 : Nat) (Option.some Jvm.ClassFile.FieldType.int)).before args0 about1 = true := code_word (m := ⟨12, 2⟩) (meth := k12m2) (c := k12c2) (by decide +kernel) rfl rfl rfl (by decide +kernel)
def codes1 : List Jvm.Cond := [Jvm.Cond.code x code maxLocals ret, Jvm.Cond.code ({ cls := "com/example/cureline/cureline/io/TextBuffer", name := "<init>", desc := "(I)V" } : Jvm.MethodName) prog_20_method_1_code (2 : Nat) (Option.none : Option Jvm.ClassFile.FieldType), Jvm.Cond.code ({ cls := "java/lang/Object", name := "<init>", desc := "()V" } : Jvm.MethodName) object_method_1_code (1 : Nat) (Option.none : Option Jvm.ClassFile.FieldType), Jvm.Cond.code ({ cls := "com/example/cureline/cureline/io/TextBuffer", name := "setLength", desc := "(I)V" } : Jvm.MethodName) prog_20_method_4_code (2 : Nat) (Option.none : Option Jvm.ClassFile.FieldType), Jvm.Cond.code ({ cls := "com/example/cureline/cureline/io/TextBuffer", name := "substring", desc := "(I)Ljava/lang/String;" } : Jvm.MethodName) prog_20_method_9_code (2 : Nat) (Option.some (Jvm.ClassFile.FieldType.object "java/lang/String")), Jvm.Cond.code ({ cls := "java/lang/String", name := "<init>", desc := "([CII)V" } : Jvm.MethodName) jdk_42_method_4_code (4 : Nat) (Option.none : Option Jvm.ClassFile.FieldType), Jvm.Cond.code ({ cls := "java/lang/String", name := "rangeCheck", desc := "([CII)Ljava/lang/Void;" } : Jvm.MethodName) jdk_42_method_5_code (3 : Nat) (Option.some (Jvm.ClassFile.FieldType.object "java/lang/Void")), Jvm.Cond.code ({ cls := "java/lang/String", name := "checkBoundsOffCount", desc := "(III)I" } : Jvm.MethodName) jdk_42_method_157_code (3 : Nat) (Option.some Jvm.ClassFile.FieldType.int), Jvm.Cond.code ({ cls := "jdk/internal/util/Preconditions", name := "checkFromIndexSize", desc := "(IIILjava/util/function/BiFunction;)I" } : Jvm.MethodName) jdk_41_method_13_code (4 : Nat) (Option.some Jvm.ClassFile.FieldType.int), Jvm.Cond.code ({ cls := "java/lang/String", name := "<init>", desc := "([CIILjava/lang/Void;)V" } : Jvm.MethodName) jdk_42_method_149_code (6 : Nat) (Option.none : Option Jvm.ClassFile.FieldType), Jvm.Cond.code ({ cls := "java/lang/String", name := "length", desc := "()I" } : Jvm.MethodName) jdk_42_method_54_code (1 : Nat) (Option.some Jvm.ClassFile.FieldType.int), Jvm.Cond.code ({ cls := "java/lang/String", name := "coder", desc := "()B" } : Jvm.MethodName) jdk_42_method_152_code (1 : Nat) (Option.some Jvm.ClassFile.FieldType.byte), Jvm.Cond.code ({ cls := "com/example/cureline/cureline/io/TextBuffer", name := "length", desc := "()I" } : Jvm.MethodName) prog_20_method_2_code (1 : Nat) (Option.some Jvm.ClassFile.FieldType.int), Jvm.Cond.code ({ cls := "com/example/cureline/cureline/io/TextBufferSubstringPinLaw", name := "at", desc := "(Ljava/lang/String;I[CII)Z" } : Jvm.MethodName) method_3_code (5 : Nat) (Option.some Jvm.ClassFile.FieldType.boolean), Jvm.Cond.code ({ cls := "com/example/cureline/cureline/io/TextBuffer", name := "append", desc := "(C)Lcom/example/cureline/cureline/io/TextBuffer;" } : Jvm.MethodName) prog_20_method_5_code (2 : Nat) (Option.some (Jvm.ClassFile.FieldType.object "com/example/cureline/cureline/io/TextBuffer")), Jvm.Cond.code ({ cls := "com/example/cureline/cureline/io/TextBuffer", name := "makeRoom", desc := "(I)V" } : Jvm.MethodName) prog_20_method_12_code (2 : Nat) (Option.none : Option Jvm.ClassFile.FieldType), Jvm.Cond.code ({ cls := "java/lang/StringUTF16", name := "compress", desc := "([CII)[B" } : Jvm.MethodName) jdk_52_method_16_code (6 : Nat) (Option.some (Jvm.ClassFile.FieldType.array Jvm.ClassFile.FieldType.byte)), Jvm.Cond.code ({ cls := "java/lang/StringUTF16", name := "compress", desc := "([CI[BII)I" } : Jvm.MethodName) jdk_52_method_21_code (7 : Nat) (Option.some Jvm.ClassFile.FieldType.int), Jvm.Cond.code ({ cls := "java/lang/StringUTF16", name := "coderFromArrayLen", desc := "([BI)B" } : Jvm.MethodName) jdk_52_method_15_code (2 : Nat) (Option.some Jvm.ClassFile.FieldType.byte), Jvm.Cond.code ({ cls := "java/lang/String", name := "charAt", desc := "(I)C" } : Jvm.MethodName) jdk_42_method_56_code (2 : Nat) (Option.some Jvm.ClassFile.FieldType.char), Jvm.Cond.code ({ cls := "java/lang/String", name := "isLatin1", desc := "()Z" } : Jvm.MethodName) jdk_42_method_154_code (1 : Nat) (Option.some Jvm.ClassFile.FieldType.boolean), Jvm.Cond.code ({ cls := "java/lang/StringLatin1", name := "charAt", desc := "([BI)C" } : Jvm.MethodName) jdk_43_method_2_code (2 : Nat) (Option.some Jvm.ClassFile.FieldType.char), Jvm.Cond.code ({ cls := "java/lang/String", name := "checkIndex", desc := "(II)V" } : Jvm.MethodName) jdk_42_method_155_code (2 : Nat) (Option.none : Option Jvm.ClassFile.FieldType), Jvm.Cond.code ({ cls := "jdk/internal/util/Preconditions", name := "checkIndex", desc := "(IILjava/util/function/BiFunction;)I" } : Jvm.MethodName) jdk_41_method_11_code (3 : Nat) (Option.some Jvm.ClassFile.FieldType.int), Jvm.Cond.code ({ cls := "java/lang/StringUTF16", name := "toBytes", desc := "([CII)[B" } : Jvm.MethodName) jdk_52_method_14_code (5 : Nat) (Option.some (Jvm.ClassFile.FieldType.array Jvm.ClassFile.FieldType.byte)), Jvm.Cond.code ({ cls := "java/lang/StringUTF16", name := "newBytesFor", desc := "(I)[B" } : Jvm.MethodName) jdk_52_method_2_code (1 : Nat) (Option.some (Jvm.ClassFile.FieldType.array Jvm.ClassFile.FieldType.byte)), Jvm.Cond.code ({ cls := "java/lang/StringUTF16", name := "newBytesLength", desc := "(I)I" } : Jvm.MethodName) jdk_52_method_3_code (1 : Nat) (Option.some Jvm.ClassFile.FieldType.int), Jvm.Cond.code ({ cls := "java/lang/StringUTF16", name := "putChar", desc := "([BII)V" } : Jvm.MethodName) jdk_52_method_4_code (3 : Nat) (Option.none : Option Jvm.ClassFile.FieldType), Jvm.Cond.code ({ cls := "java/lang/StringUTF16", name := "getChar", desc := "([BI)C" } : Jvm.MethodName) jdk_52_method_5_code (2 : Nat) (Option.some Jvm.ClassFile.FieldType.char), Jvm.Cond.code ({ cls := "java/lang/StringUTF16", name := "charAt", desc := "([BI)C" } : Jvm.MethodName) jdk_52_method_83_code (2 : Nat) (Option.some Jvm.ClassFile.FieldType.char), Jvm.Cond.code ({ cls := "java/lang/StringUTF16", name := "checkIndex", desc := "(I[B)V" } : Jvm.MethodName) jdk_52_method_91_code (2 : Nat) (Option.none : Option Jvm.ClassFile.FieldType), Jvm.Cond.code ({ cls := "java/lang/StringUTF16", name := "length", desc := "([B)I" } : Jvm.MethodName) jdk_52_method_6_code (1 : Nat) (Option.some Jvm.ClassFile.FieldType.int), Jvm.Cond.code ({ cls := "java/lang/Math", name := "max", desc := "(II)I" } : Jvm.MethodName) jdk_29_method_65_code (2 : Nat) (Option.some Jvm.ClassFile.FieldType.int), Jvm.Cond.code ({ cls := "java/util/Arrays", name := "copyOf", desc := "([CI)[C" } : Jvm.MethodName) jdk_65_method_125_code (3 : Nat) (Option.some (Jvm.ClassFile.FieldType.array Jvm.ClassFile.FieldType.char)), Jvm.Cond.code ({ cls := "java/lang/Math", name := "min", desc := "(II)I" } : Jvm.MethodName) jdk_29_method_69_code (2 : Nat) (Option.some Jvm.ClassFile.FieldType.int)]
set_option maxRecDepth 65536 in
theorem codes_eq : words1.filter isCode = codes1 := rfl
theorem w_codes : ∀ c ∈ words1.filter isCode, c.before args0 about1 = true := by
  rw [codes_eq]
  intro c hc
  simp only [codes1, List.mem_cons, List.not_mem_nil, or_false] at hc
  rcases hc with rfl | rfl | rfl | rfl | rfl | rfl | rfl | rfl | rfl | rfl | rfl | rfl | rfl | rfl | rfl | rfl | rfl | rfl | rfl | rfl | rfl | rfl | rfl | rfl | rfl | rfl | rfl | rfl | rfl | rfl | rfl | rfl | rfl | rfl | rfl
  · exact w_c0
  · exact w_c1
  · exact w_c2
  · exact w_c3
  · exact w_c4
  · exact w_c5
  · exact w_c6
  · exact w_c7
  · exact w_c8
  · exact w_c9
  · exact w_c10
  · exact w_c11
  · exact w_c12
  · exact w_c13
  · exact w_c14
  · exact w_c15
  · exact w_c16
  · exact w_c17
  · exact w_c18
  · exact w_c19
  · exact w_c20
  · exact w_c21
  · exact w_c22
  · exact w_c23
  · exact w_c24
  · exact w_c25
  · exact w_c26
  · exact w_c27
  · exact w_c28
  · exact w_c29
  · exact w_c30
  · exact w_c31
  · exact w_c32
  · exact w_c33
  · exact w_c34
set_option maxRecDepth 65536 in
theorem w_t1 : (words1.take 24).all (fun c => isCode c || c.before args0 about1) = true := by decide +kernel
set_option maxRecDepth 65536 in
theorem w_t2 : ((words1.drop 24).take 24).all (fun c => isCode c || c.before args0 about1) = true := by decide +kernel
set_option maxRecDepth 65536 in
theorem w_t3 : (((words1.drop 24).drop 24).take 24).all (fun c => isCode c || c.before args0 about1) = true := by decide +kernel
set_option maxRecDepth 65536 in
theorem w_t4 : ((((words1.drop 24).drop 24).drop 24).take 24).all (fun c => isCode c || c.before args0 about1) = true := by decide +kernel
set_option maxRecDepth 65536 in
theorem w_t5 : (((((words1.drop 24).drop 24).drop 24).drop 24).take 24).all (fun c => isCode c || c.before args0 about1) = true := by decide +kernel
set_option maxRecDepth 65536 in
theorem w_t6 : ((((((words1.drop 24).drop 24).drop 24).drop 24).drop 24).take 24).all (fun c => isCode c || c.before args0 about1) = true := by decide +kernel
set_option maxRecDepth 65536 in
theorem w_t7 : ((((((words1.drop 24).drop 24).drop 24).drop 24).drop 24).drop 24).all (fun c => isCode c || c.before args0 about1) = true := by decide +kernel
theorem w_tables : (allAtoms (Jvm.Cond.code x code maxLocals ret :: tables_1)).before args0 about1 = true := by
  rw [allAtoms_all]
  show words1.all (fun c => c.before args0 about1) = true
  refine all_split ?_ w_codes
  rw [← List.take_append_drop 24 words1, List.all_append, w_t1, ← List.take_append_drop 24 (words1.drop 24), List.all_append, w_t2, ← List.take_append_drop 24 ((words1.drop 24).drop 24), List.all_append, w_t3, ← List.take_append_drop 24 (((words1.drop 24).drop 24).drop 24), List.all_append, w_t4, ← List.take_append_drop 24 ((((words1.drop 24).drop 24).drop 24).drop 24), List.all_append, w_t5, ← List.take_append_drop 24 (((((words1.drop 24).drop 24).drop 24).drop 24).drop 24), List.all_append, w_t6, w_t7]
  rfl
set_option maxRecDepth 65536 in
theorem w_rest : rest_1_c.before args0 about1 = true := by decide +kernel
set_option maxRecDepth 65536 in
theorem w_case : (Jvm.Cond.and given_1 narrow_1).before args0 about1 = true := by decide +kernel
set_option maxRecDepth 65536 in
theorem w_consts : constsHeld consts_1 about1 := Jvm.Lit.constsHeldB_iff.mp (by decide +kernel)
theorem w_applies : (headSpec (Jvm.Cond.code x code maxLocals ret :: tables_1) room_1).applies x e0.platform about1 = true :=
  (Spec.applies_iff w_frames).mpr ⟨w_running, w_runnable, w_alone, w_named, w_hears, w_ripe, w_room, w_tables⟩
theorem atStart : AtStart classFile x code maxLocals ret World_1 tables_1 room_1 Calls_1 rest_1 Pre_1 launch0 p0 e0 about1 theMethod args0 below0 :=
  ⟨lists_1, trivial, launch0.admits_env _ _ _, launch0.least_env, fairChoices_fair.cas, fairChoices_fair.clock, w_frames, w_args, w_heap, w_applies, ⟨w_consts, trivial⟩, w_rest, w_case⟩
end start1
theorem witness_1 : WitnessClaimed_1 := ⟨start1.p0, start1.e0, start1.about1, start1.theMethod, start1.args0, start1.below0, start1.atStart⟩
end Jvm.Pilot.@@N@@
