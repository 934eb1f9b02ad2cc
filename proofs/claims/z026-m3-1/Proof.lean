import JvmDerived
import JvmDerived.Pilot.@@N@@Statement
import JvmDerived.Pilot.@@N@@Code
set_option linter.unusedVariables false
set_option linter.unusedSimpArgs false
namespace Jvm.RoadKit
open Sem ClassFile Op Lib Jvm.Stand Jvm.Free Jvm.LawKit
section New
variable {p : Program} {l : Launch} {e : Env} {R : Room} {s : State} {m : MethodId} {args : Array Value} {below : List Frame} {meth : Method} {c : Code} {T : State} {locs : List Loc} {cells slots : Nat}
theorem retI (X : Stand p l e R s m args below meth c T locs cells slots) (hx : p.tables.exec = Jvm.exec) {pc : Nat} {Ls : Array Slot} {z : Int32} {rest : List Value} (hret : meth.sig.returnType = some .int) (hd : decode c.code pc = .ok (.ireturn, 1)) {fs : List Frame}
    (hl : ∀ (f : JFrame) (acts : List Action), f.method = m → f.locked = none → f.entered = [] → (doReturn e (T.setTop f) acts (some (.int z))).1 = T.setFrames fs) : Steps p.tables e below (T.setTop (mkF m pc Ls (.int z :: rest))) (T.setFrames fs) := by
  have hm' : T.vm.method? m = some meth := X.method'
  have hn : narrow .int (.int z) = .int z := rfl
  show Steps p.tables e below (T.setTop { method := m, pc := pc, locals := Ls, stack := _ :: rest, locked := none }) _
  jvm_step X.here [X.here.top, hx, hd, hm', hret, hn]
  first | (intro acts; rw [hl _ acts rfl rfl rfl]) | rw [hl _ _ rfl rfl rfl]
  exact Steps.refl _
end New
end Jvm.RoadKit
namespace Jvm.Pilot.@@N@@
open Jvm Jvm.ClassFile Sem Op Lib Jvm.Free Jvm.Stand Jvm.LawKit Jvm.RoadKit Bundle Jvm.Pilot.@@N@@.Jvm.D
def own_G (tb : Tables) (e : Env) (below : List Frame) (P : State → Outcome → Prop) (st : State) : Prop := ∃ t o, Steps tb e below st t ∧ P t o
theorem own_go {tb : Tables} {e : Env} {below : List Frame} {P : State → Outcome → Prop} {st st' : State} (k : ∀ target, Steps tb e below st' target → Steps tb e below st target) (h : own_G tb e below P st') : own_G tb e below P st := by
  obtain ⟨t, o, h1, h2⟩ := h; exact ⟨t, o, k t h1, h2⟩
theorem own_tr {tb : Tables} {e : Env} {below : List Frame} {P : State → Outcome → Prop} {st st' : State} (k : Steps tb e below st st') (h : own_G tb e below P st') : own_G tb e below P st := by
  obtain ⟨t, o, h1, h2⟩ := h; exact ⟨t, o, k.trans h1, h2⟩
def own_E (below : List Frame) (s : State) (k n : Nat) (Q : Option Value → Heap → List Loc → Prop) (t : State) (o : Outcome) : Prop := t.status = .running ∧ Ended t below o ∧ ∃ v L, o = .returned v ∧ Q v t.heap L ∧ FrameEnd s o t L k n
section OwnRet
variable {p : Program} {l : Launch} {e : Env} {R : Room} {s : State} {m : MethodId} {args : Array Value} {below : List Frame} {meth : Method} {c : Code} {T : State} {locs : List Loc} {cells slots : Nat}
theorem own_retI (X : Stand p l e R s m args below meth c T locs cells slots) (hx : p.tables.exec = Jvm.exec) {pc : Nat} {Ls : Array Slot} {z : Int32} {rest : List Value} (hret : meth.sig.returnType = some .int) (hlk : meth.locks = false) (hd : decode c.code pc = .ok (.ireturn, 1)) {Q : Option Value → Heap → List Loc → Prop} {k n : Nat} (hk : cells ≤ k) (hn : slots ≤ n) {h : Heap} (eT : T.heap = h) (hQ : Q (some (.int z)) h locs) : own_G p.tables e below (own_E below s k n Q) (T.setTop (mkF m pc Ls (.int z :: rest))) := by
  obtain ⟨fs, hr, hrun, hended, hW, hsame⟩ := X.leave (v := some (.int z)) (fun h => by rw [hret] at h; cases h) hlk
  subst eT
  exact ⟨_, _, retI X hx hret hd hr, hrun, hended, _, _, rfl, hQ, ⟨_, rfl⟩, hW, hsame.mono hk hn⟩
theorem own_retN (X : Stand p l e R s m args below meth c T locs cells slots) (hx : p.tables.exec = Jvm.exec) {pc : Nat} {Ls : Array Slot} {z : Int32} {t : FieldType} {rest : List Value} (hret : meth.sig.returnType = some t) (ht : t = .boolean ∨ t = .byte ∨ t = .char ∨ t = .short) (hlk : meth.locks = false) (hd : decode c.code pc = .ok (.ireturn, 1)) {Q : Option Value → Heap → List Loc → Prop} {k n : Nat} (hk : cells ≤ k) (hn : slots ≤ n) {h : Heap} (eT : T.heap = h) (hQ : Q (some (.int (nar t z))) h locs) : own_G p.tables e below (own_E below s k n Q) (T.setTop (mkF m pc Ls (.int z :: rest))) := by
  obtain ⟨fs, hr, hrun, hended, hW, hsame⟩ := X.leave (v := some (.int (nar t z))) (fun h => by rw [hret] at h; cases h) hlk
  subst eT
  exact ⟨_, _, retN X hx hret ht hd hr, hrun, hended, _, _, rfl, hQ, ⟨_, rfl⟩, hW, hsame.mono hk hn⟩
theorem own_retV (X : Stand p l e R s m args below meth c T locs cells slots) (hx : p.tables.exec = Jvm.exec) {pc : Nat} {Ls : Array Slot} (hret : meth.sig.returnType = none) (hlk : meth.locks = false) (hd : decode c.code pc = .ok (.return_, 1)) {Q : Option Value → Heap → List Loc → Prop} {k n : Nat} (hk : cells ≤ k) (hn : slots ≤ n) {h : Heap} (eT : T.heap = h) (hQ : Q none h locs) : own_G p.tables e below (own_E below s k n Q) (T.setTop (mkF m pc Ls [])) := by
  obtain ⟨fs, hr, hrun, hended, hW, hsame⟩ := X.leave (v := none) (fun _ => rfl) hlk
  subst eT
  exact ⟨_, _, X.returnOut hx hret hd hr, hrun, hended, _, _, rfl, hQ, ⟨_, rfl⟩, hW, hsame.mono hk hn⟩
theorem own_retJ (X : Stand p l e R s m args below meth c T locs cells slots) (hx : p.tables.exec = Jvm.exec) {pc : Nat} {Ls : Array Slot} {z : Int64} {rest : List Value} (hret : meth.sig.returnType = some .long) (hlk : meth.locks = false) (hd : decode c.code pc = .ok (.lreturn, 1)) {Q : Option Value → Heap → List Loc → Prop} {k n : Nat} (hk : cells ≤ k) (hn : slots ≤ n) {h : Heap} (eT : T.heap = h) (hQ : Q (some (.long z)) h locs) : own_G p.tables e below (own_E below s k n Q) (T.setTop (mkF m pc Ls (.long z :: rest))) := by
  obtain ⟨fs, hr, hrun, hended, hW, hsame⟩ := X.leave (v := some (.long z)) (fun h => by rw [hret] at h; cases h) hlk
  subst eT
  refine ⟨_, _, ?_, hrun, hended, _, _, rfl, hQ, ⟨_, rfl⟩, hW, hsame.mono hk hn⟩
  jvm_step X.here [X.here.top, hx, hd, X.method', hret, narrow]
  first | (intro acts; rw [hr _ acts rfl rfl rfl]) | rw [hr _ _ rfl rfl rfl]
  exact Steps.refl _
theorem own_retR (X : Stand p l e R s m args below meth c T locs cells slots) (hx : p.tables.exec = Jvm.exec) {pc : Nat} {Ls : Array Slot} {a : Addr} {ty : FieldType} {rest : List Value} (hret : meth.sig.returnType = some ty) (hty : ty.isReference = true) (hlk : meth.locks = false) (hd : decode c.code pc = .ok (.areturn, 1)) {Q : Option Value → Heap → List Loc → Prop} {k n : Nat} (hk : cells ≤ k) (hn : slots ≤ n) {h : Heap} (eT : T.heap = h) (hQ : Q (some (.ref a)) h locs) : own_G p.tables e below (own_E below s k n Q) (T.setTop (mkF m pc Ls (.ref a :: rest))) := by
  obtain ⟨fs, hr, hrun, hended, hW, hsame⟩ := X.leave (v := some (.ref a)) (fun h => by rw [hret] at h; cases h) hlk
  subst eT
  refine ⟨_, _, ?_, hrun, hended, _, _, rfl, hQ, ⟨_, rfl⟩, hW, hsame.mono hk hn⟩
  jvm_step X.here [X.here.top, hx, hd, X.method', hret, Value.isRef, hty]
  first | (intro acts; rw [hr _ acts rfl rfl rfl]) | rw [hr _ _ rfl rfl rfl]
  exact Steps.refl _
end OwnRet
theorem own_selfsel {s : State} {args : Array Value} {y y' : MethodName} (hs : (Cond.selects y.cls y' y').before args s = true) (hyc : y'.cls = y.cls) (hpriv : s.PrivateAt y) (hinst : (Cond.instanceMethod y).before args s = true) (hy : y.cls ≠ "java/lang/invoke/MethodHandle" ∧ y.cls ≠ "java/lang/invoke/VarHandle") : (Cond.selects y.cls y y).before args s = true := by
  obtain ⟨c, r, mm, h1, -, h3, -, mk, h5, h6⟩ := Cond.selects_spec hs
  have h7 := findClass_of_methodNamed h3
  rw [hyc] at h7
  exact selects_self_of_private h7 h5 h6 hpriv hinst hy
theorem own_irem (x y : Int32) : x - (x / y) * y = x % y := by
  have h1 := rng32 (x % y)
  apply Int32.toInt_inj.mp
  rw [Int32.toInt_mod] at h1 ⊢
  rw [Int32.toInt_sub, Int32.toInt_mul, Int32.toInt_div, Int.bmod_mul_bmod, Int.sub_bmod_bmod, show x.toInt - x.toInt.tdiv y.toInt * y.toInt = x.toInt.tmod y.toInt from by rw [Int.tmod_def, Int.mul_comm]]
  exact Int.bmod_eq_of_le_mul_two (by omega) (by omega)
def own_A (Z : State) (h : Heap) (a : Addr) (ty : FieldType) (N : Nat) (f : Nat → Value) : Prop := ∃ c : Cell, Arr Z h a c ty ∧ c.slots.size = N ∧ ∀ j, j < N → c.slots[j]? = some (f j)
def own_upd (f : Nat → Value) (i : Nat) (v : Value) : Nat → Value := fun j => if j = i then v else f j
theorem own_upd_same (f : Nat → Value) (i : Nat) (v : Value) : own_upd f i v i = v := if_pos rfl
theorem own_upd_ne (f : Nat → Value) {i j : Nat} (v : Value) (h : j ≠ i) : own_upd f i v j = f j := if_neg h
theorem own_A.lt {Z : State} {h : Heap} {a : Addr} {ty : FieldType} {N : Nat} {f : Nat → Value} (F : own_A Z h a ty N f) : a < h.size := by obtain ⟨c, A, -⟩ := F; exact A.lt
theorem own_A.ext {Z : State} {h h' : Heap} {a : Addr} {ty : FieldType} {N : Nat} {f : Nat → Value} (F : own_A Z h a ty N f) (E : Ext h h') : own_A Z h' a ty N f := by obtain ⟨c, A, r⟩ := F; exact ⟨c, A.ext E, r⟩
theorem own_A.other {Z : State} {h h' : Heap} {a b : Addr} {sl : Nat} {v : Value} {ty : FieldType} {N : Nat} {f : Nat → Value} (F : own_A Z h b ty N f) (W : Wr h h' a sl v) (q : b ≠ a) : own_A Z h' b ty N f := by obtain ⟨c, A, r⟩ := F; exact ⟨c, A.other W q, r⟩
theorem own_A.keep {Z : State} {h h' : Heap} {a : Addr} {ws : List Addr} {ty : FieldType} {N : Nat} {f : Nat → Value} (F : own_A Z h a ty N f) (K : Keep h h' ws) (q : a ∉ ws) : own_A Z h' a ty N f := by obtain ⟨c, A, r⟩ := F; exact ⟨c, ⟨K.2.1 a c A.1 q, A.2⟩, r⟩
theorem own_A.new {Z : State} {h : Heap} {a : Addr} {k : ClassId} {ty : FieldType} {z : Int32} {N : Nat} (A : Arr Z h a (newA k ty z) ty) (q : z.toNatClampNeg = N) : own_A Z h a ty N (fun _ => defaultValue ty) :=
  ⟨_, A, (sz_new _ _ _).trans q, fun j hj => by rw [← q] at hj; simp [newA, hj]⟩
theorem own_A.set {Z : State} {h h' : Heap} {a : Addr} {ty : FieldType} {N : Nat} {f : Nat → Value} (F : own_A Z h a ty N f) {i : Nat} {v : Value} (W : Wr h h' a i v) : own_A Z h' a ty N (own_upd f i v) := by
  obtain ⟨c, A, S, H⟩ := F
  refine ⟨_, A.same W, by rw [sz_set]; exact S, fun j hj => ?_⟩
  by_cases u : j = i
  · subst u
    rw [own_upd_same]
    simp only [Cell.setSlot]
    exact Array.getElem?_setIfInBounds_self_of_lt (by rw [S]; exact hj)
  · rw [own_upd_ne _ _ u]
    simp only [Cell.setSlot]
    rw [Array.getElem?_setIfInBounds_ne (fun q => u q.symm)]
    exact H j hj
theorem own_A.congr {Z : State} {h : Heap} {a : Addr} {ty : FieldType} {N : Nat} {f g : Nat → Value} (F : own_A Z h a ty N f) (q : ∀ j, j < N → f j = g j) : own_A Z h a ty N g := by
  obtain ⟨c, A, S, H⟩ := F; exact ⟨c, A, S, fun j hj => by rw [← q j hj]; exact H j hj⟩
theorem own_inb {c : Cell} {N : Nat} {j : Int32} (S : c.slots.size = N) (h0 : 0 ≤ j.toInt) (h1 : j.toInt < (N : Int)) : ¬ (j < 0 ∨ c.slots.size ≤ j.toNatClampNeg) := by
  rw [S]
  have e0 : (0 : Int32).toInt = 0 := rfl
  simp only [Int32.lt_iff_toInt_lt, Int32.toNatClampNeg, e0]; omega
theorem own_stI {p : Program} {l : Launch} {e : Env} {R : Room} {s : State} {m : MethodId} {args : Array Value} {below : List Frame} {meth : Method} {c : Code} {T : State} {locs : List Loc} {cells slots : Nat} {Z : State} {h : Heap}
    (X : Stand p l e R s m args below meth c T locs cells slots) (hx : p.tables.exec = Jvm.exec) (hZ : Z.Warmed39 s.vm) (eT : T.heap = h) {a : Addr} {N : Nat} {f : Nat → Value} (A : own_A Z h a .int N f) {j : Int32} {x : Int32} (h0 : 0 ≤ j.toInt) (h1 : j.toInt < (N : Int)) {g : JFrame} (hg : g.method = m) {rest : List Value} (hs : g.stack = .int x :: .int j :: .ref a :: rest) (hd : decode c.code g.pc = .ok (.iastore, 1)) :
    ∃ T' h', Stand p l e R s m args below meth c T' (locs ++ [⟨a, j.toNatClampNeg⟩]) cells slots ∧ T'.heap = h' ∧ Wr h h' a j.toNatClampNeg (.int x) ∧ own_A Z h' a .int N (own_upd f j.toNatClampNeg (.int x)) ∧ ∀ target, Steps p.tables e below (T'.setTop { g with pc := g.pc + 1, stack := rest }) target → Steps p.tables e below (T.setTop g) target := by
  obtain ⟨cl, Ar, S, H⟩ := A
  obtain ⟨T', h', X', e', W, st⟩ := stI X hx hZ eT Ar (own_inb S h0 h1) hg hs hd
  exact ⟨T', h', X', e', W, own_A.set ⟨cl, Ar, S, H⟩ W, st⟩
theorem own_ldI {p : Program} {l : Launch} {e : Env} {R : Room} {s : State} {m : MethodId} {args : Array Value} {below : List Frame} {meth : Method} {c : Code} {T : State} {locs : List Loc} {cells slots : Nat} {Z : State} {h : Heap}
    (X : Stand p l e R s m args below meth c T locs cells slots) (hx : p.tables.exec = Jvm.exec) (hZ : Z.Warmed39 s.vm) (eT : T.heap = h) {a : Addr} {N : Nat} {f : Nat → Value} (A : own_A Z h a .int N f) {j : Int32} {v : Value} (h0 : 0 ≤ j.toInt) (h1 : j.toInt < (N : Int)) (hv : f j.toNatClampNeg = v) {g : JFrame} (hg : g.method = m) {rest : List Value} (hs : g.stack = .int j :: .ref a :: rest) (hd : decode c.code g.pc = .ok (.iaload, 1)) :
    ∀ target, Steps p.tables e below (T.setTop { g with pc := g.pc + 1, stack := v :: rest }) target → Steps p.tables e below (T.setTop g) target := by
  obtain ⟨cl, Ar, S, H⟩ := A
  have hN : j.toNatClampNeg < N := by simp only [Int32.toNatClampNeg]; omega
  exact X.iaload hx (by rw [eT]; exact Ar.1) (State.isArrayOf_alike hZ.alike Ar.2.1) Ar.2.2 (own_inb S h0 h1) (hv ▸ H _ hN) hg hs hd
theorem own_stJ {p : Program} {l : Launch} {e : Env} {R : Room} {s : State} {m : MethodId} {args : Array Value} {below : List Frame} {meth : Method} {c : Code} {T : State} {locs : List Loc} {cells slots : Nat} {Z : State} {h : Heap}
    (X : Stand p l e R s m args below meth c T locs cells slots) (hx : p.tables.exec = Jvm.exec) (hZ : Z.Warmed39 s.vm) (eT : T.heap = h) {a : Addr} {N : Nat} {f : Nat → Value} (A : own_A Z h a .long N f) {j : Int32} {x : Int64} (h0 : 0 ≤ j.toInt) (h1 : j.toInt < (N : Int)) {g : JFrame} (hg : g.method = m) {rest : List Value} (hs : g.stack = .long x :: .int j :: .ref a :: rest) (hd : decode c.code g.pc = .ok (.lastore, 1)) :
    ∃ T' h', Stand p l e R s m args below meth c T' (locs ++ [⟨a, j.toNatClampNeg⟩]) cells slots ∧ T'.heap = h' ∧ Wr h h' a j.toNatClampNeg (.long x) ∧ own_A Z h' a .long N (own_upd f j.toNatClampNeg (.long x)) ∧ ∀ target, Steps p.tables e below (T'.setTop { g with pc := g.pc + 1, stack := rest }) target → Steps p.tables e below (T.setTop g) target := by
  obtain ⟨cl, Ar, S, H⟩ := A
  obtain ⟨T', h', X', e', W, st⟩ := stJ X hx hZ eT Ar (own_inb S h0 h1) hg hs hd
  exact ⟨T', h', X', e', W, own_A.set ⟨cl, Ar, S, H⟩ W, st⟩
theorem own_ldJ {p : Program} {l : Launch} {e : Env} {R : Room} {s : State} {m : MethodId} {args : Array Value} {below : List Frame} {meth : Method} {c : Code} {T : State} {locs : List Loc} {cells slots : Nat} {Z : State} {h : Heap}
    (X : Stand p l e R s m args below meth c T locs cells slots) (hx : p.tables.exec = Jvm.exec) (hZ : Z.Warmed39 s.vm) (eT : T.heap = h) {a : Addr} {N : Nat} {f : Nat → Value} (A : own_A Z h a .long N f) {j : Int32} {v : Value} (h0 : 0 ≤ j.toInt) (h1 : j.toInt < (N : Int)) (hv : f j.toNatClampNeg = v) {g : JFrame} (hg : g.method = m) {rest : List Value} (hs : g.stack = .int j :: .ref a :: rest) (hd : decode c.code g.pc = .ok (.laload, 1)) :
    ∀ target, Steps p.tables e below (T.setTop { g with pc := g.pc + 1, stack := v :: rest }) target → Steps p.tables e below (T.setTop g) target := by
  obtain ⟨cl, Ar, S, H⟩ := A
  have hN : j.toNatClampNeg < N := by simp only [Int32.toNatClampNeg]; omega
  exact X.laload hx (by rw [eT]; exact Ar.1) (State.isArrayOf_alike hZ.alike Ar.2.1) Ar.2.2 (own_inb S h0 h1) (hv ▸ H _ hN) hg hs hd
theorem own_ldB {p : Program} {l : Launch} {e : Env} {R : Room} {s : State} {m : MethodId} {args : Array Value} {below : List Frame} {meth : Method} {c : Code} {T : State} {locs : List Loc} {cells slots : Nat} {Z : State} {h : Heap}
    (X : Stand p l e R s m args below meth c T locs cells slots) (hx : p.tables.exec = Jvm.exec) (hZ : Z.Warmed39 s.vm) (eT : T.heap = h) {a : Addr} {N : Nat} {f : Nat → Value} (A : own_A Z h a .byte N f) {j : Int32} {v : Value} (h0 : 0 ≤ j.toInt) (h1 : j.toInt < (N : Int)) (hv : f j.toNatClampNeg = v) {g : JFrame} (hg : g.method = m) {rest : List Value} (hs : g.stack = .int j :: .ref a :: rest) (hd : decode c.code g.pc = .ok (.baload, 1)) :
    ∀ target, Steps p.tables e below (T.setTop { g with pc := g.pc + 1, stack := v :: rest }) target → Steps p.tables e below (T.setTop g) target := by
  obtain ⟨cl, Ar, S, H⟩ := A
  have hN : j.toNatClampNeg < N := by simp only [Int32.toNatClampNeg]; omega
  exact X.baloadBytes hx (by rw [eT]; exact Ar.1) (State.isArrayOf_alike hZ.alike Ar.2.1) Ar.2.2 (own_inb S h0 h1) (hv ▸ H _ hN) hg hs hd
theorem own_len {p : Program} {l : Launch} {e : Env} {R : Room} {s : State} {m : MethodId} {args : Array Value} {below : List Frame} {meth : Method} {c : Code} {T : State} {locs : List Loc} {cells slots : Nat} {Z : State} {h : Heap}
    (X : Stand p l e R s m args below meth c T locs cells slots) (hx : p.tables.exec = Jvm.exec) (hZ : Z.Warmed39 s.vm) (eT : T.heap = h) {a : Addr} {ty : FieldType} {N : Nat} {f : Nat → Value} (A : own_A Z h a ty N f) {z : Int32} (hz : N.toInt32 = z) {g : JFrame} (hg : g.method = m) {rest : List Value} (hs : g.stack = .ref a :: rest) (hd : decode c.code g.pc = .ok (.arraylength, 1)) :
    ∀ target, Steps p.tables e below (T.setTop { g with pc := g.pc + 1, stack := .int z :: rest }) target → Steps p.tables e below (T.setTop g) target := by
  obtain ⟨cl, Ar, S, H⟩ := A
  subst S hz
  exact X.arraylength hx (by rw [eT]; exact Ar.1) (State.isArrayOf_alike hZ.alike Ar.2.1) hg hs hd
theorem own_ll {x y : Int64} : lcmpW x y < 0 ↔ x.toInt < y.toInt := by rw [lw_lt, Int64.lt_iff_toInt_lt]
theorem own_lg {x y : Int64} : 0 < lcmpW x y ↔ y.toInt < x.toInt := by rw [lw_gt, Int64.lt_iff_toInt_lt]
theorem own_lq {x y : Int64} : lcmpW x y = 0 ↔ x = y := lw_eq x y
theorem own_nll {x y : Int64} (h : ¬ lcmpW x y < 0) : ¬ x.toInt < y.toInt := fun z => h (own_ll.mpr z)
theorem own_nlg {x y : Int64} (h : ¬ 0 < lcmpW x y) : ¬ y.toInt < x.toInt := fun z => h (own_lg.mpr z)
def own_okS (S : Nat) : Prop := S = 64 ∨ S = 128 ∨ S = 256 ∨ S = 512 ∨ S = 1024
def own_pw (j : Fin 64) : Int64 := Int64.ofBitVec (1#64 <<< j.val)
def own_pi (j : Fin 32) : Int32 := Int32.ofBitVec (1#32 <<< j.val)
theorem own_pwlo : ∀ j : Fin 64, j.val < 32 → ¬ (own_pw j).toInt32 = (0 : Int32) ∧ (own_pw j).toInt32 = own_pi ⟨j.val % 32, Nat.mod_lt _ (by decide)⟩ := by decide +kernel
theorem own_pwhi : ∀ j : Fin 64, ¬ j.val < 32 → (own_pw j).toInt32 = (0 : Int32) ∧ (((own_pw j).toUInt64 >>> ((32 : Int32) &&& 0x3f).toInt64.toUInt64).toInt64).toInt32 = own_pi ⟨j.val - 32, by omega⟩ := by decide +kernel
def own_i1 (i : Int32) : Int32 := if (65536 : Int32) < i then (i.toUInt32 >>> ((16 : Int32) &&& 31).toUInt32).toInt32 else i
def own_n1 (i : Int32) : Int32 := if (65536 : Int32) < i then 1 + 16 else 1
def own_i2 (i : Int32) : Int32 := if (256 : Int32) < i then (i.toUInt32 >>> ((8 : Int32) &&& 31).toUInt32).toInt32 else i
def own_n2 (i n : Int32) : Int32 := if (256 : Int32) < i then n + 8 else n
def own_i3 (i : Int32) : Int32 := if (16 : Int32) < i then (i.toUInt32 >>> ((4 : Int32) &&& 31).toUInt32).toInt32 else i
def own_n3 (i n : Int32) : Int32 := if (16 : Int32) < i then n + 4 else n
def own_i4 (i : Int32) : Int32 := if (4 : Int32) < i then (i.toUInt32 >>> ((2 : Int32) &&& 31).toUInt32).toInt32 else i
def own_n4 (i n : Int32) : Int32 := if (4 : Int32) < i then n + 2 else n
def own_t0 (j : Fin 32) : Int32 := ((own_pi j) ^^^ (-1 : Int32)) &&& ((own_pi j) - (1 : Int32))
def own_tz (j : Fin 32) : Int32 :=
  own_n4 (own_i3 (own_i2 (own_i1 (own_t0 j)))) (own_n3 (own_i2 (own_i1 (own_t0 j))) (own_n2 (own_i1 (own_t0 j)) (own_n1 (own_t0 j)))) + ((own_i4 (own_i3 (own_i2 (own_i1 (own_t0 j))))).toUInt32 >>> ((1 : Int32) &&& 31).toUInt32).toInt32
theorem own_tz_ok : ∀ j : Fin 32, (0 : Int32) < own_t0 j → own_tz j = Int32.ofNat j.val := by decide +kernel
theorem own_tz_0 : ∀ j : Fin 32, ¬ (0 : Int32) < own_t0 j → (own_t0 j &&& (32 : Int32)) = Int32.ofNat j.val := by decide +kernel
def own_l1 (i : Int32) : Int32 := if i < (65536 : Int32) then i else (i.toUInt32 >>> ((16 : Int32) &&& 31).toUInt32).toInt32
def own_m1 (i : Int32) : Int32 := if i < (65536 : Int32) then 31 else 31 + (-16)
def own_l2 (i : Int32) : Int32 := if i < (256 : Int32) then i else (i.toUInt32 >>> ((8 : Int32) &&& 31).toUInt32).toInt32
def own_m2 (i n : Int32) : Int32 := if i < (256 : Int32) then n else n + (-8)
def own_l3 (i : Int32) : Int32 := if i < (16 : Int32) then i else (i.toUInt32 >>> ((4 : Int32) &&& 31).toUInt32).toInt32
def own_m3 (i n : Int32) : Int32 := if i < (16 : Int32) then n else n + (-4)
def own_l4 (i : Int32) : Int32 := if i < (4 : Int32) then i else (i.toUInt32 >>> ((2 : Int32) &&& 31).toUInt32).toInt32
def own_m4 (i n : Int32) : Int32 := if i < (4 : Int32) then n else n + (-2)
def own_lz (i : Int32) : Int32 :=
  own_m4 (own_l3 (own_l2 (own_l1 i))) (own_m3 (own_l2 (own_l1 i)) (own_m2 (own_l1 i) (own_m1 i))) - ((own_l4 (own_l3 (own_l2 (own_l1 i)))).toUInt32 >>> ((1 : Int32) &&& 31).toUInt32).toInt32
def own_hb (m : Nat) : Int64 := (Int64.ofNat m) &&& (((-9223372036854775808 : Int64).toUInt64 >>> (((32 : Int32) + own_lz (Int32.ofNat m)) &&& 0x3f).toInt64.toUInt64).toInt64)
theorem own_hb_ok : ∀ m : Fin 1024, 63 ≤ m.val → ∃ k : Fin 11, 6 ≤ k.val ∧ (own_hb m.val) <<< ((1 : Int32) &&& 0x3f).toInt64 = Int64.ofNat (2 ^ k.val) ∧ m.val < 2 ^ k.val := by decide +kernel
theorem own_hi0 : ∀ m : Fin 1024, ((((Int64.ofNat m.val).toUInt64 >>> ((32 : Int32) &&& 0x3f).toInt64.toUInt64).toInt64).toInt32) = (0 : Int32) ∧ (Int64.ofNat m.val).toInt32 = Int32.ofNat m.val := by decide +kernel
theorem own_nm {s : Nat} (h : s < 2147483648) : (Int32.ofNat s).toBitVec.toNat % 64 = s % 64 := by
  show (BitVec.ofNat 32 s).toNat % 64 = _
  rw [BitVec.toNat_ofNat]; omega
theorem own_lbit {s : Nat} (h : s < 2147483648) (i : Nat) : ((1 : Int64) <<< ((Int32.ofNat s) &&& 0x3f).toInt64).toBitVec.getLsbD i = decide (i = s % 64) := by
  have hk := own_nm h
  show ((1 : Int64).toBitVec <<< (((Int32.ofNat s) &&& 0x3f).toInt64.toBitVec.smod 64)).getLsbD i = _
  rw [BitVec.shiftLeft_eq', (sm64 _ _ hk).1, smod64 _ (sm64 _ _ hk).2]
  show (1#64 <<< (s % 64)).getLsbD i = _
  rw [BitVec.getLsbD_shiftLeft, BitVec.getLsbD_one]
  have := Nat.mod_lt s (show 64 > 0 by decide)
  by_cases h : i = s % 64
  · subst h; simp [this]
  · by_cases h2 : i < s % 64
    · simp [h2, h]
    · have : i - s % 64 ≠ 0 := by omega
      simp [this, h]
theorem own_rbit (x : Int64) {s : Nat} (h : s < 2147483648) (i : Nat) : ((x.toUInt64 >>> ((Int32.ofNat s) &&& 0x3f).toInt64.toUInt64).toInt64).toBitVec.getLsbD i = x.toBitVec.getLsbD (s % 64 + i) := by
  have hk := own_nm h
  show (x.toBitVec >>> (((Int32.ofNat s) &&& 0x3f).toInt64.toBitVec % 64)).getLsbD i = _
  rw [BitVec.ushiftRight_eq', BitVec.getLsbD_ushiftRight, BitVec.toNat_umod, (sm64 _ _ hk).1, BitVec.toNat_ofNat]
  have := Nat.mod_lt s (show 64 > 0 by decide)
  congr 2
  show s % 64 % 2 ^ 64 % 64 = s % 64
  omega
theorem own_ext {x y : Int64} (h : ∀ i, i < 64 → x.toBitVec.getLsbD i = y.toBitVec.getLsbD i) : x = y := by
  apply Int64.toBitVec_inj.mp
  exact BitVec.eq_of_getLsbD_eq h
def own_U (u : Nat → Int64) (W : Nat) (P : Nat → Bool) : Prop := ∀ w i, w < W → i < 64 → (u w).toBitVec.getLsbD i = P (64 * w + i)
theorem own_U0 (W : Nat) : own_U (fun _ => 0) W (fun _ => false) := by
  intro w i _ _
  show (0 : Int64).toBitVec.getLsbD i = false
  exact BitVec.getLsbD_zero
theorem own_Utest {u : Nat → Int64} {W : Nat} {P : Nat → Bool} (U : own_U u W P) {s : Nat} (h : s < 2147483648) (hw : s / 64 < W) : (u (s / 64) &&& ((1 : Int64) <<< ((Int32.ofNat s) &&& 0x3f).toInt64)) = 0 ↔ P s = false := by
  have hs : 64 * (s / 64) + s % 64 = s := by omega
  have hm := Nat.mod_lt s (show 64 > 0 by decide)
  constructor
  · intro e
    have e1 := congrArg (fun z : Int64 => z.toBitVec.getLsbD (s % 64)) e
    simp only [Int64.toBitVec_and, BitVec.getLsbD_and, own_lbit h, U _ _ hw hm, hs] at e1
    rw [show (0 : Int64).toBitVec.getLsbD (s % 64) = false from BitVec.getLsbD_zero] at e1
    simpa using e1
  · intro e
    apply own_ext
    intro i hi
    rw [Int64.toBitVec_and, BitVec.getLsbD_and, own_lbit h, U _ _ hw hi, show (0 : Int64).toBitVec.getLsbD i = false from BitVec.getLsbD_zero]
    by_cases q : i = s % 64
    · subst q; rw [hs, e]; rfl
    · simp [q]
def own_updL (f : Nat → Int64) (i : Nat) (v : Int64) : Nat → Int64 := fun j => if j = i then v else f j
theorem own_Uset {u : Nat → Int64} {W : Nat} {P : Nat → Bool} (U : own_U u W P) {s : Nat} (h : s < 2147483648) : own_U (own_updL u (s / 64) (u (s / 64) ||| ((1 : Int64) <<< ((Int32.ofNat s) &&& 0x3f).toInt64))) W (fun j => P j || decide (j = s)) := by
  intro w i hw hi
  simp only [own_updL]
  by_cases q : w = s / 64
  · subst q
    rw [if_pos rfl, Int64.toBitVec_or, BitVec.getLsbD_or, own_lbit h, U _ _ hw hi]
    congr 1
    apply decide_eq_decide.mpr
    omega
  · rw [if_neg q, U _ _ hw hi]
    have : ¬ (64 * w + i = s) := by omega
    simp [this]
theorem own_Uclr {u : Nat → Int64} {W : Nat} {P : Nat → Bool} (U : own_U u W P) {s : Nat} (h : s < 2147483648) : own_U (own_updL u (s / 64) (u (s / 64) &&& (((1 : Int64) <<< ((Int32.ofNat s) &&& 0x3f).toInt64) ^^^ (-1 : Int64)))) W (fun j => P j && !decide (j = s)) := by
  intro w i hw hi
  simp only [own_updL]
  by_cases q : w = s / 64
  · subst q
    rw [if_pos rfl, Int64.toBitVec_and, BitVec.getLsbD_and, Int64.toBitVec_xor, BitVec.getLsbD_xor, own_lbit h, U _ _ hw hi, show (-1 : Int64).toBitVec = BitVec.allOnes 64 from by decide, BitVec.getLsbD_allOnes]
    congr 1
    have e : decide (i = s % 64) = decide (64 * (s / 64) + i = s) := by apply decide_eq_decide.mpr; omega
    rw [e]; simp [hi]
  · rw [if_neg q, U _ _ hw hi]
    have : ¬ (64 * w + i = s) := by omega
    simp [this]
theorem own_pw_bit (j : Fin 64) (i : Nat) : (own_pw j).toBitVec.getLsbD i = decide (i = j.val) := by
  show (1#64 <<< j.val).getLsbD i = _
  rw [BitVec.getLsbD_shiftLeft, BitVec.getLsbD_one]
  have := j.isLt
  by_cases h : i = j.val
  · subst h; simp
  · by_cases h2 : i < j.val
    · simp [h2, h]
    · have : i - j.val ≠ 0 := by omega
      simp [this, h]
/-- what a word shows from the slot s on, where one slot y alone is in use -/
theorem own_later_yes {u : Nat → Int64} {W : Nat} {P : Nat → Bool} {y : Nat} (U : own_U u W P) (hP : ∀ j, j < 64 * W → P j = decide (j = y)) {s d : Nat} (h : s < 2147483648) (hw : s / 64 < W) (hd : s % 64 + d < 64) (hy : y = s + d) : ((u (s / 64)).toUInt64 >>> ((Int32.ofNat s) &&& 0x3f).toInt64.toUInt64).toInt64 = own_pw ⟨d, by omega⟩ := by
  apply own_ext
  intro i hi
  rw [own_rbit _ h, own_pw_bit]
  by_cases q : s % 64 + i < 64
  · rw [U _ _ hw q, hP _ (by omega)]
    apply decide_eq_decide.mpr
    show _ ↔ i = d
    omega
  · rw [BitVec.getLsbD_of_ge _ _ (by omega)]
    symm
    apply decide_eq_false
    show ¬ i = d
    omega
theorem own_later_no {u : Nat → Int64} {W : Nat} {P : Nat → Bool} {y : Nat} (U : own_U u W P) (hP : ∀ j, j < 64 * W → P j = decide (j = y)) {s : Nat} (h : s < 2147483648) (hw : s / 64 < W) (hn : ∀ i, s % 64 + i < 64 → ¬ y = s + i) : ((u (s / 64)).toUInt64 >>> ((Int32.ofNat s) &&& 0x3f).toInt64.toUInt64).toInt64 = 0 := by
  apply own_ext
  intro i hi
  rw [own_rbit _ h, show (0 : Int64).toBitVec.getLsbD i = false from BitVec.getLsbD_zero]
  by_cases q : s % 64 + i < 64
  · rw [U _ _ hw q, hP _ (by omega)]
    apply decide_eq_false
    intro e
    exact hn i q (by omega)
  · rw [BitVec.getLsbD_of_ge _ _ (by omega)]
theorem own_pw_ne (j : Fin 64) : ¬ own_pw j = 0 := by
  intro e
  have e1 := congrArg (fun z : Int64 => z.toBitVec.getLsbD j.val) e
  simp only [own_pw_bit] at e1
  rw [show (0 : Int64).toBitVec.getLsbD j.val = false from BitVec.getLsbD_zero] at e1
  simp at e1
theorem own_nat {i : Nat} (h : i < 2147483648) : (Int32.ofNat i).toInt = i := Int32.toInt_ofNat_of_lt (by omega)
theorem own_clamp {i : Nat} (h : i < 2147483648) : (Int32.ofNat i).toNatClampNeg = i := by simp only [Int32.toNatClampNeg, own_nat h]; omega
theorem own_shr6 {s : Nat} (h : s < 2147483648) : ((Int32.ofNat s).toUInt32 >>> ((6 : Int32) &&& 31).toUInt32).toInt32 = Int32.ofNat (s / 64) := by
  have c := c_iushr (Int32.ofNat s) 6 6 (by decide) (by decide)
  apply Int32.toInt_inj.mp
  rw [own_nat h] at c
  rw [own_nat (by omega), c]
  omega
theorem own_slt {S s : Nat} {p : Int64} (ok : own_okS S) (hs : (s : Int) = p.toInt % (S : Int)) : s < S ∧ S ≤ 1024 ∧ 64 * (S / 64) = S ∧ s / 64 < S / 64 := by
  rcases ok with rfl | rfl | rfl | rfl | rfl <;> omega
theorem own_slot {S s : Nat} {p : Int64} (ok : own_okS S) (hs : (s : Int) = p.toInt % (S : Int)) : (p.toInt32 &&& (Int32.ofNat S - (1 : Int32))) = Int32.ofNat s := by
  have c := c_l2i p
  have hl := own_slt ok hs
  apply Int32.toInt_inj.mp
  rw [own_nat (by omega)]
  rcases ok with rfl | rfl | rfl | rfl | rfl
  · have h := c_mask p.toInt32 (Int32.ofNat 64 - 1) 6 (by decide) (by decide); omega
  · have h := c_mask p.toInt32 (Int32.ofNat 128 - 1) 7 (by decide) (by decide); omega
  · have h := c_mask p.toInt32 (Int32.ofNat 256 - 1) 8 (by decide) (by decide); omega
  · have h := c_mask p.toInt32 (Int32.ofNat 512 - 1) 9 (by decide) (by decide); omega
  · have h := c_mask p.toInt32 (Int32.ofNat 1024 - 1) 10 (by decide) (by decide); omega
theorem own_szI {S : Nat} (ok : own_okS S) : (Int64.ofNat S).toInt = S ∧ (Int64.ofNat S).toInt32 = Int32.ofNat S ∧ ((Int64.ofNat S) / (64 : Int64)).toInt32 = Int32.ofNat (S / 64) ∧ ¬ Int32.ofNat S < 0 ∧ ¬ Int32.ofNat (S / 64) < 0 ∧ (Int32.ofNat S).toNatClampNeg = S ∧ (Int32.ofNat (S / 64)).toNatClampNeg = S / 64 ∧ S ≤ 1024 ∧ S / 64 ≤ 16 := by
  rcases ok with rfl | rfl | rfl | rfl | rfl <;> decide
theorem own_len32 {S : Nat} (ok : own_okS S) : S.toInt32 = Int32.ofNat S := rfl
def own_updI (f : Nat → Int32) (i : Nat) (v : Int32) : Nat → Int32 := fun j => if j = i then v else f j
theorem own_upd_int (f : Nat → Int32) (i : Nat) (v : Int32) : own_upd (fun j => .int (f j)) i (.int v) = fun j => .int (own_updI f i v j) := by
  funext j; simp only [own_upd, own_updI]; split <;> rfl
theorem own_upd_long (f : Nat → Int64) (i : Nat) (v : Int64) : own_upd (fun j => .long (f j)) i (.long v) = fun j => .long (own_updL f i v j) := by
  funext j; simp only [own_upd, own_updL]; split <;> rfl
/-- the ring: its size, its two arrays, how many it holds; all made since the law began -/
def own_R (Z : State) (h : Heap) (n0 : Nat) (o wp wu : Addr) (S : Nat) (c : Int32) (f : Nat → Int32) (u : Nat → Int64) : Prop :=
  Exa Z h o "com/example/brisk_match/briskmatch/search/StartRing" ∧ Fld Z h o "com/example/brisk_match/briskmatch/search/StartRing" "size" "J" (.long (Int64.ofNat S)) ∧ Fld Z h o "com/example/brisk_match/briskmatch/search/StartRing" "patterns" "[I" (.ref wp) ∧ Fld Z h o "com/example/brisk_match/briskmatch/search/StartRing" "used" "[J" (.ref wu) ∧ Fld Z h o "com/example/brisk_match/briskmatch/search/StartRing" "count" "I" (.int c) ∧ own_A Z h wp .int S (fun j => .int (f j)) ∧ own_A Z h wu .long (S / 64) (fun j => .long (u j)) ∧
  o ≠ wp ∧ o ≠ wu ∧ wp ≠ wu ∧ n0 ≤ o ∧ n0 ≤ wp ∧ n0 ≤ wu
theorem d3_0 : decode jdk_29_method_65_code 0 = .ok (.iload_n 0, 1) := by decide +kernel
theorem d3_1 : decode jdk_29_method_65_code 1 = .ok (.iload_n 1, 1) := by decide +kernel
theorem d3_2 : decode jdk_29_method_65_code 2 = .ok (.if_icmp .lt 7, 3) := by decide +kernel
theorem d3_9 : decode jdk_29_method_65_code 9 = .ok (.iload_n 1, 1) := by decide +kernel
theorem d3_10 : decode jdk_29_method_65_code 10 = .ok (.ireturn, 1) := by decide +kernel
theorem d3_5 : decode jdk_29_method_65_code 5 = .ok (.iload_n 0, 1) := by decide +kernel
theorem d3_6 : decode jdk_29_method_65_code 6 = .ok (.goto 4, 3) := by decide +kernel
theorem ef_maxI (m : MethodId) (p0 : Int32) (p1 : Int32) : entryFrame m #[(.int p0), (.int p1)] 2 = mkF m 0 #[.val (.int p0), .val (.int p1)] [] := by first | (simp [entryFrame, mkF, argsToLocals, Value.category]; done) | rfl
def Q_maxI (Z : State) (p0 : Int32) (p1 : Int32) (h0 : Heap) (n0 : Nat) (v : Option Value) (h : Heap) (L : List Loc) : Prop := ∃ r : Int32, v = some (.int r) ∧ Fr n0 L ∧ h = h0 ∧ r.toInt = max p0.toInt p1.toInt
set_option maxRecDepth 65536 in
set_option maxHeartbeats 40000000 in
theorem rm_maxI (l : Launch) (Z : State) (a0 : Array Value) (hw : ∀ d ∈ tables_1, d.before a0 Z = true) (ws : List Jvm.Cond) (p0 : Int32) (p1 : Int32) (h0 : Heap) (n0 : Nat) (Z0 : n0 ≤ h0.size) :
    MetFree l (⟨"java/lang/Math", "max", "(II)I"⟩ : MethodName) (head1 (Jvm.Cond.code (⟨"java/lang/Math", "max", "(II)I"⟩ : MethodName) jdk_29_method_65_code 2 (some .int) :: ws) ({ frames := 0, cells := 0, slots := 0, locals := 0 } : Room)) (fun a U => a = #[(.int p0), (.int p1)] ∧ Z.Warmed39 U.vm ∧ U.heap = h0) (fun _ _ _ _ _ => True) (fun _ U o U' => ∃ v L, o = .returned v ∧ Q_maxI Z p0 p1 h0 n0 v U'.heap L ∧ FrameEnd U o U' L ({ frames := 0, cells := 0, slots := 0, locals := 0 } : Room).cells ({ frames := 0, cells := 0, slots := 0, locals := 0 } : Room).slots) := by
  refine MetFree.of_bodySF (Jvm.Free.JP.mathPlain rfl (by decide +kernel)) hisR ?_
  intro p e s m args below meth kc s₁ Bd hml0 hP hK
  obtain ⟨rfl, hZ, hh⟩ := hP
  have hx := Bd.exec
  have hby := Bd.bytes
  have hlk := Bd.notSynchronized
  have hml : kc.maxLocals = 2 := hml0
  have hown : s.vm.findClass "java/lang/Math" = some m.cls := findClass_of_methodNamed Bd.named
  have hnm := (name_of_methodNamed Bd.named Bd.method).1
  have X0 : Stand p l e ({ frames := 0, cells := 0, slots := 0, locals := 0 } : Room) s m #[(.int p0), (.int p1)] below meth kc s₁ [] 0 0 := Stand.of_body Bd
  have e0 : s₁.heap = h0 := by rw [← hh, Bd.state]; rfl
  have N0 := Fr.nil n0
  show own_G p.tables e below (own_E below s ({ frames := 0, cells := 0, slots := 0, locals := 0 } : Room).cells ({ frames := 0, cells := 0, slots := 0, locals := 0 } : Room).slots (Q_maxI Z p0 p1 h0 n0)) _
  refine own_go (fun _ k => castTop (ef_maxI m p0 p1) k) ?_
  show own_G p.tables e below _ (s₁.setTop (mkF m 0 #[.val (.int p0), .val (.int p1)] []))
  refine own_go (fun _ kt => XS.iloadN X0.here hx rfl (hb hby d3_0) rfl kt) ?_
  show own_G p.tables e below _ (s₁.setTop (mkF m 1 #[.val (.int p0), .val (.int p1)] [(.int p0)]))
  refine own_go (fun _ kt => XS.iloadN X0.here hx rfl (hb hby d3_1) rfl kt) ?_
  by_cases hc2 : p0 < p1
  · show own_G p.tables e below _ (s₁.setTop (mkF m 2 #[.val (.int p0), .val (.int p1)] [(.int p1), (.int p0)]))
    refine own_go (fun _ kt => XS.icmpYes X0.here hx rfl (pc0 := 2) (pc' := 9) rfl (hb hby d3_2) rfl (tlt (hc2 : p0 < p1)).1 (by decide) (by decide) kt) ?_
    show own_G p.tables e below _ (s₁.setTop (mkF m 9 #[.val (.int p0), .val (.int p1)] []))
    refine own_go (fun _ kt => XS.iloadN X0.here hx rfl (hb hby d3_9) rfl kt) ?_
    show own_G p.tables e below _ (s₁.setTop (mkF m 10 #[.val (.int p0), .val (.int p1)] [(.int p1)]))
    exact own_retI X0 hx Bd.returns hlk (hb hby d3_10) (Nat.le_of_ble_eq_true rfl) (Nat.le_of_ble_eq_true rfl) e0 ⟨_, rfl, N0, rfl, by rw [Int32.lt_iff_toInt_lt] at hc2; omega⟩
  · show own_G p.tables e below _ (s₁.setTop (mkF m 2 #[.val (.int p0), .val (.int p1)] [(.int p1), (.int p0)]))
    refine own_go (fun _ kt => XS.icmpNo X0.here hx rfl (hb hby d3_2) rfl (flt (hc2 : ¬ (p0 < p1))).1 kt) ?_
    show own_G p.tables e below _ (s₁.setTop (mkF m 5 #[.val (.int p0), .val (.int p1)] []))
    refine own_go (fun _ kt => XS.iloadN X0.here hx rfl (hb hby d3_5) rfl kt) ?_
    show own_G p.tables e below _ (s₁.setTop (mkF m 6 #[.val (.int p0), .val (.int p1)] [(.int p0)]))
    refine own_go (fun _ kt => XS.goto X0.here hx rfl (pc0 := 6) (pc' := 10) rfl (hb hby d3_6) (by decide) (by decide) kt) ?_
    show own_G p.tables e below _ (s₁.setTop (mkF m 10 #[.val (.int p0), .val (.int p1)] [(.int p0)]))
    exact own_retI X0 hx Bd.returns hlk (hb hby d3_10) (Nat.le_of_ble_eq_true rfl) (Nat.le_of_ble_eq_true rfl) e0 ⟨_, rfl, N0, rfl, by rw [Int32.lt_iff_toInt_lt] at hc2; omega⟩
theorem d6_73 : decode jdk_33_method_47_code 73 = .ok (.iload_n 1, 1) := by decide +kernel
theorem d6_74 : decode jdk_33_method_47_code 74 = .ok (.iload_n 0, 1) := by decide +kernel
theorem d6_75 : decode jdk_33_method_47_code 75 = .ok (.iconst 1, 1) := by decide +kernel
theorem d6_76 : decode jdk_33_method_47_code 76 = .ok (.iushr, 1) := by decide +kernel
theorem d6_77 : decode jdk_33_method_47_code 77 = .ok (.isub, 1) := by decide +kernel
theorem d6_78 : decode jdk_33_method_47_code 78 = .ok (.ireturn, 1) := by decide +kernel
theorem d6_61 : decode jdk_33_method_47_code 61 = .ok (.iload_n 0, 1) := by decide +kernel
theorem d6_62 : decode jdk_33_method_47_code 62 = .ok (.iconst 4, 1) := by decide +kernel
theorem d6_63 : decode jdk_33_method_47_code 63 = .ok (.if_icmp .lt 10, 3) := by decide +kernel
theorem d6_66 : decode jdk_33_method_47_code 66 = .ok (.iinc 1 (-2), 3) := by decide +kernel
theorem d6_69 : decode jdk_33_method_47_code 69 = .ok (.iload_n 0, 1) := by decide +kernel
theorem d6_70 : decode jdk_33_method_47_code 70 = .ok (.iconst 2, 1) := by decide +kernel
theorem d6_71 : decode jdk_33_method_47_code 71 = .ok (.iushr, 1) := by decide +kernel
theorem d6_72 : decode jdk_33_method_47_code 72 = .ok (.istore_n 0, 1) := by decide +kernel
theorem d6_48 : decode jdk_33_method_47_code 48 = .ok (.iload_n 0, 1) := by decide +kernel
theorem d6_49 : decode jdk_33_method_47_code 49 = .ok (.bipush 16, 2) := by decide +kernel
theorem d6_51 : decode jdk_33_method_47_code 51 = .ok (.if_icmp .lt 10, 3) := by decide +kernel
theorem d6_54 : decode jdk_33_method_47_code 54 = .ok (.iinc 1 (-4), 3) := by decide +kernel
theorem d6_57 : decode jdk_33_method_47_code 57 = .ok (.iload_n 0, 1) := by decide +kernel
theorem d6_58 : decode jdk_33_method_47_code 58 = .ok (.iconst 4, 1) := by decide +kernel
theorem d6_59 : decode jdk_33_method_47_code 59 = .ok (.iushr, 1) := by decide +kernel
theorem d6_60 : decode jdk_33_method_47_code 60 = .ok (.istore_n 0, 1) := by decide +kernel
theorem d6_33 : decode jdk_33_method_47_code 33 = .ok (.iload_n 0, 1) := by decide +kernel
theorem d6_34 : decode jdk_33_method_47_code 34 = .ok (.sipush 256, 3) := by decide +kernel
theorem d6_37 : decode jdk_33_method_47_code 37 = .ok (.if_icmp .lt 11, 3) := by decide +kernel
theorem d6_40 : decode jdk_33_method_47_code 40 = .ok (.iinc 1 (-8), 3) := by decide +kernel
theorem d6_43 : decode jdk_33_method_47_code 43 = .ok (.iload_n 0, 1) := by decide +kernel
theorem d6_44 : decode jdk_33_method_47_code 44 = .ok (.bipush 8, 2) := by decide +kernel
theorem d6_46 : decode jdk_33_method_47_code 46 = .ok (.iushr, 1) := by decide +kernel
theorem d6_47 : decode jdk_33_method_47_code 47 = .ok (.istore_n 0, 1) := by decide +kernel
theorem d6_0 : decode jdk_33_method_47_code 0 = .ok (.iload_n 0, 1) := by decide +kernel
theorem d6_1 : decode jdk_33_method_47_code 1 = .ok (.ifCond .gt 14, 3) := by decide +kernel
theorem d6_15 : decode jdk_33_method_47_code 15 = .ok (.bipush 31, 2) := by decide +kernel
theorem d6_17 : decode jdk_33_method_47_code 17 = .ok (.istore_n 1, 1) := by decide +kernel
theorem d6_18 : decode jdk_33_method_47_code 18 = .ok (.iload_n 0, 1) := by decide +kernel
theorem d6_19 : decode jdk_33_method_47_code 19 = .ok (.ldc_w 264, 3) := by decide +kernel
theorem d6_22 : decode jdk_33_method_47_code 22 = .ok (.if_icmp .lt 11, 3) := by decide +kernel
theorem d6_25 : decode jdk_33_method_47_code 25 = .ok (.iinc 1 (-16), 3) := by decide +kernel
theorem d6_28 : decode jdk_33_method_47_code 28 = .ok (.iload_n 0, 1) := by decide +kernel
theorem d6_29 : decode jdk_33_method_47_code 29 = .ok (.bipush 16, 2) := by decide +kernel
theorem d6_31 : decode jdk_33_method_47_code 31 = .ok (.iushr, 1) := by decide +kernel
theorem d6_32 : decode jdk_33_method_47_code 32 = .ok (.istore_n 0, 1) := by decide +kernel
theorem pn_java_lang_Integer : plainName "java/lang/Integer" = true := by first | (simp [plainName, overriddenIn]; done) | decide +kernel
theorem ef_nlzI (m : MethodId) (p0 : Int32) : entryFrame m #[(.int p0)] 2 = mkF m 0 #[.val (.int p0), .unset] [] := by first | (simp [entryFrame, mkF, argsToLocals, Value.category]; done) | rfl
def Q_nlzI (Z : State) (p0 : Int32) (h0 : Heap) (n0 : Nat) (v : Option Value) (h : Heap) (L : List Loc) : Prop := v = some (.int (own_lz p0)) ∧ Fr n0 L ∧ h = h0
set_option maxRecDepth 65536 in
set_option maxHeartbeats 40000000 in
theorem rm_nlzI (l : Launch) (Z : State) (a0 : Array Value) (hw : ∀ d ∈ tables_1, d.before a0 Z = true) (ws : List Jvm.Cond) (p0 : Int32) (h0 : Heap) (n0 : Nat) (Z0 : n0 ≤ h0.size) (hpos : (0 : Int32) < p0) :
    MetFree l (⟨"java/lang/Integer", "numberOfLeadingZeros", "(I)I"⟩ : MethodName) (head1 (Jvm.Cond.code (⟨"java/lang/Integer", "numberOfLeadingZeros", "(I)I"⟩ : MethodName) jdk_33_method_47_code 2 (some .int) :: ws) ({ frames := 0, cells := 0, slots := 0, locals := 0 } : Room)) (fun a U => a = #[(.int p0)] ∧ Z.Warmed39 U.vm ∧ U.heap = h0) (fun _ _ _ _ _ => True) (fun _ U o U' => ∃ v L, o = .returned v ∧ Q_nlzI Z p0 h0 n0 v U'.heap L ∧ FrameEnd U o U' L ({ frames := 0, cells := 0, slots := 0, locals := 0 } : Room).cells ({ frames := 0, cells := 0, slots := 0, locals := 0 } : Room).slots) := by
  refine MetFree.of_bodySF (plainFor_of_name pn_java_lang_Integer) hisR ?_
  intro p e s m args below meth kc s₁ Bd hml0 hP hK
  obtain ⟨rfl, hZ, hh⟩ := hP
  have hx := Bd.exec
  have hby := Bd.bytes
  have hlk := Bd.notSynchronized
  have hml : kc.maxLocals = 2 := hml0
  have hown : s.vm.findClass "java/lang/Integer" = some m.cls := findClass_of_methodNamed Bd.named
  have hnm := (name_of_methodNamed Bd.named Bd.method).1
  have X0 : Stand p l e ({ frames := 0, cells := 0, slots := 0, locals := 0 } : Room) s m #[(.int p0)] below meth kc s₁ [] 0 0 := Stand.of_body Bd
  have e0 : s₁.heap = h0 := by rw [← hh, Bd.state]; rfl
  have N0 := Fr.nil n0
  show own_G p.tables e below (own_E below s ({ frames := 0, cells := 0, slots := 0, locals := 0 } : Room).cells ({ frames := 0, cells := 0, slots := 0, locals := 0 } : Room).slots (Q_nlzI Z p0 h0 n0)) _
  refine own_go (fun _ k => castTop (ef_nlzI m p0) k) ?_
  have j4 : ∀ (T1 : State) (locs1 : List Loc), Stand p l e ({ frames := 0, cells := 0, slots := 0, locals := 0 } : Room) s m #[(.int p0)] below meth kc T1 locs1 0 0 → T1.heap = h0 → Fr n0 locs1 → own_G p.tables e below (own_E below s ({ frames := 0, cells := 0, slots := 0, locals := 0 } : Room).cells ({ frames := 0, cells := 0, slots := 0, locals := 0 } : Room).slots (Q_nlzI Z p0 h0 n0)) (T1.setTop (mkF m 73 #[.val (.int (own_l4 (own_l3 (own_l2 (own_l1 p0))))), .val (.int (own_m4 (own_l3 (own_l2 (own_l1 p0))) (own_m3 (own_l2 (own_l1 p0)) (own_m2 (own_l1 p0) (own_m1 p0)))))] [])) := by
    intro T1 locs1  X1 e1 N1 
    show own_G p.tables e below _ (T1.setTop (mkF m 73 #[.val (.int (own_l4 (own_l3 (own_l2 (own_l1 p0))))), .val (.int (own_m4 (own_l3 (own_l2 (own_l1 p0))) (own_m3 (own_l2 (own_l1 p0)) (own_m2 (own_l1 p0) (own_m1 p0)))))] []))
    refine own_go (fun _ kt => XS.iloadN X1.here hx rfl (hb hby d6_73) rfl kt) ?_
    show own_G p.tables e below _ (T1.setTop (mkF m 74 #[.val (.int (own_l4 (own_l3 (own_l2 (own_l1 p0))))), .val (.int (own_m4 (own_l3 (own_l2 (own_l1 p0))) (own_m3 (own_l2 (own_l1 p0)) (own_m2 (own_l1 p0) (own_m1 p0)))))] [(.int (own_m4 (own_l3 (own_l2 (own_l1 p0))) (own_m3 (own_l2 (own_l1 p0)) (own_m2 (own_l1 p0) (own_m1 p0)))))]))
    refine own_go (fun _ kt => XS.iloadN X1.here hx rfl (hb hby d6_74) rfl kt) ?_
    show own_G p.tables e below _ (T1.setTop (mkF m 75 #[.val (.int (own_l4 (own_l3 (own_l2 (own_l1 p0))))), .val (.int (own_m4 (own_l3 (own_l2 (own_l1 p0))) (own_m3 (own_l2 (own_l1 p0)) (own_m2 (own_l1 p0) (own_m1 p0)))))] [(.int (own_l4 (own_l3 (own_l2 (own_l1 p0))))), (.int (own_m4 (own_l3 (own_l2 (own_l1 p0))) (own_m3 (own_l2 (own_l1 p0)) (own_m2 (own_l1 p0) (own_m1 p0)))))]))
    refine own_go (fun _ kt => XS.iconst X1.here hx rfl (hb hby d6_75) kt) ?_
    show own_G p.tables e below _ (T1.setTop (mkF m 76 #[.val (.int (own_l4 (own_l3 (own_l2 (own_l1 p0))))), .val (.int (own_m4 (own_l3 (own_l2 (own_l1 p0))) (own_m3 (own_l2 (own_l1 p0)) (own_m2 (own_l1 p0) (own_m1 p0)))))] [(.int (1 : Int32)), (.int (own_l4 (own_l3 (own_l2 (own_l1 p0))))), (.int (own_m4 (own_l3 (own_l2 (own_l1 p0))) (own_m3 (own_l2 (own_l1 p0)) (own_m2 (own_l1 p0) (own_m1 p0)))))]))
    refine own_go (fun _ kt => XS.iushr X1.here hx rfl (hb hby d6_76) rfl kt) ?_
    show own_G p.tables e below _ (T1.setTop (mkF m 77 #[.val (.int (own_l4 (own_l3 (own_l2 (own_l1 p0))))), .val (.int (own_m4 (own_l3 (own_l2 (own_l1 p0))) (own_m3 (own_l2 (own_l1 p0)) (own_m2 (own_l1 p0) (own_m1 p0)))))] [(.int (((own_l4 (own_l3 (own_l2 (own_l1 p0)))).toUInt32 >>> ((1 : Int32) &&& 31).toUInt32).toInt32)), (.int (own_m4 (own_l3 (own_l2 (own_l1 p0))) (own_m3 (own_l2 (own_l1 p0)) (own_m2 (own_l1 p0) (own_m1 p0)))))]))
    refine own_go (fun _ kt => XS.isub X1.here hx rfl (hb hby d6_77) rfl kt) ?_
    show own_G p.tables e below _ (T1.setTop (mkF m 78 #[.val (.int (own_l4 (own_l3 (own_l2 (own_l1 p0))))), .val (.int (own_m4 (own_l3 (own_l2 (own_l1 p0))) (own_m3 (own_l2 (own_l1 p0)) (own_m2 (own_l1 p0) (own_m1 p0)))))] [(.int ((own_m4 (own_l3 (own_l2 (own_l1 p0))) (own_m3 (own_l2 (own_l1 p0)) (own_m2 (own_l1 p0) (own_m1 p0)))) - (((own_l4 (own_l3 (own_l2 (own_l1 p0)))).toUInt32 >>> ((1 : Int32) &&& 31).toUInt32).toInt32)))]))
    exact own_retI X1 hx Bd.returns hlk (hb hby d6_78) (Nat.le_of_ble_eq_true rfl) (Nat.le_of_ble_eq_true rfl) e1 ⟨rfl, N1, rfl⟩
  have j3 : ∀ (T2 : State) (locs2 : List Loc), Stand p l e ({ frames := 0, cells := 0, slots := 0, locals := 0 } : Room) s m #[(.int p0)] below meth kc T2 locs2 0 0 → T2.heap = h0 → Fr n0 locs2 → own_G p.tables e below (own_E below s ({ frames := 0, cells := 0, slots := 0, locals := 0 } : Room).cells ({ frames := 0, cells := 0, slots := 0, locals := 0 } : Room).slots (Q_nlzI Z p0 h0 n0)) (T2.setTop (mkF m 61 #[.val (.int (own_l3 (own_l2 (own_l1 p0)))), .val (.int (own_m3 (own_l2 (own_l1 p0)) (own_m2 (own_l1 p0) (own_m1 p0))))] [])) := by
    intro T2 locs2  X2 e2 N2 
    show own_G p.tables e below _ (T2.setTop (mkF m 61 #[.val (.int (own_l3 (own_l2 (own_l1 p0)))), .val (.int (own_m3 (own_l2 (own_l1 p0)) (own_m2 (own_l1 p0) (own_m1 p0))))] []))
    refine own_go (fun _ kt => XS.iloadN X2.here hx rfl (hb hby d6_61) rfl kt) ?_
    show own_G p.tables e below _ (T2.setTop (mkF m 62 #[.val (.int (own_l3 (own_l2 (own_l1 p0)))), .val (.int (own_m3 (own_l2 (own_l1 p0)) (own_m2 (own_l1 p0) (own_m1 p0))))] [(.int (own_l3 (own_l2 (own_l1 p0))))]))
    refine own_go (fun _ kt => XS.iconst X2.here hx rfl (hb hby d6_62) kt) ?_
    by_cases hc : (own_l3 (own_l2 (own_l1 p0))) < (4 : Int32)
    · show own_G p.tables e below _ (T2.setTop (mkF m 63 #[.val (.int (own_l3 (own_l2 (own_l1 p0)))), .val (.int (own_m3 (own_l2 (own_l1 p0)) (own_m2 (own_l1 p0) (own_m1 p0))))] [(.int (4 : Int32)), (.int (own_l3 (own_l2 (own_l1 p0))))]))
      refine own_go (fun _ kt => XS.icmpYes X2.here hx rfl (pc0 := 63) (pc' := 73) rfl (hb hby d6_63) rfl (tlt (hc : (own_l3 (own_l2 (own_l1 p0))) < (4 : Int32))).1 (by decide) (by decide) kt) ?_
      show own_G p.tables e below _ (T2.setTop (mkF m 73 #[.val (.int (own_l3 (own_l2 (own_l1 p0)))), .val (.int (own_m3 (own_l2 (own_l1 p0)) (own_m2 (own_l1 p0) (own_m1 p0))))] []))
      have q := j4 _ _ X2 e2 N2
      rw [show (own_l4 (own_l3 (own_l2 (own_l1 p0)))) = (own_l3 (own_l2 (own_l1 p0))) from if_pos hc] at q
      rw [show (own_m4 (own_l3 (own_l2 (own_l1 p0))) (own_m3 (own_l2 (own_l1 p0)) (own_m2 (own_l1 p0) (own_m1 p0)))) = (own_m3 (own_l2 (own_l1 p0)) (own_m2 (own_l1 p0) (own_m1 p0))) from if_pos hc] at q
      exact q
    · show own_G p.tables e below _ (T2.setTop (mkF m 63 #[.val (.int (own_l3 (own_l2 (own_l1 p0)))), .val (.int (own_m3 (own_l2 (own_l1 p0)) (own_m2 (own_l1 p0) (own_m1 p0))))] [(.int (4 : Int32)), (.int (own_l3 (own_l2 (own_l1 p0))))]))
      refine own_go (fun _ kt => XS.icmpNo X2.here hx rfl (hb hby d6_63) rfl (flt (hc : ¬ ((own_l3 (own_l2 (own_l1 p0))) < (4 : Int32)))).1 kt) ?_
      show own_G p.tables e below _ (T2.setTop (mkF m 66 #[.val (.int (own_l3 (own_l2 (own_l1 p0)))), .val (.int (own_m3 (own_l2 (own_l1 p0)) (own_m2 (own_l1 p0) (own_m1 p0))))] []))
      refine own_go (fun _ kt => XS.iinc X2.here hx rfl (hb hby d6_66) rfl (l' := #[.val (.int (own_l3 (own_l2 (own_l1 p0)))), .val (.int ((own_m3 (own_l2 (own_l1 p0)) (own_m2 (own_l1 p0) (own_m1 p0))) + (-2 : Int32)))]) rfl kt) ?_
      show own_G p.tables e below _ (T2.setTop (mkF m 69 #[.val (.int (own_l3 (own_l2 (own_l1 p0)))), .val (.int ((own_m3 (own_l2 (own_l1 p0)) (own_m2 (own_l1 p0) (own_m1 p0))) + (-2 : Int32)))] []))
      refine own_go (fun _ kt => XS.iloadN X2.here hx rfl (hb hby d6_69) rfl kt) ?_
      show own_G p.tables e below _ (T2.setTop (mkF m 70 #[.val (.int (own_l3 (own_l2 (own_l1 p0)))), .val (.int ((own_m3 (own_l2 (own_l1 p0)) (own_m2 (own_l1 p0) (own_m1 p0))) + (-2 : Int32)))] [(.int (own_l3 (own_l2 (own_l1 p0))))]))
      refine own_go (fun _ kt => XS.iconst X2.here hx rfl (hb hby d6_70) kt) ?_
      show own_G p.tables e below _ (T2.setTop (mkF m 71 #[.val (.int (own_l3 (own_l2 (own_l1 p0)))), .val (.int ((own_m3 (own_l2 (own_l1 p0)) (own_m2 (own_l1 p0) (own_m1 p0))) + (-2 : Int32)))] [(.int (2 : Int32)), (.int (own_l3 (own_l2 (own_l1 p0))))]))
      refine own_go (fun _ kt => XS.iushr X2.here hx rfl (hb hby d6_71) rfl kt) ?_
      show own_G p.tables e below _ (T2.setTop (mkF m 72 #[.val (.int (own_l3 (own_l2 (own_l1 p0)))), .val (.int ((own_m3 (own_l2 (own_l1 p0)) (own_m2 (own_l1 p0) (own_m1 p0))) + (-2 : Int32)))] [(.int (((own_l3 (own_l2 (own_l1 p0))).toUInt32 >>> ((2 : Int32) &&& 31).toUInt32).toInt32))]))
      refine own_go (fun _ kt => XS.istoreN X2.here hx rfl (hb hby d6_72) rfl (l' := #[.val (.int (((own_l3 (own_l2 (own_l1 p0))).toUInt32 >>> ((2 : Int32) &&& 31).toUInt32).toInt32)), .val (.int ((own_m3 (own_l2 (own_l1 p0)) (own_m2 (own_l1 p0) (own_m1 p0))) + (-2 : Int32)))]) rfl kt) ?_
      show own_G p.tables e below _ (T2.setTop (mkF m 73 #[.val (.int (((own_l3 (own_l2 (own_l1 p0))).toUInt32 >>> ((2 : Int32) &&& 31).toUInt32).toInt32)), .val (.int ((own_m3 (own_l2 (own_l1 p0)) (own_m2 (own_l1 p0) (own_m1 p0))) + (-2 : Int32)))] []))
      have q := j4 _ _ X2 e2 N2
      rw [show (own_l4 (own_l3 (own_l2 (own_l1 p0)))) = (((own_l3 (own_l2 (own_l1 p0))).toUInt32 >>> ((2 : Int32) &&& 31).toUInt32).toInt32) from if_neg hc] at q
      rw [show (own_m4 (own_l3 (own_l2 (own_l1 p0))) (own_m3 (own_l2 (own_l1 p0)) (own_m2 (own_l1 p0) (own_m1 p0)))) = ((own_m3 (own_l2 (own_l1 p0)) (own_m2 (own_l1 p0) (own_m1 p0))) + (-2 : Int32)) from if_neg hc] at q
      exact q
  have j2 : ∀ (T3 : State) (locs3 : List Loc), Stand p l e ({ frames := 0, cells := 0, slots := 0, locals := 0 } : Room) s m #[(.int p0)] below meth kc T3 locs3 0 0 → T3.heap = h0 → Fr n0 locs3 → own_G p.tables e below (own_E below s ({ frames := 0, cells := 0, slots := 0, locals := 0 } : Room).cells ({ frames := 0, cells := 0, slots := 0, locals := 0 } : Room).slots (Q_nlzI Z p0 h0 n0)) (T3.setTop (mkF m 48 #[.val (.int (own_l2 (own_l1 p0))), .val (.int (own_m2 (own_l1 p0) (own_m1 p0)))] [])) := by
    intro T3 locs3  X3 e3 N3 
    show own_G p.tables e below _ (T3.setTop (mkF m 48 #[.val (.int (own_l2 (own_l1 p0))), .val (.int (own_m2 (own_l1 p0) (own_m1 p0)))] []))
    refine own_go (fun _ kt => XS.iloadN X3.here hx rfl (hb hby d6_48) rfl kt) ?_
    show own_G p.tables e below _ (T3.setTop (mkF m 49 #[.val (.int (own_l2 (own_l1 p0))), .val (.int (own_m2 (own_l1 p0) (own_m1 p0)))] [(.int (own_l2 (own_l1 p0)))]))
    refine own_go (fun _ kt => XS.bipush X3.here hx rfl (hb hby d6_49) kt) ?_
    by_cases hc : (own_l2 (own_l1 p0)) < (16 : Int32)
    · show own_G p.tables e below _ (T3.setTop (mkF m 51 #[.val (.int (own_l2 (own_l1 p0))), .val (.int (own_m2 (own_l1 p0) (own_m1 p0)))] [(.int (16 : Int32)), (.int (own_l2 (own_l1 p0)))]))
      refine own_go (fun _ kt => XS.icmpYes X3.here hx rfl (pc0 := 51) (pc' := 61) rfl (hb hby d6_51) rfl (tlt (hc : (own_l2 (own_l1 p0)) < (16 : Int32))).1 (by decide) (by decide) kt) ?_
      show own_G p.tables e below _ (T3.setTop (mkF m 61 #[.val (.int (own_l2 (own_l1 p0))), .val (.int (own_m2 (own_l1 p0) (own_m1 p0)))] []))
      have q := j3 _ _ X3 e3 N3
      rw [show (own_l3 (own_l2 (own_l1 p0))) = (own_l2 (own_l1 p0)) from if_pos hc] at q
      rw [show (own_m3 (own_l2 (own_l1 p0)) (own_m2 (own_l1 p0) (own_m1 p0))) = (own_m2 (own_l1 p0) (own_m1 p0)) from if_pos hc] at q
      exact q
    · show own_G p.tables e below _ (T3.setTop (mkF m 51 #[.val (.int (own_l2 (own_l1 p0))), .val (.int (own_m2 (own_l1 p0) (own_m1 p0)))] [(.int (16 : Int32)), (.int (own_l2 (own_l1 p0)))]))
      refine own_go (fun _ kt => XS.icmpNo X3.here hx rfl (hb hby d6_51) rfl (flt (hc : ¬ ((own_l2 (own_l1 p0)) < (16 : Int32)))).1 kt) ?_
      show own_G p.tables e below _ (T3.setTop (mkF m 54 #[.val (.int (own_l2 (own_l1 p0))), .val (.int (own_m2 (own_l1 p0) (own_m1 p0)))] []))
      refine own_go (fun _ kt => XS.iinc X3.here hx rfl (hb hby d6_54) rfl (l' := #[.val (.int (own_l2 (own_l1 p0))), .val (.int ((own_m2 (own_l1 p0) (own_m1 p0)) + (-4 : Int32)))]) rfl kt) ?_
      show own_G p.tables e below _ (T3.setTop (mkF m 57 #[.val (.int (own_l2 (own_l1 p0))), .val (.int ((own_m2 (own_l1 p0) (own_m1 p0)) + (-4 : Int32)))] []))
      refine own_go (fun _ kt => XS.iloadN X3.here hx rfl (hb hby d6_57) rfl kt) ?_
      show own_G p.tables e below _ (T3.setTop (mkF m 58 #[.val (.int (own_l2 (own_l1 p0))), .val (.int ((own_m2 (own_l1 p0) (own_m1 p0)) + (-4 : Int32)))] [(.int (own_l2 (own_l1 p0)))]))
      refine own_go (fun _ kt => XS.iconst X3.here hx rfl (hb hby d6_58) kt) ?_
      show own_G p.tables e below _ (T3.setTop (mkF m 59 #[.val (.int (own_l2 (own_l1 p0))), .val (.int ((own_m2 (own_l1 p0) (own_m1 p0)) + (-4 : Int32)))] [(.int (4 : Int32)), (.int (own_l2 (own_l1 p0)))]))
      refine own_go (fun _ kt => XS.iushr X3.here hx rfl (hb hby d6_59) rfl kt) ?_
      show own_G p.tables e below _ (T3.setTop (mkF m 60 #[.val (.int (own_l2 (own_l1 p0))), .val (.int ((own_m2 (own_l1 p0) (own_m1 p0)) + (-4 : Int32)))] [(.int (((own_l2 (own_l1 p0)).toUInt32 >>> ((4 : Int32) &&& 31).toUInt32).toInt32))]))
      refine own_go (fun _ kt => XS.istoreN X3.here hx rfl (hb hby d6_60) rfl (l' := #[.val (.int (((own_l2 (own_l1 p0)).toUInt32 >>> ((4 : Int32) &&& 31).toUInt32).toInt32)), .val (.int ((own_m2 (own_l1 p0) (own_m1 p0)) + (-4 : Int32)))]) rfl kt) ?_
      show own_G p.tables e below _ (T3.setTop (mkF m 61 #[.val (.int (((own_l2 (own_l1 p0)).toUInt32 >>> ((4 : Int32) &&& 31).toUInt32).toInt32)), .val (.int ((own_m2 (own_l1 p0) (own_m1 p0)) + (-4 : Int32)))] []))
      have q := j3 _ _ X3 e3 N3
      rw [show (own_l3 (own_l2 (own_l1 p0))) = (((own_l2 (own_l1 p0)).toUInt32 >>> ((4 : Int32) &&& 31).toUInt32).toInt32) from if_neg hc] at q
      rw [show (own_m3 (own_l2 (own_l1 p0)) (own_m2 (own_l1 p0) (own_m1 p0))) = ((own_m2 (own_l1 p0) (own_m1 p0)) + (-4 : Int32)) from if_neg hc] at q
      exact q
  have j1 : ∀ (T4 : State) (locs4 : List Loc), Stand p l e ({ frames := 0, cells := 0, slots := 0, locals := 0 } : Room) s m #[(.int p0)] below meth kc T4 locs4 0 0 → T4.heap = h0 → Fr n0 locs4 → own_G p.tables e below (own_E below s ({ frames := 0, cells := 0, slots := 0, locals := 0 } : Room).cells ({ frames := 0, cells := 0, slots := 0, locals := 0 } : Room).slots (Q_nlzI Z p0 h0 n0)) (T4.setTop (mkF m 33 #[.val (.int (own_l1 p0)), .val (.int (own_m1 p0))] [])) := by
    intro T4 locs4  X4 e4 N4 
    show own_G p.tables e below _ (T4.setTop (mkF m 33 #[.val (.int (own_l1 p0)), .val (.int (own_m1 p0))] []))
    refine own_go (fun _ kt => XS.iloadN X4.here hx rfl (hb hby d6_33) rfl kt) ?_
    show own_G p.tables e below _ (T4.setTop (mkF m 34 #[.val (.int (own_l1 p0)), .val (.int (own_m1 p0))] [(.int (own_l1 p0))]))
    refine own_go (fun _ kt => XS.sipush X4.here hx rfl (hb hby d6_34) kt) ?_
    by_cases hc : (own_l1 p0) < (256 : Int32)
    · show own_G p.tables e below _ (T4.setTop (mkF m 37 #[.val (.int (own_l1 p0)), .val (.int (own_m1 p0))] [(.int (256 : Int32)), (.int (own_l1 p0))]))
      refine own_go (fun _ kt => XS.icmpYes X4.here hx rfl (pc0 := 37) (pc' := 48) rfl (hb hby d6_37) rfl (tlt (hc : (own_l1 p0) < (256 : Int32))).1 (by decide) (by decide) kt) ?_
      show own_G p.tables e below _ (T4.setTop (mkF m 48 #[.val (.int (own_l1 p0)), .val (.int (own_m1 p0))] []))
      have q := j2 _ _ X4 e4 N4
      rw [show (own_l2 (own_l1 p0)) = (own_l1 p0) from if_pos hc] at q
      rw [show (own_m2 (own_l1 p0) (own_m1 p0)) = (own_m1 p0) from if_pos hc] at q
      exact q
    · show own_G p.tables e below _ (T4.setTop (mkF m 37 #[.val (.int (own_l1 p0)), .val (.int (own_m1 p0))] [(.int (256 : Int32)), (.int (own_l1 p0))]))
      refine own_go (fun _ kt => XS.icmpNo X4.here hx rfl (hb hby d6_37) rfl (flt (hc : ¬ ((own_l1 p0) < (256 : Int32)))).1 kt) ?_
      show own_G p.tables e below _ (T4.setTop (mkF m 40 #[.val (.int (own_l1 p0)), .val (.int (own_m1 p0))] []))
      refine own_go (fun _ kt => XS.iinc X4.here hx rfl (hb hby d6_40) rfl (l' := #[.val (.int (own_l1 p0)), .val (.int ((own_m1 p0) + (-8 : Int32)))]) rfl kt) ?_
      show own_G p.tables e below _ (T4.setTop (mkF m 43 #[.val (.int (own_l1 p0)), .val (.int ((own_m1 p0) + (-8 : Int32)))] []))
      refine own_go (fun _ kt => XS.iloadN X4.here hx rfl (hb hby d6_43) rfl kt) ?_
      show own_G p.tables e below _ (T4.setTop (mkF m 44 #[.val (.int (own_l1 p0)), .val (.int ((own_m1 p0) + (-8 : Int32)))] [(.int (own_l1 p0))]))
      refine own_go (fun _ kt => XS.bipush X4.here hx rfl (hb hby d6_44) kt) ?_
      show own_G p.tables e below _ (T4.setTop (mkF m 46 #[.val (.int (own_l1 p0)), .val (.int ((own_m1 p0) + (-8 : Int32)))] [(.int (8 : Int32)), (.int (own_l1 p0))]))
      refine own_go (fun _ kt => XS.iushr X4.here hx rfl (hb hby d6_46) rfl kt) ?_
      show own_G p.tables e below _ (T4.setTop (mkF m 47 #[.val (.int (own_l1 p0)), .val (.int ((own_m1 p0) + (-8 : Int32)))] [(.int (((own_l1 p0).toUInt32 >>> ((8 : Int32) &&& 31).toUInt32).toInt32))]))
      refine own_go (fun _ kt => XS.istoreN X4.here hx rfl (hb hby d6_47) rfl (l' := #[.val (.int (((own_l1 p0).toUInt32 >>> ((8 : Int32) &&& 31).toUInt32).toInt32)), .val (.int ((own_m1 p0) + (-8 : Int32)))]) rfl kt) ?_
      show own_G p.tables e below _ (T4.setTop (mkF m 48 #[.val (.int (((own_l1 p0).toUInt32 >>> ((8 : Int32) &&& 31).toUInt32).toInt32)), .val (.int ((own_m1 p0) + (-8 : Int32)))] []))
      have q := j2 _ _ X4 e4 N4
      rw [show (own_l2 (own_l1 p0)) = (((own_l1 p0).toUInt32 >>> ((8 : Int32) &&& 31).toUInt32).toInt32) from if_neg hc] at q
      rw [show (own_m2 (own_l1 p0) (own_m1 p0)) = ((own_m1 p0) + (-8 : Int32)) from if_neg hc] at q
      exact q
  show own_G p.tables e below _ (s₁.setTop (mkF m 0 #[.val (.int p0), .unset] []))
  refine own_go (fun _ kt => XS.iloadN X0.here hx rfl (hb hby d6_0) rfl kt) ?_
  show own_G p.tables e below _ (s₁.setTop (mkF m 1 #[.val (.int p0), .unset] [(.int p0)]))
  refine own_go (fun _ kt => XS.ifYes X0.here hx rfl (pc0 := 1) (pc' := 15) rfl (hb hby d6_1) rfl ((if0 _ _).trans (tlt (hpos : (0 : Int32) < p0)).2.2.1) (by decide) (by decide) kt) ?_
  show own_G p.tables e below _ (s₁.setTop (mkF m 15 #[.val (.int p0), .unset] []))
  refine own_go (fun _ kt => XS.bipush X0.here hx rfl (hb hby d6_15) kt) ?_
  show own_G p.tables e below _ (s₁.setTop (mkF m 17 #[.val (.int p0), .unset] [(.int (31 : Int32))]))
  refine own_go (fun _ kt => XS.istoreN X0.here hx rfl (hb hby d6_17) rfl (l' := #[.val (.int p0), .val (.int (31 : Int32))]) rfl kt) ?_
  show own_G p.tables e below _ (s₁.setTop (mkF m 18 #[.val (.int p0), .val (.int (31 : Int32))] []))
  refine own_go (fun _ kt => XS.iloadN X0.here hx rfl (hb hby d6_18) rfl kt) ?_
  show own_G p.tables e below _ (s₁.setTop (mkF m 19 #[.val (.int p0), .val (.int (31 : Int32))] [(.int p0)]))
  refine own_go (X0.ldcwInt hx hown (mvT hZ (hw _ (List.mem_of_getElem? (i := 27) rfl))) (g := (mkF m 19 #[.val (.int p0), .val (.int (31 : Int32))] [(.int p0)])) rfl (hb hby d6_19)) ?_
  by_cases hc : p0 < (65536 : Int32)
  · show own_G p.tables e below _ (s₁.setTop (mkF m 22 #[.val (.int p0), .val (.int (31 : Int32))] [(.int (65536 : Int32)), (.int p0)]))
    refine own_go (fun _ kt => XS.icmpYes X0.here hx rfl (pc0 := 22) (pc' := 33) rfl (hb hby d6_22) rfl (tlt (hc : p0 < (65536 : Int32))).1 (by decide) (by decide) kt) ?_
    show own_G p.tables e below _ (s₁.setTop (mkF m 33 #[.val (.int p0), .val (.int (31 : Int32))] []))
    have q := j1 _ _ X0 e0 N0
    rw [show (own_l1 p0) = p0 from if_pos hc] at q
    rw [show (own_m1 p0) = (31 : Int32) from if_pos hc] at q
    exact q
  · show own_G p.tables e below _ (s₁.setTop (mkF m 22 #[.val (.int p0), .val (.int (31 : Int32))] [(.int (65536 : Int32)), (.int p0)]))
    refine own_go (fun _ kt => XS.icmpNo X0.here hx rfl (hb hby d6_22) rfl (flt (hc : ¬ (p0 < (65536 : Int32)))).1 kt) ?_
    show own_G p.tables e below _ (s₁.setTop (mkF m 25 #[.val (.int p0), .val (.int (31 : Int32))] []))
    refine own_go (fun _ kt => XS.iinc X0.here hx rfl (hb hby d6_25) rfl (l' := #[.val (.int p0), .val (.int ((31 : Int32) + (-16 : Int32)))]) rfl kt) ?_
    show own_G p.tables e below _ (s₁.setTop (mkF m 28 #[.val (.int p0), .val (.int ((31 : Int32) + (-16 : Int32)))] []))
    refine own_go (fun _ kt => XS.iloadN X0.here hx rfl (hb hby d6_28) rfl kt) ?_
    show own_G p.tables e below _ (s₁.setTop (mkF m 29 #[.val (.int p0), .val (.int ((31 : Int32) + (-16 : Int32)))] [(.int p0)]))
    refine own_go (fun _ kt => XS.bipush X0.here hx rfl (hb hby d6_29) kt) ?_
    show own_G p.tables e below _ (s₁.setTop (mkF m 31 #[.val (.int p0), .val (.int ((31 : Int32) + (-16 : Int32)))] [(.int (16 : Int32)), (.int p0)]))
    refine own_go (fun _ kt => XS.iushr X0.here hx rfl (hb hby d6_31) rfl kt) ?_
    show own_G p.tables e below _ (s₁.setTop (mkF m 32 #[.val (.int p0), .val (.int ((31 : Int32) + (-16 : Int32)))] [(.int ((p0.toUInt32 >>> ((16 : Int32) &&& 31).toUInt32).toInt32))]))
    refine own_go (fun _ kt => XS.istoreN X0.here hx rfl (hb hby d6_32) rfl (l' := #[.val (.int ((p0.toUInt32 >>> ((16 : Int32) &&& 31).toUInt32).toInt32)), .val (.int ((31 : Int32) + (-16 : Int32)))]) rfl kt) ?_
    show own_G p.tables e below _ (s₁.setTop (mkF m 33 #[.val (.int ((p0.toUInt32 >>> ((16 : Int32) &&& 31).toUInt32).toInt32)), .val (.int ((31 : Int32) + (-16 : Int32)))] []))
    have q := j1 _ _ X0 e0 N0
    rw [show (own_l1 p0) = ((p0.toUInt32 >>> ((16 : Int32) &&& 31).toUInt32).toInt32) from if_neg hc] at q
    rw [show (own_m1 p0) = ((31 : Int32) + (-16 : Int32)) from if_neg hc] at q
    exact q
theorem d5_0 : decode jdk_35_method_48_code 0 = .ok (.lload_n 0, 1) := by decide +kernel
theorem d5_1 : decode jdk_35_method_48_code 1 = .ok (.bipush 32, 2) := by decide +kernel
theorem d5_3 : decode jdk_35_method_48_code 3 = .ok (.lushr, 1) := by decide +kernel
theorem d5_4 : decode jdk_35_method_48_code 4 = .ok (.l2i, 1) := by decide +kernel
theorem d5_5 : decode jdk_35_method_48_code 5 = .ok (.istore_n 2, 1) := by decide +kernel
theorem d5_6 : decode jdk_35_method_48_code 6 = .ok (.iload_n 2, 1) := by decide +kernel
theorem d5_7 : decode jdk_35_method_48_code 7 = .ok (.ifCond .ne 14, 3) := by decide +kernel
theorem d5_10 : decode jdk_35_method_48_code 10 = .ok (.bipush 32, 2) := by decide +kernel
theorem d5_12 : decode jdk_35_method_48_code 12 = .ok (.lload_n 0, 1) := by decide +kernel
theorem d5_13 : decode jdk_35_method_48_code 13 = .ok (.l2i, 1) := by decide +kernel
theorem d5_14 : decode jdk_35_method_48_code 14 = .ok (.invokestatic 308, 3) := by decide +kernel
theorem pd__I_I : parseMethodDescriptor "(I)I" = some ⟨[.int], some .int⟩ := by decide +kernel
theorem d5_17 : decode jdk_35_method_48_code 17 = .ok (.iadd, 1) := by decide +kernel
theorem d5_18 : decode jdk_35_method_48_code 18 = .ok (.goto 7, 3) := by decide +kernel
theorem d5_25 : decode jdk_35_method_48_code 25 = .ok (.ireturn, 1) := by decide +kernel
theorem pn_java_lang_Long : plainName "java/lang/Long" = true := by first | (simp [plainName, overriddenIn]; done) | decide +kernel
theorem ef_nlzL (m : MethodId) (p0 : Int64) : entryFrame m #[(.long p0)] 3 = mkF m 0 #[.val (.long p0), .second, .unset] [] := by first | (simp [entryFrame, mkF, argsToLocals, Value.category]; done) | rfl
def Q_nlzL (Z : State) (p0 : Int64) (mm : Fin 1024) (h0 : Heap) (n0 : Nat) (v : Option Value) (h : Heap) (L : List Loc) : Prop := v = some (.int ((32 : Int32) + own_lz (Int32.ofNat mm.val))) ∧ Fr n0 L ∧ h = h0
set_option maxRecDepth 65536 in
set_option maxHeartbeats 40000000 in
theorem rm_nlzL (l : Launch) (Z : State) (a0 : Array Value) (hw : ∀ d ∈ tables_1, d.before a0 Z = true) (ws : List Jvm.Cond) (p0 : Int64) (mm : Fin 1024) (h0 : Heap) (n0 : Nat) (Z0 : n0 ≤ h0.size) (hp : (Int64.ofNat mm.val) = p0) (hm : 63 ≤ mm.val) :
    MetFree l (⟨"java/lang/Long", "numberOfLeadingZeros", "(J)I"⟩ : MethodName) (head1 (Jvm.Cond.code (⟨"java/lang/Long", "numberOfLeadingZeros", "(J)I"⟩ : MethodName) jdk_35_method_48_code 3 (some .int) :: ws) ({ frames := 1, cells := 0, slots := 0, locals := 14 } : Room)) (fun a U => a = #[(.long p0)] ∧ Z.Warmed39 U.vm ∧ U.heap = h0) (fun _ _ _ _ _ => True) (fun _ U o U' => ∃ v L, o = .returned v ∧ Q_nlzL Z p0 mm h0 n0 v U'.heap L ∧ FrameEnd U o U' L ({ frames := 1, cells := 0, slots := 0, locals := 14 } : Room).cells ({ frames := 1, cells := 0, slots := 0, locals := 14 } : Room).slots) := by
  refine MetFree.of_bodySF (plainFor_of_name pn_java_lang_Long) hisR ?_
  intro p e s m args below meth kc s₁ Bd hml0 hP hK
  obtain ⟨rfl, hZ, hh⟩ := hP
  have hx := Bd.exec
  have hby := Bd.bytes
  have hlk := Bd.notSynchronized
  have hml : kc.maxLocals = 3 := hml0
  have hown : s.vm.findClass "java/lang/Long" = some m.cls := findClass_of_methodNamed Bd.named
  have hnm := (name_of_methodNamed Bd.named Bd.method).1
  have X0 : Stand p l e ({ frames := 1, cells := 0, slots := 0, locals := 14 } : Room) s m #[(.long p0)] below meth kc s₁ [] 0 0 := Stand.of_body Bd
  have e0 : s₁.heap = h0 := by rw [← hh, Bd.state]; rfl
  have N0 := Fr.nil n0
  show own_G p.tables e below (own_E below s ({ frames := 1, cells := 0, slots := 0, locals := 14 } : Room).cells ({ frames := 1, cells := 0, slots := 0, locals := 14 } : Room).slots (Q_nlzL Z p0 mm h0 n0)) _
  refine own_go (fun _ k => castTop (ef_nlzL m p0) k) ?_
  subst hp
  show own_G p.tables e below _ (s₁.setTop (mkF m 0 #[.val (.long (Int64.ofNat mm.val)), .second, .unset] []))
  refine own_go (fun _ kt => XS.lloadN X0.here hx rfl (hb hby d5_0) rfl kt) ?_
  show own_G p.tables e below _ (s₁.setTop (mkF m 1 #[.val (.long (Int64.ofNat mm.val)), .second, .unset] [(.long (Int64.ofNat mm.val))]))
  refine own_go (fun _ kt => XS.bipush X0.here hx rfl (hb hby d5_1) kt) ?_
  show own_G p.tables e below _ (s₁.setTop (mkF m 3 #[.val (.long (Int64.ofNat mm.val)), .second, .unset] [(.int (32 : Int32)), (.long (Int64.ofNat mm.val))]))
  refine own_go (fun _ kt => XS.lushr X0.here hx rfl (hb hby d5_3) rfl kt) ?_
  show own_G p.tables e below _ (s₁.setTop (mkF m 4 #[.val (.long (Int64.ofNat mm.val)), .second, .unset] [(.long (((Int64.ofNat mm.val).toUInt64 >>> ((32 : Int32) &&& 0x3f).toInt64.toUInt64).toInt64))]))
  refine own_go (fun _ kt => XS.l2i X0.here hx rfl (hb hby d5_4) rfl kt) ?_
  show own_G p.tables e below _ (s₁.setTop (mkF m 5 #[.val (.long (Int64.ofNat mm.val)), .second, .unset] [(.int ((((Int64.ofNat mm.val).toUInt64 >>> ((32 : Int32) &&& 0x3f).toInt64.toUInt64).toInt64).toInt32))]))
  refine own_go (fun _ kt => XS.istoreN X0.here hx rfl (hb hby d5_5) rfl (l' := #[.val (.long (Int64.ofNat mm.val)), .second, .val (.int ((((Int64.ofNat mm.val).toUInt64 >>> ((32 : Int32) &&& 0x3f).toInt64.toUInt64).toInt64).toInt32))]) rfl kt) ?_
  show own_G p.tables e below _ (s₁.setTop (mkF m 6 #[.val (.long (Int64.ofNat mm.val)), .second, .val (.int ((((Int64.ofNat mm.val).toUInt64 >>> ((32 : Int32) &&& 0x3f).toInt64.toUInt64).toInt64).toInt32))] []))
  refine own_go (fun _ kt => XS.iloadN X0.here hx rfl (hb hby d5_6) rfl kt) ?_
  show own_G p.tables e below _ (s₁.setTop (mkF m 7 #[.val (.long (Int64.ofNat mm.val)), .second, .val (.int ((((Int64.ofNat mm.val).toUInt64 >>> ((32 : Int32) &&& 0x3f).toInt64.toUInt64).toInt64).toInt32))] [(.int ((((Int64.ofNat mm.val).toUInt64 >>> ((32 : Int32) &&& 0x3f).toInt64.toUInt64).toInt64).toInt32))]))
  refine own_go (fun _ kt => XS.ifNo X0.here hx rfl (hb hby d5_7) rfl ((if0 _ _).trans (teq ((own_hi0 mm).1 : ((((Int64.ofNat mm.val).toUInt64 >>> ((32 : Int32) &&& 0x3f).toInt64.toUInt64).toInt64).toInt32) = (0 : Int32))).2) kt) ?_
  show own_G p.tables e below _ (s₁.setTop (mkF m 10 #[.val (.long (Int64.ofNat mm.val)), .second, .val (.int ((((Int64.ofNat mm.val).toUInt64 >>> ((32 : Int32) &&& 0x3f).toInt64.toUInt64).toInt64).toInt32))] []))
  refine own_go (fun _ kt => XS.bipush X0.here hx rfl (hb hby d5_10) kt) ?_
  show own_G p.tables e below _ (s₁.setTop (mkF m 12 #[.val (.long (Int64.ofNat mm.val)), .second, .val (.int ((((Int64.ofNat mm.val).toUInt64 >>> ((32 : Int32) &&& 0x3f).toInt64.toUInt64).toInt64).toInt32))] [(.int (32 : Int32))]))
  refine own_go (fun _ kt => XS.lloadN X0.here hx rfl (hb hby d5_12) rfl kt) ?_
  show own_G p.tables e below _ (s₁.setTop (mkF m 13 #[.val (.long (Int64.ofNat mm.val)), .second, .val (.int ((((Int64.ofNat mm.val).toUInt64 >>> ((32 : Int32) &&& 0x3f).toInt64.toUInt64).toInt64).toInt32))] [(.long (Int64.ofNat mm.val)), (.int (32 : Int32))]))
  refine own_go (fun _ kt => XS.l2i X0.here hx rfl (hb hby d5_13) rfl kt) ?_
  show own_G p.tables e below _ (s₁.setTop (mkF m 14 #[.val (.long (Int64.ofNat mm.val)), .second, .val (.int ((((Int64.ofNat mm.val).toUInt64 >>> ((32 : Int32) &&& 0x3f).toInt64.toUInt64).toInt64).toInt32))] [(.int ((Int64.ofNat mm.val).toInt32)), (.int (32 : Int32))]))
  rw [(own_hi0 mm).2]
  show own_G p.tables e below _ (s₁.setTop (mkF m 14 #[.val (.long (Int64.ofNat mm.val)), .second, .val (.int ((((Int64.ofNat mm.val).toUInt64 >>> ((32 : Int32) &&& 0x3f).toInt64.toUInt64).toInt64).toInt32))] [(.int (Int32.ofNat mm.val)), (.int (32 : Int32))]))
  obtain ⟨_, _, ⟨T5, L5, k5, n5⟩, -, X5, ⟨Lc5, hQ5, l5, y5, z5⟩, st5⟩ := Jvm.LawKit.callS X0 hx (y := (⟨"java/lang/Integer", "numberOfLeadingZeros", "(I)I"⟩ : MethodName)) hown (mvT hZ (hw _ (List.mem_of_getElem? (i := 23) rfl))) (mvT hZ (hw _ (List.mem_of_getElem? (i := 24) rfl))) (mvT hZ (hw _ (List.mem_of_getElem? (i := 25) rfl))) (mvT hZ (hw _ (List.mem_of_getElem? (i := 26) rfl))) (by decide) (backOf (W := 1) (rm_nlzI l Z a0 hw [] (Int32.ofNat mm.val)  h0 n0 Z0 (by rw [Int32.lt_iff_toInt_lt, own_nat (by omega)]; show (0 : Int) < _; omega)) hZ (hw _ (List.mem_of_getElem? (i := 26) rfl)) (hw _ (List.mem_of_getElem? (i := 25) rfl)) (by decide) (by decide)) (g := (mkF m 14 #[.val (.long (Int64.ofNat mm.val)), .second, .val (.int ((((Int64.ofNat mm.val).toUInt64 >>> ((32 : Int32) &&& 0x3f).toInt64.toUInt64).toInt64).toInt32))] [(.int (Int32.ofNat mm.val)), (.int (32 : Int32))])) rfl (by rw [hml]; rfl) (argsL := [(.int (Int32.ofNat mm.val))]) (rest := [(.int (32 : Int32))]) (lenOf pd__I_I rfl) rfl (by show 2 * 0 + _ ≤ _; exact Nat.le_of_eq rfl) (hb hby d5_14) (fun _ _ => ⟨rfl, e0, (Nat.le_of_ble_eq_true rfl), (Nat.le_of_ble_eq_true rfl)⟩)
  dsimp only [Pt.U, Pt.locs, Pt.cells, Pt.slots] at X5 l5 y5 z5 st5 hQ5
  subst l5 y5 z5
  obtain ⟨rfl, Nq5, eq5⟩ := hQ5
  have N5 := Fr.app N0 Nq5
  refine own_go st5 ?_
  show own_G p.tables e below _ (T5.setTop (mkF m 17 #[.val (.long (Int64.ofNat mm.val)), .second, .val (.int ((((Int64.ofNat mm.val).toUInt64 >>> ((32 : Int32) &&& 0x3f).toInt64.toUInt64).toInt64).toInt32))] [(.int (own_lz (Int32.ofNat mm.val))), (.int (32 : Int32))]))
  refine own_go (fun _ kt => XS.iadd X5.here hx rfl (hb hby d5_17) rfl kt) ?_
  show own_G p.tables e below _ (T5.setTop (mkF m 18 #[.val (.long (Int64.ofNat mm.val)), .second, .val (.int ((((Int64.ofNat mm.val).toUInt64 >>> ((32 : Int32) &&& 0x3f).toInt64.toUInt64).toInt64).toInt32))] [(.int ((32 : Int32) + (own_lz (Int32.ofNat mm.val))))]))
  refine own_go (fun _ kt => XS.goto X5.here hx rfl (pc0 := 18) (pc' := 25) rfl (hb hby d5_18) (by decide) (by decide) kt) ?_
  show own_G p.tables e below _ (T5.setTop (mkF m 25 #[.val (.long (Int64.ofNat mm.val)), .second, .val (.int ((((Int64.ofNat mm.val).toUInt64 >>> ((32 : Int32) &&& 0x3f).toInt64.toUInt64).toInt64).toInt32))] [(.int ((32 : Int32) + (own_lz (Int32.ofNat mm.val))))]))
  exact own_retI X5 hx Bd.returns hlk (hb hby d5_25) (Nat.le_of_ble_eq_true rfl) (Nat.le_of_ble_eq_true rfl) eq5 ⟨rfl, N5, rfl⟩
theorem d4_0 : decode jdk_35_method_46_code 0 = .ok (.lload_n 0, 1) := by decide +kernel
theorem d4_1 : decode jdk_35_method_46_code 1 = .ok (.ldc2_w 168, 3) := by decide +kernel
theorem d4_4 : decode jdk_35_method_46_code 4 = .ok (.lload_n 0, 1) := by decide +kernel
theorem d4_5 : decode jdk_35_method_46_code 5 = .ok (.invokestatic 98, 3) := by decide +kernel
theorem pd__J_I : parseMethodDescriptor "(J)I" = some ⟨[.long], some .int⟩ := by decide +kernel
theorem d4_8 : decode jdk_35_method_46_code 8 = .ok (.lushr, 1) := by decide +kernel
theorem d4_9 : decode jdk_35_method_46_code 9 = .ok (.land, 1) := by decide +kernel
theorem d4_10 : decode jdk_35_method_46_code 10 = .ok (.lreturn, 1) := by decide +kernel
theorem ef_hob (m : MethodId) (p0 : Int64) : entryFrame m #[(.long p0)] 2 = mkF m 0 #[.val (.long p0), .second] [] := by first | (simp [entryFrame, mkF, argsToLocals, Value.category]; done) | rfl
def Q_hob (Z : State) (p0 : Int64) (mm : Fin 1024) (h0 : Heap) (n0 : Nat) (v : Option Value) (h : Heap) (L : List Loc) : Prop := v = some (.long (own_hb mm.val)) ∧ Fr n0 L ∧ h = h0
set_option maxRecDepth 65536 in
set_option maxHeartbeats 40000000 in
theorem rm_hob (l : Launch) (Z : State) (a0 : Array Value) (hw : ∀ d ∈ tables_1, d.before a0 Z = true) (ws : List Jvm.Cond) (p0 : Int64) (mm : Fin 1024) (h0 : Heap) (n0 : Nat) (Z0 : n0 ≤ h0.size) (hp : (Int64.ofNat mm.val) = p0) (hm : 63 ≤ mm.val) :
    MetFree l (⟨"java/lang/Long", "highestOneBit", "(J)J"⟩ : MethodName) (head1 (Jvm.Cond.code (⟨"java/lang/Long", "highestOneBit", "(J)J"⟩ : MethodName) jdk_35_method_46_code 2 (some .long) :: ws) ({ frames := 2, cells := 0, slots := 0, locals := 32 } : Room)) (fun a U => a = #[(.long p0)] ∧ Z.Warmed39 U.vm ∧ U.heap = h0) (fun _ _ _ _ _ => True) (fun _ U o U' => ∃ v L, o = .returned v ∧ Q_hob Z p0 mm h0 n0 v U'.heap L ∧ FrameEnd U o U' L ({ frames := 2, cells := 0, slots := 0, locals := 32 } : Room).cells ({ frames := 2, cells := 0, slots := 0, locals := 32 } : Room).slots) := by
  refine MetFree.of_bodySF (plainFor_of_name pn_java_lang_Long) hisR ?_
  intro p e s m args below meth kc s₁ Bd hml0 hP hK
  obtain ⟨rfl, hZ, hh⟩ := hP
  have hx := Bd.exec
  have hby := Bd.bytes
  have hlk := Bd.notSynchronized
  have hml : kc.maxLocals = 2 := hml0
  have hown : s.vm.findClass "java/lang/Long" = some m.cls := findClass_of_methodNamed Bd.named
  have hnm := (name_of_methodNamed Bd.named Bd.method).1
  have X0 : Stand p l e ({ frames := 2, cells := 0, slots := 0, locals := 32 } : Room) s m #[(.long p0)] below meth kc s₁ [] 0 0 := Stand.of_body Bd
  have e0 : s₁.heap = h0 := by rw [← hh, Bd.state]; rfl
  have N0 := Fr.nil n0
  show own_G p.tables e below (own_E below s ({ frames := 2, cells := 0, slots := 0, locals := 32 } : Room).cells ({ frames := 2, cells := 0, slots := 0, locals := 32 } : Room).slots (Q_hob Z p0 mm h0 n0)) _
  refine own_go (fun _ k => castTop (ef_hob m p0) k) ?_
  subst hp
  show own_G p.tables e below _ (s₁.setTop (mkF m 0 #[.val (.long (Int64.ofNat mm.val)), .second] []))
  refine own_go (fun _ kt => XS.lloadN X0.here hx rfl (hb hby d4_0) rfl kt) ?_
  show own_G p.tables e below _ (s₁.setTop (mkF m 1 #[.val (.long (Int64.ofNat mm.val)), .second] [(.long (Int64.ofNat mm.val))]))
  refine own_go (X0.ldc2Long hx hown (mvT hZ (hw _ (List.mem_of_getElem? (i := 19) rfl))) (g := (mkF m 1 #[.val (.long (Int64.ofNat mm.val)), .second] [(.long (Int64.ofNat mm.val))])) rfl (hb hby d4_1)) ?_
  show own_G p.tables e below _ (s₁.setTop (mkF m 4 #[.val (.long (Int64.ofNat mm.val)), .second] [(.long (-9223372036854775808 : Int64)), (.long (Int64.ofNat mm.val))]))
  refine own_go (fun _ kt => XS.lloadN X0.here hx rfl (hb hby d4_4) rfl kt) ?_
  show own_G p.tables e below _ (s₁.setTop (mkF m 5 #[.val (.long (Int64.ofNat mm.val)), .second] [(.long (Int64.ofNat mm.val)), (.long (-9223372036854775808 : Int64)), (.long (Int64.ofNat mm.val))]))
  obtain ⟨_, _, ⟨T6, L6, k6, n6⟩, -, X6, ⟨Lc6, hQ6, l6, y6, z6⟩, st6⟩ := Jvm.LawKit.callS X0 hx (y := (⟨"java/lang/Long", "numberOfLeadingZeros", "(J)I"⟩ : MethodName)) hown (mvT hZ (hw _ (List.mem_of_getElem? (i := 20) rfl))) (mvT hZ (hw _ (List.mem_of_getElem? (i := 21) rfl))) (mvT hZ (hw _ (List.mem_of_getElem? (i := 17) rfl))) (mvT hZ (hw _ (List.mem_of_getElem? (i := 22) rfl))) (by decide) (backOf (W := 4) (rm_nlzL l Z a0 hw [] (Int64.ofNat mm.val) mm h0 n0 Z0 rfl hm) hZ (hw _ (List.mem_of_getElem? (i := 22) rfl)) (hw _ (List.mem_of_getElem? (i := 17) rfl)) (by decide) (by decide)) (g := (mkF m 5 #[.val (.long (Int64.ofNat mm.val)), .second] [(.long (Int64.ofNat mm.val)), (.long (-9223372036854775808 : Int64)), (.long (Int64.ofNat mm.val))])) rfl (by rw [hml]; rfl) (argsL := [(.long (Int64.ofNat mm.val))]) (rest := [(.long (-9223372036854775808 : Int64)), (.long (Int64.ofNat mm.val))]) (lenOf pd__J_I rfl) rfl (by show 2 * 0 + _ ≤ _; exact Nat.le_of_eq rfl) (hb hby d4_5) (fun _ _ => ⟨rfl, e0, (Nat.le_of_ble_eq_true rfl), (Nat.le_of_ble_eq_true rfl)⟩)
  dsimp only [Pt.U, Pt.locs, Pt.cells, Pt.slots] at X6 l6 y6 z6 st6 hQ6
  subst l6 y6 z6
  obtain ⟨rfl, Nq6, eq6⟩ := hQ6
  have N6 := Fr.app N0 Nq6
  refine own_go st6 ?_
  show own_G p.tables e below _ (T6.setTop (mkF m 8 #[.val (.long (Int64.ofNat mm.val)), .second] [(.int ((32 : Int32) + own_lz (Int32.ofNat mm.val))), (.long (-9223372036854775808 : Int64)), (.long (Int64.ofNat mm.val))]))
  refine own_go (fun _ kt => XS.lushr X6.here hx rfl (hb hby d4_8) rfl kt) ?_
  show own_G p.tables e below _ (T6.setTop (mkF m 9 #[.val (.long (Int64.ofNat mm.val)), .second] [(.long (((-9223372036854775808 : Int64).toUInt64 >>> (((32 : Int32) + own_lz (Int32.ofNat mm.val)) &&& 0x3f).toInt64.toUInt64).toInt64)), (.long (Int64.ofNat mm.val))]))
  refine own_go (fun _ kt => XS.land X6.here hx rfl (hb hby d4_9) rfl kt) ?_
  show own_G p.tables e below _ (T6.setTop (mkF m 10 #[.val (.long (Int64.ofNat mm.val)), .second] [(.long ((Int64.ofNat mm.val) &&& (((-9223372036854775808 : Int64).toUInt64 >>> (((32 : Int32) + own_lz (Int32.ofNat mm.val)) &&& 0x3f).toInt64.toUInt64).toInt64)))]))
  exact own_retJ X6 hx Bd.returns hlk (hb hby d4_10) (Nat.le_of_ble_eq_true rfl) (Nat.le_of_ble_eq_true rfl) eq6 ⟨rfl, N6, rfl⟩
theorem d12_74 : decode jdk_33_method_48_code 74 = .ok (.iload_n 1, 1) := by decide +kernel
theorem d12_75 : decode jdk_33_method_48_code 75 = .ok (.iload_n 0, 1) := by decide +kernel
theorem d12_76 : decode jdk_33_method_48_code 76 = .ok (.iconst 1, 1) := by decide +kernel
theorem d12_77 : decode jdk_33_method_48_code 77 = .ok (.iushr, 1) := by decide +kernel
theorem d12_78 : decode jdk_33_method_48_code 78 = .ok (.iadd, 1) := by decide +kernel
theorem d12_79 : decode jdk_33_method_48_code 79 = .ok (.ireturn, 1) := by decide +kernel
theorem d12_62 : decode jdk_33_method_48_code 62 = .ok (.iload_n 0, 1) := by decide +kernel
theorem d12_63 : decode jdk_33_method_48_code 63 = .ok (.iconst 4, 1) := by decide +kernel
theorem d12_64 : decode jdk_33_method_48_code 64 = .ok (.if_icmp .le 10, 3) := by decide +kernel
theorem d12_67 : decode jdk_33_method_48_code 67 = .ok (.iinc 1 2, 3) := by decide +kernel
theorem d12_70 : decode jdk_33_method_48_code 70 = .ok (.iload_n 0, 1) := by decide +kernel
theorem d12_71 : decode jdk_33_method_48_code 71 = .ok (.iconst 2, 1) := by decide +kernel
theorem d12_72 : decode jdk_33_method_48_code 72 = .ok (.iushr, 1) := by decide +kernel
theorem d12_73 : decode jdk_33_method_48_code 73 = .ok (.istore_n 0, 1) := by decide +kernel
theorem d12_49 : decode jdk_33_method_48_code 49 = .ok (.iload_n 0, 1) := by decide +kernel
theorem d12_50 : decode jdk_33_method_48_code 50 = .ok (.bipush 16, 2) := by decide +kernel
theorem d12_52 : decode jdk_33_method_48_code 52 = .ok (.if_icmp .le 10, 3) := by decide +kernel
theorem d12_55 : decode jdk_33_method_48_code 55 = .ok (.iinc 1 4, 3) := by decide +kernel
theorem d12_58 : decode jdk_33_method_48_code 58 = .ok (.iload_n 0, 1) := by decide +kernel
theorem d12_59 : decode jdk_33_method_48_code 59 = .ok (.iconst 4, 1) := by decide +kernel
theorem d12_60 : decode jdk_33_method_48_code 60 = .ok (.iushr, 1) := by decide +kernel
theorem d12_61 : decode jdk_33_method_48_code 61 = .ok (.istore_n 0, 1) := by decide +kernel
theorem d12_34 : decode jdk_33_method_48_code 34 = .ok (.iload_n 0, 1) := by decide +kernel
theorem d12_35 : decode jdk_33_method_48_code 35 = .ok (.sipush 256, 3) := by decide +kernel
theorem d12_38 : decode jdk_33_method_48_code 38 = .ok (.if_icmp .le 11, 3) := by decide +kernel
theorem d12_41 : decode jdk_33_method_48_code 41 = .ok (.iinc 1 8, 3) := by decide +kernel
theorem d12_44 : decode jdk_33_method_48_code 44 = .ok (.iload_n 0, 1) := by decide +kernel
theorem d12_45 : decode jdk_33_method_48_code 45 = .ok (.bipush 8, 2) := by decide +kernel
theorem d12_47 : decode jdk_33_method_48_code 47 = .ok (.iushr, 1) := by decide +kernel
theorem d12_48 : decode jdk_33_method_48_code 48 = .ok (.istore_n 0, 1) := by decide +kernel
theorem d12_17 : decode jdk_33_method_48_code 17 = .ok (.iconst 1, 1) := by decide +kernel
theorem d12_18 : decode jdk_33_method_48_code 18 = .ok (.istore_n 1, 1) := by decide +kernel
theorem d12_19 : decode jdk_33_method_48_code 19 = .ok (.iload_n 0, 1) := by decide +kernel
theorem d12_20 : decode jdk_33_method_48_code 20 = .ok (.ldc_w 264, 3) := by decide +kernel
theorem d12_23 : decode jdk_33_method_48_code 23 = .ok (.if_icmp .le 11, 3) := by decide +kernel
theorem d12_26 : decode jdk_33_method_48_code 26 = .ok (.iinc 1 16, 3) := by decide +kernel
theorem d12_29 : decode jdk_33_method_48_code 29 = .ok (.iload_n 0, 1) := by decide +kernel
theorem d12_30 : decode jdk_33_method_48_code 30 = .ok (.bipush 16, 2) := by decide +kernel
theorem d12_32 : decode jdk_33_method_48_code 32 = .ok (.iushr, 1) := by decide +kernel
theorem d12_33 : decode jdk_33_method_48_code 33 = .ok (.istore_n 0, 1) := by decide +kernel
theorem d12_0 : decode jdk_33_method_48_code 0 = .ok (.iload_n 0, 1) := by decide +kernel
theorem d12_1 : decode jdk_33_method_48_code 1 = .ok (.iconst (-1), 1) := by decide +kernel
theorem d12_2 : decode jdk_33_method_48_code 2 = .ok (.ixor, 1) := by decide +kernel
theorem d12_3 : decode jdk_33_method_48_code 3 = .ok (.iload_n 0, 1) := by decide +kernel
theorem d12_4 : decode jdk_33_method_48_code 4 = .ok (.iconst 1, 1) := by decide +kernel
theorem d12_5 : decode jdk_33_method_48_code 5 = .ok (.isub, 1) := by decide +kernel
theorem d12_6 : decode jdk_33_method_48_code 6 = .ok (.iand, 1) := by decide +kernel
theorem d12_7 : decode jdk_33_method_48_code 7 = .ok (.istore_n 0, 1) := by decide +kernel
theorem d12_8 : decode jdk_33_method_48_code 8 = .ok (.iload_n 0, 1) := by decide +kernel
theorem d12_9 : decode jdk_33_method_48_code 9 = .ok (.ifCond .gt 8, 3) := by decide +kernel
theorem d12_12 : decode jdk_33_method_48_code 12 = .ok (.iload_n 0, 1) := by decide +kernel
theorem d12_13 : decode jdk_33_method_48_code 13 = .ok (.bipush 32, 2) := by decide +kernel
theorem d12_15 : decode jdk_33_method_48_code 15 = .ok (.iand, 1) := by decide +kernel
theorem d12_16 : decode jdk_33_method_48_code 16 = .ok (.ireturn, 1) := by decide +kernel
theorem ef_ntzI (m : MethodId) (p0 : Int32) : entryFrame m #[(.int p0)] 2 = mkF m 0 #[.val (.int p0), .unset] [] := by first | (simp [entryFrame, mkF, argsToLocals, Value.category]; done) | rfl
def Q_ntzI (Z : State) (p0 : Int32) (j : Fin 32) (h0 : Heap) (n0 : Nat) (v : Option Value) (h : Heap) (L : List Loc) : Prop := v = some (.int (Int32.ofNat j.val)) ∧ Fr n0 L ∧ h = h0
set_option maxRecDepth 65536 in
set_option maxHeartbeats 40000000 in
theorem rm_ntzI (l : Launch) (Z : State) (a0 : Array Value) (hw : ∀ d ∈ tables_1, d.before a0 Z = true) (ws : List Jvm.Cond) (p0 : Int32) (j : Fin 32) (h0 : Heap) (n0 : Nat) (Z0 : n0 ≤ h0.size) (hp : own_pi j = p0) :
    MetFree l (⟨"java/lang/Integer", "numberOfTrailingZeros", "(I)I"⟩ : MethodName) (head1 (Jvm.Cond.code (⟨"java/lang/Integer", "numberOfTrailingZeros", "(I)I"⟩ : MethodName) jdk_33_method_48_code 2 (some .int) :: ws) ({ frames := 0, cells := 0, slots := 0, locals := 0 } : Room)) (fun a U => a = #[(.int p0)] ∧ Z.Warmed39 U.vm ∧ U.heap = h0) (fun _ _ _ _ _ => True) (fun _ U o U' => ∃ v L, o = .returned v ∧ Q_ntzI Z p0 j h0 n0 v U'.heap L ∧ FrameEnd U o U' L ({ frames := 0, cells := 0, slots := 0, locals := 0 } : Room).cells ({ frames := 0, cells := 0, slots := 0, locals := 0 } : Room).slots) := by
  refine MetFree.of_bodySF (plainFor_of_name pn_java_lang_Integer) hisR ?_
  intro p e s m args below meth kc s₁ Bd hml0 hP hK
  obtain ⟨rfl, hZ, hh⟩ := hP
  have hx := Bd.exec
  have hby := Bd.bytes
  have hlk := Bd.notSynchronized
  have hml : kc.maxLocals = 2 := hml0
  have hown : s.vm.findClass "java/lang/Integer" = some m.cls := findClass_of_methodNamed Bd.named
  have hnm := (name_of_methodNamed Bd.named Bd.method).1
  have X0 : Stand p l e ({ frames := 0, cells := 0, slots := 0, locals := 0 } : Room) s m #[(.int p0)] below meth kc s₁ [] 0 0 := Stand.of_body Bd
  have e0 : s₁.heap = h0 := by rw [← hh, Bd.state]; rfl
  have N0 := Fr.nil n0
  show own_G p.tables e below (own_E below s ({ frames := 0, cells := 0, slots := 0, locals := 0 } : Room).cells ({ frames := 0, cells := 0, slots := 0, locals := 0 } : Room).slots (Q_ntzI Z p0 j h0 n0)) _
  refine own_go (fun _ k => castTop (ef_ntzI m p0) k) ?_
  subst hp
  have big : (0 : Int32) < own_t0 j → ∀ (Tb : State) (lb : List Loc), Stand p l e ({ frames := 0, cells := 0, slots := 0, locals := 0 } : Room) s m #[(.int (own_pi j))] below meth kc Tb lb 0 0 → Tb.heap = h0 → Fr n0 lb → own_G p.tables e below (own_E below s ({ frames := 0, cells := 0, slots := 0, locals := 0 } : Room).cells ({ frames := 0, cells := 0, slots := 0, locals := 0 } : Room).slots (Q_ntzI Z (own_pi j) j h0 n0)) (Tb.setTop (mkF m 17 #[.val (.int (own_t0 j)), .unset] [])) := by
    intro hpos Tb lb Xb eb Nb
    have j4 : ∀ (T7 : State) (locs7 : List Loc), Stand p l e ({ frames := 0, cells := 0, slots := 0, locals := 0 } : Room) s m #[(.int (own_pi j))] below meth kc T7 locs7 0 0 → T7.heap = h0 → Fr n0 locs7 → own_G p.tables e below (own_E below s ({ frames := 0, cells := 0, slots := 0, locals := 0 } : Room).cells ({ frames := 0, cells := 0, slots := 0, locals := 0 } : Room).slots (Q_ntzI Z (own_pi j) j h0 n0)) (T7.setTop (mkF m 74 #[.val (.int (own_i4 (own_i3 (own_i2 (own_i1 (own_t0 j)))))), .val (.int (own_n4 (own_i3 (own_i2 (own_i1 (own_t0 j)))) (own_n3 (own_i2 (own_i1 (own_t0 j))) (own_n2 (own_i1 (own_t0 j)) (own_n1 (own_t0 j))))))] [])) := by
      intro T7 locs7  X7 e7 N7 
      show own_G p.tables e below _ (T7.setTop (mkF m 74 #[.val (.int (own_i4 (own_i3 (own_i2 (own_i1 (own_t0 j)))))), .val (.int (own_n4 (own_i3 (own_i2 (own_i1 (own_t0 j)))) (own_n3 (own_i2 (own_i1 (own_t0 j))) (own_n2 (own_i1 (own_t0 j)) (own_n1 (own_t0 j))))))] []))
      refine own_go (fun _ kt => XS.iloadN X7.here hx rfl (hb hby d12_74) rfl kt) ?_
      show own_G p.tables e below _ (T7.setTop (mkF m 75 #[.val (.int (own_i4 (own_i3 (own_i2 (own_i1 (own_t0 j)))))), .val (.int (own_n4 (own_i3 (own_i2 (own_i1 (own_t0 j)))) (own_n3 (own_i2 (own_i1 (own_t0 j))) (own_n2 (own_i1 (own_t0 j)) (own_n1 (own_t0 j))))))] [(.int (own_n4 (own_i3 (own_i2 (own_i1 (own_t0 j)))) (own_n3 (own_i2 (own_i1 (own_t0 j))) (own_n2 (own_i1 (own_t0 j)) (own_n1 (own_t0 j))))))]))
      refine own_go (fun _ kt => XS.iloadN X7.here hx rfl (hb hby d12_75) rfl kt) ?_
      show own_G p.tables e below _ (T7.setTop (mkF m 76 #[.val (.int (own_i4 (own_i3 (own_i2 (own_i1 (own_t0 j)))))), .val (.int (own_n4 (own_i3 (own_i2 (own_i1 (own_t0 j)))) (own_n3 (own_i2 (own_i1 (own_t0 j))) (own_n2 (own_i1 (own_t0 j)) (own_n1 (own_t0 j))))))] [(.int (own_i4 (own_i3 (own_i2 (own_i1 (own_t0 j)))))), (.int (own_n4 (own_i3 (own_i2 (own_i1 (own_t0 j)))) (own_n3 (own_i2 (own_i1 (own_t0 j))) (own_n2 (own_i1 (own_t0 j)) (own_n1 (own_t0 j))))))]))
      refine own_go (fun _ kt => XS.iconst X7.here hx rfl (hb hby d12_76) kt) ?_
      show own_G p.tables e below _ (T7.setTop (mkF m 77 #[.val (.int (own_i4 (own_i3 (own_i2 (own_i1 (own_t0 j)))))), .val (.int (own_n4 (own_i3 (own_i2 (own_i1 (own_t0 j)))) (own_n3 (own_i2 (own_i1 (own_t0 j))) (own_n2 (own_i1 (own_t0 j)) (own_n1 (own_t0 j))))))] [(.int (1 : Int32)), (.int (own_i4 (own_i3 (own_i2 (own_i1 (own_t0 j)))))), (.int (own_n4 (own_i3 (own_i2 (own_i1 (own_t0 j)))) (own_n3 (own_i2 (own_i1 (own_t0 j))) (own_n2 (own_i1 (own_t0 j)) (own_n1 (own_t0 j))))))]))
      refine own_go (fun _ kt => XS.iushr X7.here hx rfl (hb hby d12_77) rfl kt) ?_
      show own_G p.tables e below _ (T7.setTop (mkF m 78 #[.val (.int (own_i4 (own_i3 (own_i2 (own_i1 (own_t0 j)))))), .val (.int (own_n4 (own_i3 (own_i2 (own_i1 (own_t0 j)))) (own_n3 (own_i2 (own_i1 (own_t0 j))) (own_n2 (own_i1 (own_t0 j)) (own_n1 (own_t0 j))))))] [(.int (((own_i4 (own_i3 (own_i2 (own_i1 (own_t0 j))))).toUInt32 >>> ((1 : Int32) &&& 31).toUInt32).toInt32)), (.int (own_n4 (own_i3 (own_i2 (own_i1 (own_t0 j)))) (own_n3 (own_i2 (own_i1 (own_t0 j))) (own_n2 (own_i1 (own_t0 j)) (own_n1 (own_t0 j))))))]))
      refine own_go (fun _ kt => XS.iadd X7.here hx rfl (hb hby d12_78) rfl kt) ?_
      show own_G p.tables e below _ (T7.setTop (mkF m 79 #[.val (.int (own_i4 (own_i3 (own_i2 (own_i1 (own_t0 j)))))), .val (.int (own_n4 (own_i3 (own_i2 (own_i1 (own_t0 j)))) (own_n3 (own_i2 (own_i1 (own_t0 j))) (own_n2 (own_i1 (own_t0 j)) (own_n1 (own_t0 j))))))] [(.int ((own_n4 (own_i3 (own_i2 (own_i1 (own_t0 j)))) (own_n3 (own_i2 (own_i1 (own_t0 j))) (own_n2 (own_i1 (own_t0 j)) (own_n1 (own_t0 j))))) + (((own_i4 (own_i3 (own_i2 (own_i1 (own_t0 j))))).toUInt32 >>> ((1 : Int32) &&& 31).toUInt32).toInt32)))]))
      exact own_retI X7 hx Bd.returns hlk (hb hby d12_79) (Nat.le_of_ble_eq_true rfl) (Nat.le_of_ble_eq_true rfl) e7 ⟨congrArg (fun z => some (Value.int z)) (own_tz_ok j hpos), N7, rfl⟩
    have j3 : ∀ (T8 : State) (locs8 : List Loc), Stand p l e ({ frames := 0, cells := 0, slots := 0, locals := 0 } : Room) s m #[(.int (own_pi j))] below meth kc T8 locs8 0 0 → T8.heap = h0 → Fr n0 locs8 → own_G p.tables e below (own_E below s ({ frames := 0, cells := 0, slots := 0, locals := 0 } : Room).cells ({ frames := 0, cells := 0, slots := 0, locals := 0 } : Room).slots (Q_ntzI Z (own_pi j) j h0 n0)) (T8.setTop (mkF m 62 #[.val (.int (own_i3 (own_i2 (own_i1 (own_t0 j))))), .val (.int (own_n3 (own_i2 (own_i1 (own_t0 j))) (own_n2 (own_i1 (own_t0 j)) (own_n1 (own_t0 j)))))] [])) := by
      intro T8 locs8  X8 e8 N8 
      show own_G p.tables e below _ (T8.setTop (mkF m 62 #[.val (.int (own_i3 (own_i2 (own_i1 (own_t0 j))))), .val (.int (own_n3 (own_i2 (own_i1 (own_t0 j))) (own_n2 (own_i1 (own_t0 j)) (own_n1 (own_t0 j)))))] []))
      refine own_go (fun _ kt => XS.iloadN X8.here hx rfl (hb hby d12_62) rfl kt) ?_
      show own_G p.tables e below _ (T8.setTop (mkF m 63 #[.val (.int (own_i3 (own_i2 (own_i1 (own_t0 j))))), .val (.int (own_n3 (own_i2 (own_i1 (own_t0 j))) (own_n2 (own_i1 (own_t0 j)) (own_n1 (own_t0 j)))))] [(.int (own_i3 (own_i2 (own_i1 (own_t0 j)))))]))
      refine own_go (fun _ kt => XS.iconst X8.here hx rfl (hb hby d12_63) kt) ?_
      by_cases hc : (4 : Int32) < (own_i3 (own_i2 (own_i1 (own_t0 j))))
      · show own_G p.tables e below _ (T8.setTop (mkF m 64 #[.val (.int (own_i3 (own_i2 (own_i1 (own_t0 j))))), .val (.int (own_n3 (own_i2 (own_i1 (own_t0 j))) (own_n2 (own_i1 (own_t0 j)) (own_n1 (own_t0 j)))))] [(.int (4 : Int32)), (.int (own_i3 (own_i2 (own_i1 (own_t0 j)))))]))
        refine own_go (fun _ kt => XS.icmpNo X8.here hx rfl (hb hby d12_64) rfl (tlt (hc : (4 : Int32) < (own_i3 (own_i2 (own_i1 (own_t0 j)))))).2.2.2 kt) ?_
        show own_G p.tables e below _ (T8.setTop (mkF m 67 #[.val (.int (own_i3 (own_i2 (own_i1 (own_t0 j))))), .val (.int (own_n3 (own_i2 (own_i1 (own_t0 j))) (own_n2 (own_i1 (own_t0 j)) (own_n1 (own_t0 j)))))] []))
        refine own_go (fun _ kt => XS.iinc X8.here hx rfl (hb hby d12_67) rfl (l' := #[.val (.int (own_i3 (own_i2 (own_i1 (own_t0 j))))), .val (.int ((own_n3 (own_i2 (own_i1 (own_t0 j))) (own_n2 (own_i1 (own_t0 j)) (own_n1 (own_t0 j)))) + (2 : Int32)))]) rfl kt) ?_
        show own_G p.tables e below _ (T8.setTop (mkF m 70 #[.val (.int (own_i3 (own_i2 (own_i1 (own_t0 j))))), .val (.int ((own_n3 (own_i2 (own_i1 (own_t0 j))) (own_n2 (own_i1 (own_t0 j)) (own_n1 (own_t0 j)))) + (2 : Int32)))] []))
        refine own_go (fun _ kt => XS.iloadN X8.here hx rfl (hb hby d12_70) rfl kt) ?_
        show own_G p.tables e below _ (T8.setTop (mkF m 71 #[.val (.int (own_i3 (own_i2 (own_i1 (own_t0 j))))), .val (.int ((own_n3 (own_i2 (own_i1 (own_t0 j))) (own_n2 (own_i1 (own_t0 j)) (own_n1 (own_t0 j)))) + (2 : Int32)))] [(.int (own_i3 (own_i2 (own_i1 (own_t0 j)))))]))
        refine own_go (fun _ kt => XS.iconst X8.here hx rfl (hb hby d12_71) kt) ?_
        show own_G p.tables e below _ (T8.setTop (mkF m 72 #[.val (.int (own_i3 (own_i2 (own_i1 (own_t0 j))))), .val (.int ((own_n3 (own_i2 (own_i1 (own_t0 j))) (own_n2 (own_i1 (own_t0 j)) (own_n1 (own_t0 j)))) + (2 : Int32)))] [(.int (2 : Int32)), (.int (own_i3 (own_i2 (own_i1 (own_t0 j)))))]))
        refine own_go (fun _ kt => XS.iushr X8.here hx rfl (hb hby d12_72) rfl kt) ?_
        show own_G p.tables e below _ (T8.setTop (mkF m 73 #[.val (.int (own_i3 (own_i2 (own_i1 (own_t0 j))))), .val (.int ((own_n3 (own_i2 (own_i1 (own_t0 j))) (own_n2 (own_i1 (own_t0 j)) (own_n1 (own_t0 j)))) + (2 : Int32)))] [(.int (((own_i3 (own_i2 (own_i1 (own_t0 j)))).toUInt32 >>> ((2 : Int32) &&& 31).toUInt32).toInt32))]))
        refine own_go (fun _ kt => XS.istoreN X8.here hx rfl (hb hby d12_73) rfl (l' := #[.val (.int (((own_i3 (own_i2 (own_i1 (own_t0 j)))).toUInt32 >>> ((2 : Int32) &&& 31).toUInt32).toInt32)), .val (.int ((own_n3 (own_i2 (own_i1 (own_t0 j))) (own_n2 (own_i1 (own_t0 j)) (own_n1 (own_t0 j)))) + (2 : Int32)))]) rfl kt) ?_
        show own_G p.tables e below _ (T8.setTop (mkF m 74 #[.val (.int (((own_i3 (own_i2 (own_i1 (own_t0 j)))).toUInt32 >>> ((2 : Int32) &&& 31).toUInt32).toInt32)), .val (.int ((own_n3 (own_i2 (own_i1 (own_t0 j))) (own_n2 (own_i1 (own_t0 j)) (own_n1 (own_t0 j)))) + (2 : Int32)))] []))
        have q := j4 _ _ X8 e8 N8
        rw [show (own_i4 (own_i3 (own_i2 (own_i1 (own_t0 j))))) = (((own_i3 (own_i2 (own_i1 (own_t0 j)))).toUInt32 >>> ((2 : Int32) &&& 31).toUInt32).toInt32) from if_pos hc] at q
        rw [show (own_n4 (own_i3 (own_i2 (own_i1 (own_t0 j)))) (own_n3 (own_i2 (own_i1 (own_t0 j))) (own_n2 (own_i1 (own_t0 j)) (own_n1 (own_t0 j))))) = ((own_n3 (own_i2 (own_i1 (own_t0 j))) (own_n2 (own_i1 (own_t0 j)) (own_n1 (own_t0 j)))) + (2 : Int32)) from if_pos hc] at q
        exact q
      · show own_G p.tables e below _ (T8.setTop (mkF m 64 #[.val (.int (own_i3 (own_i2 (own_i1 (own_t0 j))))), .val (.int (own_n3 (own_i2 (own_i1 (own_t0 j))) (own_n2 (own_i1 (own_t0 j)) (own_n1 (own_t0 j)))))] [(.int (4 : Int32)), (.int (own_i3 (own_i2 (own_i1 (own_t0 j)))))]))
        refine own_go (fun _ kt => XS.icmpYes X8.here hx rfl (pc0 := 64) (pc' := 74) rfl (hb hby d12_64) rfl (flt (hc : ¬ ((4 : Int32) < (own_i3 (own_i2 (own_i1 (own_t0 j))))))).2.2.2 (by decide) (by decide) kt) ?_
        show own_G p.tables e below _ (T8.setTop (mkF m 74 #[.val (.int (own_i3 (own_i2 (own_i1 (own_t0 j))))), .val (.int (own_n3 (own_i2 (own_i1 (own_t0 j))) (own_n2 (own_i1 (own_t0 j)) (own_n1 (own_t0 j)))))] []))
        have q := j4 _ _ X8 e8 N8
        rw [show (own_i4 (own_i3 (own_i2 (own_i1 (own_t0 j))))) = (own_i3 (own_i2 (own_i1 (own_t0 j)))) from if_neg hc] at q
        rw [show (own_n4 (own_i3 (own_i2 (own_i1 (own_t0 j)))) (own_n3 (own_i2 (own_i1 (own_t0 j))) (own_n2 (own_i1 (own_t0 j)) (own_n1 (own_t0 j))))) = (own_n3 (own_i2 (own_i1 (own_t0 j))) (own_n2 (own_i1 (own_t0 j)) (own_n1 (own_t0 j)))) from if_neg hc] at q
        exact q
    have j2 : ∀ (T9 : State) (locs9 : List Loc), Stand p l e ({ frames := 0, cells := 0, slots := 0, locals := 0 } : Room) s m #[(.int (own_pi j))] below meth kc T9 locs9 0 0 → T9.heap = h0 → Fr n0 locs9 → own_G p.tables e below (own_E below s ({ frames := 0, cells := 0, slots := 0, locals := 0 } : Room).cells ({ frames := 0, cells := 0, slots := 0, locals := 0 } : Room).slots (Q_ntzI Z (own_pi j) j h0 n0)) (T9.setTop (mkF m 49 #[.val (.int (own_i2 (own_i1 (own_t0 j)))), .val (.int (own_n2 (own_i1 (own_t0 j)) (own_n1 (own_t0 j))))] [])) := by
      intro T9 locs9  X9 e9 N9 
      show own_G p.tables e below _ (T9.setTop (mkF m 49 #[.val (.int (own_i2 (own_i1 (own_t0 j)))), .val (.int (own_n2 (own_i1 (own_t0 j)) (own_n1 (own_t0 j))))] []))
      refine own_go (fun _ kt => XS.iloadN X9.here hx rfl (hb hby d12_49) rfl kt) ?_
      show own_G p.tables e below _ (T9.setTop (mkF m 50 #[.val (.int (own_i2 (own_i1 (own_t0 j)))), .val (.int (own_n2 (own_i1 (own_t0 j)) (own_n1 (own_t0 j))))] [(.int (own_i2 (own_i1 (own_t0 j))))]))
      refine own_go (fun _ kt => XS.bipush X9.here hx rfl (hb hby d12_50) kt) ?_
      by_cases hc : (16 : Int32) < (own_i2 (own_i1 (own_t0 j)))
      · show own_G p.tables e below _ (T9.setTop (mkF m 52 #[.val (.int (own_i2 (own_i1 (own_t0 j)))), .val (.int (own_n2 (own_i1 (own_t0 j)) (own_n1 (own_t0 j))))] [(.int (16 : Int32)), (.int (own_i2 (own_i1 (own_t0 j))))]))
        refine own_go (fun _ kt => XS.icmpNo X9.here hx rfl (hb hby d12_52) rfl (tlt (hc : (16 : Int32) < (own_i2 (own_i1 (own_t0 j))))).2.2.2 kt) ?_
        show own_G p.tables e below _ (T9.setTop (mkF m 55 #[.val (.int (own_i2 (own_i1 (own_t0 j)))), .val (.int (own_n2 (own_i1 (own_t0 j)) (own_n1 (own_t0 j))))] []))
        refine own_go (fun _ kt => XS.iinc X9.here hx rfl (hb hby d12_55) rfl (l' := #[.val (.int (own_i2 (own_i1 (own_t0 j)))), .val (.int ((own_n2 (own_i1 (own_t0 j)) (own_n1 (own_t0 j))) + (4 : Int32)))]) rfl kt) ?_
        show own_G p.tables e below _ (T9.setTop (mkF m 58 #[.val (.int (own_i2 (own_i1 (own_t0 j)))), .val (.int ((own_n2 (own_i1 (own_t0 j)) (own_n1 (own_t0 j))) + (4 : Int32)))] []))
        refine own_go (fun _ kt => XS.iloadN X9.here hx rfl (hb hby d12_58) rfl kt) ?_
        show own_G p.tables e below _ (T9.setTop (mkF m 59 #[.val (.int (own_i2 (own_i1 (own_t0 j)))), .val (.int ((own_n2 (own_i1 (own_t0 j)) (own_n1 (own_t0 j))) + (4 : Int32)))] [(.int (own_i2 (own_i1 (own_t0 j))))]))
        refine own_go (fun _ kt => XS.iconst X9.here hx rfl (hb hby d12_59) kt) ?_
        show own_G p.tables e below _ (T9.setTop (mkF m 60 #[.val (.int (own_i2 (own_i1 (own_t0 j)))), .val (.int ((own_n2 (own_i1 (own_t0 j)) (own_n1 (own_t0 j))) + (4 : Int32)))] [(.int (4 : Int32)), (.int (own_i2 (own_i1 (own_t0 j))))]))
        refine own_go (fun _ kt => XS.iushr X9.here hx rfl (hb hby d12_60) rfl kt) ?_
        show own_G p.tables e below _ (T9.setTop (mkF m 61 #[.val (.int (own_i2 (own_i1 (own_t0 j)))), .val (.int ((own_n2 (own_i1 (own_t0 j)) (own_n1 (own_t0 j))) + (4 : Int32)))] [(.int (((own_i2 (own_i1 (own_t0 j))).toUInt32 >>> ((4 : Int32) &&& 31).toUInt32).toInt32))]))
        refine own_go (fun _ kt => XS.istoreN X9.here hx rfl (hb hby d12_61) rfl (l' := #[.val (.int (((own_i2 (own_i1 (own_t0 j))).toUInt32 >>> ((4 : Int32) &&& 31).toUInt32).toInt32)), .val (.int ((own_n2 (own_i1 (own_t0 j)) (own_n1 (own_t0 j))) + (4 : Int32)))]) rfl kt) ?_
        show own_G p.tables e below _ (T9.setTop (mkF m 62 #[.val (.int (((own_i2 (own_i1 (own_t0 j))).toUInt32 >>> ((4 : Int32) &&& 31).toUInt32).toInt32)), .val (.int ((own_n2 (own_i1 (own_t0 j)) (own_n1 (own_t0 j))) + (4 : Int32)))] []))
        have q := j3 _ _ X9 e9 N9
        rw [show (own_i3 (own_i2 (own_i1 (own_t0 j)))) = (((own_i2 (own_i1 (own_t0 j))).toUInt32 >>> ((4 : Int32) &&& 31).toUInt32).toInt32) from if_pos hc] at q
        rw [show (own_n3 (own_i2 (own_i1 (own_t0 j))) (own_n2 (own_i1 (own_t0 j)) (own_n1 (own_t0 j)))) = ((own_n2 (own_i1 (own_t0 j)) (own_n1 (own_t0 j))) + (4 : Int32)) from if_pos hc] at q
        exact q
      · show own_G p.tables e below _ (T9.setTop (mkF m 52 #[.val (.int (own_i2 (own_i1 (own_t0 j)))), .val (.int (own_n2 (own_i1 (own_t0 j)) (own_n1 (own_t0 j))))] [(.int (16 : Int32)), (.int (own_i2 (own_i1 (own_t0 j))))]))
        refine own_go (fun _ kt => XS.icmpYes X9.here hx rfl (pc0 := 52) (pc' := 62) rfl (hb hby d12_52) rfl (flt (hc : ¬ ((16 : Int32) < (own_i2 (own_i1 (own_t0 j)))))).2.2.2 (by decide) (by decide) kt) ?_
        show own_G p.tables e below _ (T9.setTop (mkF m 62 #[.val (.int (own_i2 (own_i1 (own_t0 j)))), .val (.int (own_n2 (own_i1 (own_t0 j)) (own_n1 (own_t0 j))))] []))
        have q := j3 _ _ X9 e9 N9
        rw [show (own_i3 (own_i2 (own_i1 (own_t0 j)))) = (own_i2 (own_i1 (own_t0 j))) from if_neg hc] at q
        rw [show (own_n3 (own_i2 (own_i1 (own_t0 j))) (own_n2 (own_i1 (own_t0 j)) (own_n1 (own_t0 j)))) = (own_n2 (own_i1 (own_t0 j)) (own_n1 (own_t0 j))) from if_neg hc] at q
        exact q
    have j1 : ∀ (T10 : State) (locs10 : List Loc), Stand p l e ({ frames := 0, cells := 0, slots := 0, locals := 0 } : Room) s m #[(.int (own_pi j))] below meth kc T10 locs10 0 0 → T10.heap = h0 → Fr n0 locs10 → own_G p.tables e below (own_E below s ({ frames := 0, cells := 0, slots := 0, locals := 0 } : Room).cells ({ frames := 0, cells := 0, slots := 0, locals := 0 } : Room).slots (Q_ntzI Z (own_pi j) j h0 n0)) (T10.setTop (mkF m 34 #[.val (.int (own_i1 (own_t0 j))), .val (.int (own_n1 (own_t0 j)))] [])) := by
      intro T10 locs10  X10 e10 N10 
      show own_G p.tables e below _ (T10.setTop (mkF m 34 #[.val (.int (own_i1 (own_t0 j))), .val (.int (own_n1 (own_t0 j)))] []))
      refine own_go (fun _ kt => XS.iloadN X10.here hx rfl (hb hby d12_34) rfl kt) ?_
      show own_G p.tables e below _ (T10.setTop (mkF m 35 #[.val (.int (own_i1 (own_t0 j))), .val (.int (own_n1 (own_t0 j)))] [(.int (own_i1 (own_t0 j)))]))
      refine own_go (fun _ kt => XS.sipush X10.here hx rfl (hb hby d12_35) kt) ?_
      by_cases hc : (256 : Int32) < (own_i1 (own_t0 j))
      · show own_G p.tables e below _ (T10.setTop (mkF m 38 #[.val (.int (own_i1 (own_t0 j))), .val (.int (own_n1 (own_t0 j)))] [(.int (256 : Int32)), (.int (own_i1 (own_t0 j)))]))
        refine own_go (fun _ kt => XS.icmpNo X10.here hx rfl (hb hby d12_38) rfl (tlt (hc : (256 : Int32) < (own_i1 (own_t0 j)))).2.2.2 kt) ?_
        show own_G p.tables e below _ (T10.setTop (mkF m 41 #[.val (.int (own_i1 (own_t0 j))), .val (.int (own_n1 (own_t0 j)))] []))
        refine own_go (fun _ kt => XS.iinc X10.here hx rfl (hb hby d12_41) rfl (l' := #[.val (.int (own_i1 (own_t0 j))), .val (.int ((own_n1 (own_t0 j)) + (8 : Int32)))]) rfl kt) ?_
        show own_G p.tables e below _ (T10.setTop (mkF m 44 #[.val (.int (own_i1 (own_t0 j))), .val (.int ((own_n1 (own_t0 j)) + (8 : Int32)))] []))
        refine own_go (fun _ kt => XS.iloadN X10.here hx rfl (hb hby d12_44) rfl kt) ?_
        show own_G p.tables e below _ (T10.setTop (mkF m 45 #[.val (.int (own_i1 (own_t0 j))), .val (.int ((own_n1 (own_t0 j)) + (8 : Int32)))] [(.int (own_i1 (own_t0 j)))]))
        refine own_go (fun _ kt => XS.bipush X10.here hx rfl (hb hby d12_45) kt) ?_
        show own_G p.tables e below _ (T10.setTop (mkF m 47 #[.val (.int (own_i1 (own_t0 j))), .val (.int ((own_n1 (own_t0 j)) + (8 : Int32)))] [(.int (8 : Int32)), (.int (own_i1 (own_t0 j)))]))
        refine own_go (fun _ kt => XS.iushr X10.here hx rfl (hb hby d12_47) rfl kt) ?_
        show own_G p.tables e below _ (T10.setTop (mkF m 48 #[.val (.int (own_i1 (own_t0 j))), .val (.int ((own_n1 (own_t0 j)) + (8 : Int32)))] [(.int (((own_i1 (own_t0 j)).toUInt32 >>> ((8 : Int32) &&& 31).toUInt32).toInt32))]))
        refine own_go (fun _ kt => XS.istoreN X10.here hx rfl (hb hby d12_48) rfl (l' := #[.val (.int (((own_i1 (own_t0 j)).toUInt32 >>> ((8 : Int32) &&& 31).toUInt32).toInt32)), .val (.int ((own_n1 (own_t0 j)) + (8 : Int32)))]) rfl kt) ?_
        show own_G p.tables e below _ (T10.setTop (mkF m 49 #[.val (.int (((own_i1 (own_t0 j)).toUInt32 >>> ((8 : Int32) &&& 31).toUInt32).toInt32)), .val (.int ((own_n1 (own_t0 j)) + (8 : Int32)))] []))
        have q := j2 _ _ X10 e10 N10
        rw [show (own_i2 (own_i1 (own_t0 j))) = (((own_i1 (own_t0 j)).toUInt32 >>> ((8 : Int32) &&& 31).toUInt32).toInt32) from if_pos hc] at q
        rw [show (own_n2 (own_i1 (own_t0 j)) (own_n1 (own_t0 j))) = ((own_n1 (own_t0 j)) + (8 : Int32)) from if_pos hc] at q
        exact q
      · show own_G p.tables e below _ (T10.setTop (mkF m 38 #[.val (.int (own_i1 (own_t0 j))), .val (.int (own_n1 (own_t0 j)))] [(.int (256 : Int32)), (.int (own_i1 (own_t0 j)))]))
        refine own_go (fun _ kt => XS.icmpYes X10.here hx rfl (pc0 := 38) (pc' := 49) rfl (hb hby d12_38) rfl (flt (hc : ¬ ((256 : Int32) < (own_i1 (own_t0 j))))).2.2.2 (by decide) (by decide) kt) ?_
        show own_G p.tables e below _ (T10.setTop (mkF m 49 #[.val (.int (own_i1 (own_t0 j))), .val (.int (own_n1 (own_t0 j)))] []))
        have q := j2 _ _ X10 e10 N10
        rw [show (own_i2 (own_i1 (own_t0 j))) = (own_i1 (own_t0 j)) from if_neg hc] at q
        rw [show (own_n2 (own_i1 (own_t0 j)) (own_n1 (own_t0 j))) = (own_n1 (own_t0 j)) from if_neg hc] at q
        exact q
    show own_G p.tables e below _ (Tb.setTop (mkF m 17 #[.val (.int (own_t0 j)), .unset] []))
    refine own_go (fun _ kt => XS.iconst Xb.here hx rfl (hb hby d12_17) kt) ?_
    show own_G p.tables e below _ (Tb.setTop (mkF m 18 #[.val (.int (own_t0 j)), .unset] [(.int (1 : Int32))]))
    refine own_go (fun _ kt => XS.istoreN Xb.here hx rfl (hb hby d12_18) rfl (l' := #[.val (.int (own_t0 j)), .val (.int (1 : Int32))]) rfl kt) ?_
    show own_G p.tables e below _ (Tb.setTop (mkF m 19 #[.val (.int (own_t0 j)), .val (.int (1 : Int32))] []))
    refine own_go (fun _ kt => XS.iloadN Xb.here hx rfl (hb hby d12_19) rfl kt) ?_
    show own_G p.tables e below _ (Tb.setTop (mkF m 20 #[.val (.int (own_t0 j)), .val (.int (1 : Int32))] [(.int (own_t0 j))]))
    refine own_go (Xb.ldcwInt hx hown (mvT hZ (hw _ (List.mem_of_getElem? (i := 27) rfl))) (g := (mkF m 20 #[.val (.int (own_t0 j)), .val (.int (1 : Int32))] [(.int (own_t0 j))])) rfl (hb hby d12_20)) ?_
    by_cases hc : (65536 : Int32) < (own_t0 j)
    · show own_G p.tables e below _ (Tb.setTop (mkF m 23 #[.val (.int (own_t0 j)), .val (.int (1 : Int32))] [(.int (65536 : Int32)), (.int (own_t0 j))]))
      refine own_go (fun _ kt => XS.icmpNo Xb.here hx rfl (hb hby d12_23) rfl (tlt (hc : (65536 : Int32) < (own_t0 j))).2.2.2 kt) ?_
      show own_G p.tables e below _ (Tb.setTop (mkF m 26 #[.val (.int (own_t0 j)), .val (.int (1 : Int32))] []))
      refine own_go (fun _ kt => XS.iinc Xb.here hx rfl (hb hby d12_26) rfl (l' := #[.val (.int (own_t0 j)), .val (.int ((1 : Int32) + (16 : Int32)))]) rfl kt) ?_
      show own_G p.tables e below _ (Tb.setTop (mkF m 29 #[.val (.int (own_t0 j)), .val (.int ((1 : Int32) + (16 : Int32)))] []))
      refine own_go (fun _ kt => XS.iloadN Xb.here hx rfl (hb hby d12_29) rfl kt) ?_
      show own_G p.tables e below _ (Tb.setTop (mkF m 30 #[.val (.int (own_t0 j)), .val (.int ((1 : Int32) + (16 : Int32)))] [(.int (own_t0 j))]))
      refine own_go (fun _ kt => XS.bipush Xb.here hx rfl (hb hby d12_30) kt) ?_
      show own_G p.tables e below _ (Tb.setTop (mkF m 32 #[.val (.int (own_t0 j)), .val (.int ((1 : Int32) + (16 : Int32)))] [(.int (16 : Int32)), (.int (own_t0 j))]))
      refine own_go (fun _ kt => XS.iushr Xb.here hx rfl (hb hby d12_32) rfl kt) ?_
      show own_G p.tables e below _ (Tb.setTop (mkF m 33 #[.val (.int (own_t0 j)), .val (.int ((1 : Int32) + (16 : Int32)))] [(.int (((own_t0 j).toUInt32 >>> ((16 : Int32) &&& 31).toUInt32).toInt32))]))
      refine own_go (fun _ kt => XS.istoreN Xb.here hx rfl (hb hby d12_33) rfl (l' := #[.val (.int (((own_t0 j).toUInt32 >>> ((16 : Int32) &&& 31).toUInt32).toInt32)), .val (.int ((1 : Int32) + (16 : Int32)))]) rfl kt) ?_
      show own_G p.tables e below _ (Tb.setTop (mkF m 34 #[.val (.int (((own_t0 j).toUInt32 >>> ((16 : Int32) &&& 31).toUInt32).toInt32)), .val (.int ((1 : Int32) + (16 : Int32)))] []))
      have q := j1 _ _ Xb eb Nb
      rw [show (own_i1 (own_t0 j)) = (((own_t0 j).toUInt32 >>> ((16 : Int32) &&& 31).toUInt32).toInt32) from if_pos hc] at q
      rw [show (own_n1 (own_t0 j)) = ((1 : Int32) + (16 : Int32)) from if_pos hc] at q
      exact q
    · show own_G p.tables e below _ (Tb.setTop (mkF m 23 #[.val (.int (own_t0 j)), .val (.int (1 : Int32))] [(.int (65536 : Int32)), (.int (own_t0 j))]))
      refine own_go (fun _ kt => XS.icmpYes Xb.here hx rfl (pc0 := 23) (pc' := 34) rfl (hb hby d12_23) rfl (flt (hc : ¬ ((65536 : Int32) < (own_t0 j)))).2.2.2 (by decide) (by decide) kt) ?_
      show own_G p.tables e below _ (Tb.setTop (mkF m 34 #[.val (.int (own_t0 j)), .val (.int (1 : Int32))] []))
      have q := j1 _ _ Xb eb Nb
      rw [show (own_i1 (own_t0 j)) = (own_t0 j) from if_neg hc] at q
      rw [show (own_n1 (own_t0 j)) = (1 : Int32) from if_neg hc] at q
      exact q
  show own_G p.tables e below _ (s₁.setTop (mkF m 0 #[.val (.int (own_pi j)), .unset] []))
  refine own_go (fun _ kt => XS.iloadN X0.here hx rfl (hb hby d12_0) rfl kt) ?_
  show own_G p.tables e below _ (s₁.setTop (mkF m 1 #[.val (.int (own_pi j)), .unset] [(.int (own_pi j))]))
  refine own_go (fun _ kt => XS.iconst X0.here hx rfl (hb hby d12_1) kt) ?_
  show own_G p.tables e below _ (s₁.setTop (mkF m 2 #[.val (.int (own_pi j)), .unset] [(.int (-1 : Int32)), (.int (own_pi j))]))
  refine own_go (fun _ kt => XS.ixor X0.here hx rfl (hb hby d12_2) rfl kt) ?_
  show own_G p.tables e below _ (s₁.setTop (mkF m 3 #[.val (.int (own_pi j)), .unset] [(.int ((own_pi j) ^^^ (-1 : Int32)))]))
  refine own_go (fun _ kt => XS.iloadN X0.here hx rfl (hb hby d12_3) rfl kt) ?_
  show own_G p.tables e below _ (s₁.setTop (mkF m 4 #[.val (.int (own_pi j)), .unset] [(.int (own_pi j)), (.int ((own_pi j) ^^^ (-1 : Int32)))]))
  refine own_go (fun _ kt => XS.iconst X0.here hx rfl (hb hby d12_4) kt) ?_
  show own_G p.tables e below _ (s₁.setTop (mkF m 5 #[.val (.int (own_pi j)), .unset] [(.int (1 : Int32)), (.int (own_pi j)), (.int ((own_pi j) ^^^ (-1 : Int32)))]))
  refine own_go (fun _ kt => XS.isub X0.here hx rfl (hb hby d12_5) rfl kt) ?_
  show own_G p.tables e below _ (s₁.setTop (mkF m 6 #[.val (.int (own_pi j)), .unset] [(.int ((own_pi j) - (1 : Int32))), (.int ((own_pi j) ^^^ (-1 : Int32)))]))
  refine own_go (fun _ kt => XS.iand X0.here hx rfl (hb hby d12_6) rfl kt) ?_
  show own_G p.tables e below _ (s₁.setTop (mkF m 7 #[.val (.int (own_pi j)), .unset] [(.int (((own_pi j) ^^^ (-1 : Int32)) &&& ((own_pi j) - (1 : Int32))))]))
  refine own_go (fun _ kt => XS.istoreN X0.here hx rfl (hb hby d12_7) rfl (l' := #[.val (.int (((own_pi j) ^^^ (-1 : Int32)) &&& ((own_pi j) - (1 : Int32)))), .unset]) rfl kt) ?_
  show own_G p.tables e below _ (s₁.setTop (mkF m 8 #[.val (.int (((own_pi j) ^^^ (-1 : Int32)) &&& ((own_pi j) - (1 : Int32)))), .unset] []))
  refine own_go (fun _ kt => XS.iloadN X0.here hx rfl (hb hby d12_8) rfl kt) ?_
  by_cases hz : (0 : Int32) < (own_t0 j)
  · show own_G p.tables e below _ (s₁.setTop (mkF m 9 #[.val (.int (own_t0 j)), .unset] [(.int (own_t0 j))]))
    refine own_go (fun _ kt => XS.ifYes X0.here hx rfl (pc0 := 9) (pc' := 17) rfl (hb hby d12_9) rfl ((if0 _ _).trans (tlt (hz : (0 : Int32) < (own_t0 j))).2.2.1) (by decide) (by decide) kt) ?_
    show own_G p.tables e below _ (s₁.setTop (mkF m 17 #[.val (.int (own_t0 j)), .unset] []))
    exact big hz _ _ X0 e0 N0
  · show own_G p.tables e below _ (s₁.setTop (mkF m 9 #[.val (.int (own_t0 j)), .unset] [(.int (own_t0 j))]))
    refine own_go (fun _ kt => XS.ifNo X0.here hx rfl (hb hby d12_9) rfl ((if0 _ _).trans (flt (hz : ¬ ((0 : Int32) < (own_t0 j)))).2.2.1) kt) ?_
    show own_G p.tables e below _ (s₁.setTop (mkF m 12 #[.val (.int (own_t0 j)), .unset] []))
    refine own_go (fun _ kt => XS.iloadN X0.here hx rfl (hb hby d12_12) rfl kt) ?_
    show own_G p.tables e below _ (s₁.setTop (mkF m 13 #[.val (.int (own_t0 j)), .unset] [(.int (own_t0 j))]))
    refine own_go (fun _ kt => XS.bipush X0.here hx rfl (hb hby d12_13) kt) ?_
    show own_G p.tables e below _ (s₁.setTop (mkF m 15 #[.val (.int (own_t0 j)), .unset] [(.int (32 : Int32)), (.int (own_t0 j))]))
    refine own_go (fun _ kt => XS.iand X0.here hx rfl (hb hby d12_15) rfl kt) ?_
    show own_G p.tables e below _ (s₁.setTop (mkF m 16 #[.val (.int (own_t0 j)), .unset] [(.int ((own_t0 j) &&& (32 : Int32)))]))
    exact own_retI X0 hx Bd.returns hlk (hb hby d12_16) (Nat.le_of_ble_eq_true rfl) (Nat.le_of_ble_eq_true rfl) e0 ⟨congrArg (fun z => some (Value.int z)) (own_tz_0 j hz), N0, rfl⟩
theorem own_add32 {j : Fin 64} (h : ¬ j.val < 32) : (32 : Int32) + Int32.ofNat (j.val - 32) = Int32.ofNat j.val := by
  revert h; revert j; decide
theorem d11_0 : decode jdk_35_method_49_code 0 = .ok (.lload_n 0, 1) := by decide +kernel
theorem d11_1 : decode jdk_35_method_49_code 1 = .ok (.l2i, 1) := by decide +kernel
theorem d11_2 : decode jdk_35_method_49_code 2 = .ok (.istore_n 2, 1) := by decide +kernel
theorem d11_3 : decode jdk_35_method_49_code 3 = .ok (.iload_n 2, 1) := by decide +kernel
theorem d11_4 : decode jdk_35_method_49_code 4 = .ok (.ifCond .ne 17, 3) := by decide +kernel
theorem d11_21 : decode jdk_35_method_49_code 21 = .ok (.iload_n 2, 1) := by decide +kernel
theorem d11_22 : decode jdk_35_method_49_code 22 = .ok (.invokestatic 311, 3) := by decide +kernel
theorem d11_25 : decode jdk_35_method_49_code 25 = .ok (.ireturn, 1) := by decide +kernel
theorem d11_7 : decode jdk_35_method_49_code 7 = .ok (.bipush 32, 2) := by decide +kernel
theorem d11_9 : decode jdk_35_method_49_code 9 = .ok (.lload_n 0, 1) := by decide +kernel
theorem d11_10 : decode jdk_35_method_49_code 10 = .ok (.bipush 32, 2) := by decide +kernel
theorem d11_12 : decode jdk_35_method_49_code 12 = .ok (.lushr, 1) := by decide +kernel
theorem d11_13 : decode jdk_35_method_49_code 13 = .ok (.l2i, 1) := by decide +kernel
theorem d11_14 : decode jdk_35_method_49_code 14 = .ok (.invokestatic 311, 3) := by decide +kernel
theorem d11_17 : decode jdk_35_method_49_code 17 = .ok (.iadd, 1) := by decide +kernel
theorem d11_18 : decode jdk_35_method_49_code 18 = .ok (.goto 7, 3) := by decide +kernel
theorem ef_ntzL (m : MethodId) (p0 : Int64) : entryFrame m #[(.long p0)] 3 = mkF m 0 #[.val (.long p0), .second, .unset] [] := by first | (simp [entryFrame, mkF, argsToLocals, Value.category]; done) | rfl
def Q_ntzL (Z : State) (p0 : Int64) (j : Fin 64) (h0 : Heap) (n0 : Nat) (v : Option Value) (h : Heap) (L : List Loc) : Prop := v = some (.int (Int32.ofNat j.val)) ∧ Fr n0 L ∧ h = h0
set_option maxRecDepth 65536 in
set_option maxHeartbeats 40000000 in
theorem rm_ntzL (l : Launch) (Z : State) (a0 : Array Value) (hw : ∀ d ∈ tables_1, d.before a0 Z = true) (ws : List Jvm.Cond) (p0 : Int64) (j : Fin 64) (h0 : Heap) (n0 : Nat) (Z0 : n0 ≤ h0.size) (hp : own_pw j = p0) :
    MetFree l (⟨"java/lang/Long", "numberOfTrailingZeros", "(J)I"⟩ : MethodName) (head1 (Jvm.Cond.code (⟨"java/lang/Long", "numberOfTrailingZeros", "(J)I"⟩ : MethodName) jdk_35_method_49_code 3 (some .int) :: ws) ({ frames := 1, cells := 0, slots := 0, locals := 14 } : Room)) (fun a U => a = #[(.long p0)] ∧ Z.Warmed39 U.vm ∧ U.heap = h0) (fun _ _ _ _ _ => True) (fun _ U o U' => ∃ v L, o = .returned v ∧ Q_ntzL Z p0 j h0 n0 v U'.heap L ∧ FrameEnd U o U' L ({ frames := 1, cells := 0, slots := 0, locals := 14 } : Room).cells ({ frames := 1, cells := 0, slots := 0, locals := 14 } : Room).slots) := by
  refine MetFree.of_bodySF (plainFor_of_name pn_java_lang_Long) hisR ?_
  intro p e s m args below meth kc s₁ Bd hml0 hP hK
  obtain ⟨rfl, hZ, hh⟩ := hP
  have hx := Bd.exec
  have hby := Bd.bytes
  have hlk := Bd.notSynchronized
  have hml : kc.maxLocals = 3 := hml0
  have hown : s.vm.findClass "java/lang/Long" = some m.cls := findClass_of_methodNamed Bd.named
  have hnm := (name_of_methodNamed Bd.named Bd.method).1
  have X0 : Stand p l e ({ frames := 1, cells := 0, slots := 0, locals := 14 } : Room) s m #[(.long p0)] below meth kc s₁ [] 0 0 := Stand.of_body Bd
  have e0 : s₁.heap = h0 := by rw [← hh, Bd.state]; rfl
  have N0 := Fr.nil n0
  show own_G p.tables e below (own_E below s ({ frames := 1, cells := 0, slots := 0, locals := 14 } : Room).cells ({ frames := 1, cells := 0, slots := 0, locals := 14 } : Room).slots (Q_ntzL Z p0 j h0 n0)) _
  refine own_go (fun _ k => castTop (ef_ntzL m p0) k) ?_
  subst hp
  show own_G p.tables e below _ (s₁.setTop (mkF m 0 #[.val (.long (own_pw j)), .second, .unset] []))
  refine own_go (fun _ kt => XS.lloadN X0.here hx rfl (hb hby d11_0) rfl kt) ?_
  show own_G p.tables e below _ (s₁.setTop (mkF m 1 #[.val (.long (own_pw j)), .second, .unset] [(.long (own_pw j))]))
  refine own_go (fun _ kt => XS.l2i X0.here hx rfl (hb hby d11_1) rfl kt) ?_
  show own_G p.tables e below _ (s₁.setTop (mkF m 2 #[.val (.long (own_pw j)), .second, .unset] [(.int ((own_pw j).toInt32))]))
  refine own_go (fun _ kt => XS.istoreN X0.here hx rfl (hb hby d11_2) rfl (l' := #[.val (.long (own_pw j)), .second, .val (.int ((own_pw j).toInt32))]) rfl kt) ?_
  by_cases hj : j.val < 32
  · show own_G p.tables e below _ (s₁.setTop (mkF m 3 #[.val (.long (own_pw j)), .second, .val (.int ((own_pw j).toInt32))] []))
    refine own_go (fun _ kt => XS.iloadN X0.here hx rfl (hb hby d11_3) rfl kt) ?_
    show own_G p.tables e below _ (s₁.setTop (mkF m 4 #[.val (.long (own_pw j)), .second, .val (.int ((own_pw j).toInt32))] [(.int ((own_pw j).toInt32))]))
    refine own_go (fun _ kt => XS.ifYes X0.here hx rfl (pc0 := 4) (pc' := 21) rfl (hb hby d11_4) rfl ((if0 _ _).trans (feq ((own_pwlo j hj).1 : ¬ (((own_pw j).toInt32) = (0 : Int32)))).2) (by decide) (by decide) kt) ?_
    show own_G p.tables e below _ (s₁.setTop (mkF m 21 #[.val (.long (own_pw j)), .second, .val (.int ((own_pw j).toInt32))] []))
    refine own_go (fun _ kt => XS.iloadN X0.here hx rfl (hb hby d11_21) rfl kt) ?_
    show own_G p.tables e below _ (s₁.setTop (mkF m 22 #[.val (.long (own_pw j)), .second, .val (.int ((own_pw j).toInt32))] [(.int ((own_pw j).toInt32))]))
    rw [(own_pwlo j hj).2]
    show own_G p.tables e below _ (s₁.setTop (mkF m 22 #[.val (.long (own_pw j)), .second, .val (.int (own_pi ⟨j.val % 32, Nat.mod_lt _ (by decide)⟩))] [(.int (own_pi ⟨j.val % 32, Nat.mod_lt _ (by decide)⟩))]))
    obtain ⟨_, _, ⟨T11, L11, k11, n11⟩, -, X11, ⟨Lc11, hQ11, l11, y11, z11⟩, st11⟩ := Jvm.LawKit.callS X0 hx (y := (⟨"java/lang/Integer", "numberOfTrailingZeros", "(I)I"⟩ : MethodName)) hown (mvT hZ (hw _ (List.mem_of_getElem? (i := 65) rfl))) (mvT hZ (hw _ (List.mem_of_getElem? (i := 66) rfl))) (mvT hZ (hw _ (List.mem_of_getElem? (i := 25) rfl))) (mvT hZ (hw _ (List.mem_of_getElem? (i := 67) rfl))) (by decide) (backOf (W := 0) (rm_ntzI l Z a0 hw [] (own_pi ⟨j.val % 32, Nat.mod_lt _ (by decide)⟩) ⟨j.val % 32, Nat.mod_lt _ (by decide)⟩ h0 n0 Z0 rfl) hZ (hw _ (List.mem_of_getElem? (i := 67) rfl)) (hw _ (List.mem_of_getElem? (i := 25) rfl)) (by decide) (by decide)) (g := (mkF m 22 #[.val (.long (own_pw j)), .second, .val (.int (own_pi ⟨j.val % 32, Nat.mod_lt _ (by decide)⟩))] [(.int (own_pi ⟨j.val % 32, Nat.mod_lt _ (by decide)⟩))])) rfl (by rw [hml]; rfl) (argsL := [(.int (own_pi ⟨j.val % 32, Nat.mod_lt _ (by decide)⟩))]) (rest := []) (lenOf pd__I_I rfl) rfl (by show 2 * 0 + _ ≤ _; exact Nat.le_of_eq rfl) (hb hby d11_22) (fun _ _ => ⟨rfl, e0, (Nat.le_of_ble_eq_true rfl), (Nat.le_of_ble_eq_true rfl)⟩)
    dsimp only [Pt.U, Pt.locs, Pt.cells, Pt.slots] at X11 l11 y11 z11 st11 hQ11
    subst l11 y11 z11
    obtain ⟨rfl, Nq11, eq11⟩ := hQ11
    have N11 := Fr.app N0 Nq11
    refine own_go st11 ?_
    show own_G p.tables e below _ (T11.setTop (mkF m 25 #[.val (.long (own_pw j)), .second, .val (.int (own_pi ⟨j.val % 32, Nat.mod_lt _ (by decide)⟩))] [(.int (Int32.ofNat (j.val % 32)))]))
    exact own_retI X11 hx Bd.returns hlk (hb hby d11_25) (Nat.le_of_ble_eq_true rfl) (Nat.le_of_ble_eq_true rfl) eq11 ⟨by rw [Nat.mod_eq_of_lt hj], N11, rfl⟩
  · show own_G p.tables e below _ (s₁.setTop (mkF m 3 #[.val (.long (own_pw j)), .second, .val (.int ((own_pw j).toInt32))] []))
    refine own_go (fun _ kt => XS.iloadN X0.here hx rfl (hb hby d11_3) rfl kt) ?_
    show own_G p.tables e below _ (s₁.setTop (mkF m 4 #[.val (.long (own_pw j)), .second, .val (.int ((own_pw j).toInt32))] [(.int ((own_pw j).toInt32))]))
    refine own_go (fun _ kt => XS.ifNo X0.here hx rfl (hb hby d11_4) rfl ((if0 _ _).trans (teq ((own_pwhi j hj).1 : ((own_pw j).toInt32) = (0 : Int32))).2) kt) ?_
    show own_G p.tables e below _ (s₁.setTop (mkF m 7 #[.val (.long (own_pw j)), .second, .val (.int ((own_pw j).toInt32))] []))
    refine own_go (fun _ kt => XS.bipush X0.here hx rfl (hb hby d11_7) kt) ?_
    show own_G p.tables e below _ (s₁.setTop (mkF m 9 #[.val (.long (own_pw j)), .second, .val (.int ((own_pw j).toInt32))] [(.int (32 : Int32))]))
    refine own_go (fun _ kt => XS.lloadN X0.here hx rfl (hb hby d11_9) rfl kt) ?_
    show own_G p.tables e below _ (s₁.setTop (mkF m 10 #[.val (.long (own_pw j)), .second, .val (.int ((own_pw j).toInt32))] [(.long (own_pw j)), (.int (32 : Int32))]))
    refine own_go (fun _ kt => XS.bipush X0.here hx rfl (hb hby d11_10) kt) ?_
    show own_G p.tables e below _ (s₁.setTop (mkF m 12 #[.val (.long (own_pw j)), .second, .val (.int ((own_pw j).toInt32))] [(.int (32 : Int32)), (.long (own_pw j)), (.int (32 : Int32))]))
    refine own_go (fun _ kt => XS.lushr X0.here hx rfl (hb hby d11_12) rfl kt) ?_
    show own_G p.tables e below _ (s₁.setTop (mkF m 13 #[.val (.long (own_pw j)), .second, .val (.int ((own_pw j).toInt32))] [(.long (((own_pw j).toUInt64 >>> ((32 : Int32) &&& 0x3f).toInt64.toUInt64).toInt64)), (.int (32 : Int32))]))
    refine own_go (fun _ kt => XS.l2i X0.here hx rfl (hb hby d11_13) rfl kt) ?_
    show own_G p.tables e below _ (s₁.setTop (mkF m 14 #[.val (.long (own_pw j)), .second, .val (.int ((own_pw j).toInt32))] [(.int ((((own_pw j).toUInt64 >>> ((32 : Int32) &&& 0x3f).toInt64.toUInt64).toInt64).toInt32)), (.int (32 : Int32))]))
    rw [(own_pwhi j hj).2]
    show own_G p.tables e below _ (s₁.setTop (mkF m 14 #[.val (.long (own_pw j)), .second, .val (.int ((own_pw j).toInt32))] [(.int (own_pi ⟨j.val - 32, by omega⟩)), (.int (32 : Int32))]))
    obtain ⟨_, _, ⟨T12, L12, k12, n12⟩, -, X12, ⟨Lc12, hQ12, l12, y12, z12⟩, st12⟩ := Jvm.LawKit.callS X0 hx (y := (⟨"java/lang/Integer", "numberOfTrailingZeros", "(I)I"⟩ : MethodName)) hown (mvT hZ (hw _ (List.mem_of_getElem? (i := 65) rfl))) (mvT hZ (hw _ (List.mem_of_getElem? (i := 66) rfl))) (mvT hZ (hw _ (List.mem_of_getElem? (i := 25) rfl))) (mvT hZ (hw _ (List.mem_of_getElem? (i := 67) rfl))) (by decide) (backOf (W := 1) (rm_ntzI l Z a0 hw [] (own_pi ⟨j.val - 32, by omega⟩) ⟨j.val - 32, by omega⟩ h0 n0 Z0 rfl) hZ (hw _ (List.mem_of_getElem? (i := 67) rfl)) (hw _ (List.mem_of_getElem? (i := 25) rfl)) (by decide) (by decide)) (g := (mkF m 14 #[.val (.long (own_pw j)), .second, .val (.int ((own_pw j).toInt32))] [(.int (own_pi ⟨j.val - 32, by omega⟩)), (.int (32 : Int32))])) rfl (by rw [hml]; rfl) (argsL := [(.int (own_pi ⟨j.val - 32, by omega⟩))]) (rest := [(.int (32 : Int32))]) (lenOf pd__I_I rfl) rfl (by show 2 * 0 + _ ≤ _; exact Nat.le_of_eq rfl) (hb hby d11_14) (fun _ _ => ⟨rfl, e0, (Nat.le_of_ble_eq_true rfl), (Nat.le_of_ble_eq_true rfl)⟩)
    dsimp only [Pt.U, Pt.locs, Pt.cells, Pt.slots] at X12 l12 y12 z12 st12 hQ12
    subst l12 y12 z12
    obtain ⟨rfl, Nq12, eq12⟩ := hQ12
    have N12 := Fr.app N0 Nq12
    refine own_go st12 ?_
    show own_G p.tables e below _ (T12.setTop (mkF m 17 #[.val (.long (own_pw j)), .second, .val (.int ((own_pw j).toInt32))] [(.int (Int32.ofNat (j.val - 32))), (.int (32 : Int32))]))
    refine own_go (fun _ kt => XS.iadd X12.here hx rfl (hb hby d11_17) rfl kt) ?_
    show own_G p.tables e below _ (T12.setTop (mkF m 18 #[.val (.long (own_pw j)), .second, .val (.int ((own_pw j).toInt32))] [(.int ((32 : Int32) + (Int32.ofNat (j.val - 32))))]))
    refine own_go (fun _ kt => XS.goto X12.here hx rfl (pc0 := 18) (pc' := 25) rfl (hb hby d11_18) (by decide) (by decide) kt) ?_
    show own_G p.tables e below _ (T12.setTop (mkF m 25 #[.val (.long (own_pw j)), .second, .val (.int ((own_pw j).toInt32))] [(.int ((32 : Int32) + (Int32.ofNat (j.val - 32))))]))
    exact own_retI X12 hx Bd.returns hlk (hb hby d11_25) (Nat.le_of_ble_eq_true rfl) (Nat.le_of_ble_eq_true rfl) eq12 ⟨congrArg (fun z => some (Value.int z)) (own_add32 hj), N12, rfl⟩
theorem own_m {r : Int32} {sp : Int} (hr : r.toInt = max 64 sp) (h1 : 1 ≤ sp) (h2 : sp ≤ 1024) : ∃ m : Fin 1024, 63 ≤ m.val ∧ sp ≤ (m.val : Int) + 1 ∧ r.toInt64 - (1 : Int64) = Int64.ofNat m.val := by
  refine ⟨⟨(r.toInt - 1).toNat, by omega⟩, by show 63 ≤ (r.toInt - 1).toNat; omega, by show sp ≤ ((r.toInt - 1).toNat : Int) + 1; omega, ?_⟩
  apply Int64.toInt_inj.mp
  show _ = (Int64.ofNat (r.toInt - 1).toNat).toInt
  have a := c_lsub r.toInt64 1
  have b := c_i2l r
  have c := rng64 (r.toInt64 - 1)
  have d : (1 : Int64).toInt = 1 := rfl
  rw [Int64.toInt_ofNat_of_lt (by omega)]
  omega
theorem own_k {m : Fin 1024} (h : 63 ≤ m.val) : ∃ S : Nat, own_okS S ∧ m.val < S ∧ (own_hb m.val) <<< ((1 : Int32) &&& 0x3f).toInt64 = Int64.ofNat S := by
  obtain ⟨k, h1, h2, h3⟩ := own_hb_ok m h
  refine ⟨2 ^ k.val, ?_, h3, h2⟩
  have : ∀ k : Fin 11, 6 ≤ k.val → own_okS (2 ^ k.val) := by unfold own_okS; decide
  exact this k h1
theorem d1_0 : decode prog_76_method_1_code 0 = .ok (.aload_n 0, 1) := by decide +kernel
theorem d1_1 : decode prog_76_method_1_code 1 = .ok (.invokespecial 1, 3) := by decide +kernel
theorem d1_4 : decode prog_76_method_1_code 4 = .ok (.aload_n 0, 1) := by decide +kernel
theorem d1_5 : decode prog_76_method_1_code 5 = .ok (.bipush 64, 2) := by decide +kernel
theorem d1_7 : decode prog_76_method_1_code 7 = .ok (.iload_n 1, 1) := by decide +kernel
theorem d1_8 : decode prog_76_method_1_code 8 = .ok (.invokestatic 9, 3) := by decide +kernel
theorem pd__II_I : parseMethodDescriptor "(II)I" = some ⟨[.int, .int], some .int⟩ := by decide +kernel
theorem d1_11 : decode prog_76_method_1_code 11 = .ok (.i2l, 1) := by decide +kernel
theorem d1_12 : decode prog_76_method_1_code 12 = .ok (.lconst 1, 1) := by decide +kernel
theorem d1_13 : decode prog_76_method_1_code 13 = .ok (.lsub, 1) := by decide +kernel
theorem d1_14 : decode prog_76_method_1_code 14 = .ok (.invokestatic 15, 3) := by decide +kernel
theorem pd__J_J : parseMethodDescriptor "(J)J" = some ⟨[.long], some .long⟩ := by decide +kernel
theorem d1_17 : decode prog_76_method_1_code 17 = .ok (.iconst 1, 1) := by decide +kernel
theorem d1_18 : decode prog_76_method_1_code 18 = .ok (.lshl, 1) := by decide +kernel
theorem d1_19 : decode prog_76_method_1_code 19 = .ok (.putfield 19, 3) := by decide +kernel
theorem d1_22 : decode prog_76_method_1_code 22 = .ok (.return_, 1) := by decide +kernel
theorem pn_com_example_brisk_match_briskmatch_search_StartRing : plainName "com/example/brisk_match/briskmatch/search/StartRing" = true := by first | (simp [plainName, overriddenIn]; done) | decide +kernel
theorem ef_init (m : MethodId) (p0 : Addr) (p1 : Int32) : entryFrame m #[(.ref p0), (.int p1)] 2 = mkF m 0 #[.val (.ref p0), .val (.int p1)] [] := by first | (simp [entryFrame, mkF, argsToLocals, Value.category]; done) | rfl
def Q_init (Z : State) (p0 : Addr) (p1 : Int32) (h0 : Heap) (n0 : Nat) (v : Option Value) (h : Heap) (L : List Loc) : Prop := v = none ∧ Fr n0 L ∧ Keep h0 h [p0] ∧ ∃ S : Nat, own_okS S ∧ p1.toInt ≤ (S : Int) ∧ Exa Z h p0 "com/example/brisk_match/briskmatch/search/StartRing" ∧ Fld Z h p0 "com/example/brisk_match/briskmatch/search/StartRing" "size" "J" (.long (Int64.ofNat S)) ∧ Fld Z h p0 "com/example/brisk_match/briskmatch/search/StartRing" "patterns" "[I" .null ∧ Fld Z h p0 "com/example/brisk_match/briskmatch/search/StartRing" "used" "[J" .null ∧ Fld Z h p0 "com/example/brisk_match/briskmatch/search/StartRing" "count" "I" (.int (0 : Int32))
set_option maxRecDepth 65536 in
set_option maxHeartbeats 40000000 in
theorem rm_init (l : Launch) (Z : State) (a0 : Array Value) (hw : ∀ d ∈ tables_1, d.before a0 Z = true) (ws : List Jvm.Cond) (p0 : Addr) (p1 : Int32) (h0 : Heap) (n0 : Nat) (Z0 : n0 ≤ h0.size) (hsp : 1 ≤ p1.toInt ∧ p1.toInt ≤ 1024) (E0 : Exa Z h0 p0 "com/example/brisk_match/briskmatch/search/StartRing") (g0 : n0 ≤ p0) (F_size : Fld Z h0 p0 "com/example/brisk_match/briskmatch/search/StartRing" "size" "J" (.long (0 : Int64))) (F_patterns : Fld Z h0 p0 "com/example/brisk_match/briskmatch/search/StartRing" "patterns" "[I" .null) (F_used : Fld Z h0 p0 "com/example/brisk_match/briskmatch/search/StartRing" "used" "[J" .null) (F_count : Fld Z h0 p0 "com/example/brisk_match/briskmatch/search/StartRing" "count" "I" (.int (0 : Int32))) :
    MetFree l (⟨"com/example/brisk_match/briskmatch/search/StartRing", "<init>", "(I)V"⟩ : MethodName) (head1 (Jvm.Cond.code (⟨"com/example/brisk_match/briskmatch/search/StartRing", "<init>", "(I)V"⟩ : MethodName) prog_76_method_1_code 2 none :: ws) ({ frames := 3, cells := 0, slots := 0, locals := 46 } : Room)) (fun a U => a = #[(.ref p0), (.int p1)] ∧ Z.Warmed39 U.vm ∧ U.heap = h0) (fun _ _ _ _ _ => True) (fun _ U o U' => ∃ v L, o = .returned v ∧ Q_init Z p0 p1 h0 n0 v U'.heap L ∧ FrameEnd U o U' L ({ frames := 3, cells := 0, slots := 0, locals := 46 } : Room).cells ({ frames := 3, cells := 0, slots := 0, locals := 46 } : Room).slots) := by
  refine MetFree.of_bodySF (plainFor_of_name pn_com_example_brisk_match_briskmatch_search_StartRing) hisR ?_
  intro p e s m args below meth kc s₁ Bd hml0 hP hK
  obtain ⟨rfl, hZ, hh⟩ := hP
  have hx := Bd.exec
  have hby := Bd.bytes
  have hlk := Bd.notSynchronized
  have hml : kc.maxLocals = 2 := hml0
  have hown : s.vm.findClass "com/example/brisk_match/briskmatch/search/StartRing" = some m.cls := findClass_of_methodNamed Bd.named
  have hnm := (name_of_methodNamed Bd.named Bd.method).1
  have X0 : Stand p l e ({ frames := 3, cells := 0, slots := 0, locals := 46 } : Room) s m #[(.ref p0), (.int p1)] below meth kc s₁ [] 0 0 := Stand.of_body Bd
  have e0 : s₁.heap = h0 := by rw [← hh, Bd.state]; rfl
  have N0 := Fr.nil n0
  show own_G p.tables e below (own_E below s ({ frames := 3, cells := 0, slots := 0, locals := 46 } : Room).cells ({ frames := 3, cells := 0, slots := 0, locals := 46 } : Room).slots (Q_init Z p0 p1 h0 n0)) _
  refine own_go (fun _ k => castTop (ef_init m p0 p1) k) ?_
  show own_G p.tables e below _ (s₁.setTop (mkF m 0 #[.val (.ref p0), .val (.int p1)] []))
  refine own_go (fun _ kt => XS.aloadN X0.here hx rfl (hb hby d1_0) rfl rfl kt) ?_
  show own_G p.tables e below _ (s₁.setTop (mkF m 1 #[.val (.ref p0), .val (.int p1)] [(.ref p0)]))
  obtain ⟨T13, X13, e13, st13⟩ := initO X0 hx hZ hown (hw _ (List.mem_of_getElem? (i := 8) rfl)) (hw _ (List.mem_of_getElem? (i := 9) rfl)) (hw _ (List.mem_of_getElem? (i := 10) rfl)) e0 (g := (mkF m 1 #[.val (.ref p0), .val (.int p1)] [(.ref p0)])) rfl (by rw [hml]; rfl) rfl (hb hby d1_1) (by decide) (W := 0) (by show 2 * 0 + _ ≤ _; exact Nat.le_of_eq rfl) (by decide)
  refine own_go st13 ?_
  show own_G p.tables e below _ (T13.setTop (mkF m 4 #[.val (.ref p0), .val (.int p1)] []))
  refine own_go (fun _ kt => XS.aloadN X13.here hx rfl (hb hby d1_4) rfl rfl kt) ?_
  show own_G p.tables e below _ (T13.setTop (mkF m 5 #[.val (.ref p0), .val (.int p1)] [(.ref p0)]))
  refine own_go (fun _ kt => XS.bipush X13.here hx rfl (hb hby d1_5) kt) ?_
  show own_G p.tables e below _ (T13.setTop (mkF m 7 #[.val (.ref p0), .val (.int p1)] [(.int (64 : Int32)), (.ref p0)]))
  refine own_go (fun _ kt => XS.iloadN X13.here hx rfl (hb hby d1_7) rfl kt) ?_
  show own_G p.tables e below _ (T13.setTop (mkF m 8 #[.val (.ref p0), .val (.int p1)] [(.int p1), (.int (64 : Int32)), (.ref p0)]))
  obtain ⟨_, _, ⟨T14, L14, k14, n14⟩, -, X14, ⟨Lc14, hQ14, l14, y14, z14⟩, st14⟩ := Jvm.LawKit.callS X13 hx (y := (⟨"java/lang/Math", "max", "(II)I"⟩ : MethodName)) hown (mvT hZ (hw _ (List.mem_of_getElem? (i := 11) rfl))) (mvT hZ (hw _ (List.mem_of_getElem? (i := 12) rfl))) (mvT hZ (hw _ (List.mem_of_getElem? (i := 13) rfl))) (mvT hZ (hw _ (List.mem_of_getElem? (i := 14) rfl))) (by decide) (backOf (W := 1) (rm_maxI l Z a0 hw [] (64 : Int32) p1  h0 n0 Z0 ) hZ (hw _ (List.mem_of_getElem? (i := 14) rfl)) (hw _ (List.mem_of_getElem? (i := 13) rfl)) (by decide) (by decide)) (g := (mkF m 8 #[.val (.ref p0), .val (.int p1)] [(.int p1), (.int (64 : Int32)), (.ref p0)])) rfl (by rw [hml]; rfl) (argsL := [(.int (64 : Int32)), (.int p1)]) (rest := [(.ref p0)]) (lenOf pd__II_I rfl) rfl (by show 2 * 0 + _ ≤ _; exact Nat.le_of_eq rfl) (hb hby d1_8) (fun _ _ => ⟨rfl, e13, (Nat.le_of_ble_eq_true rfl), (Nat.le_of_ble_eq_true rfl)⟩)
  dsimp only [Pt.U, Pt.locs, Pt.cells, Pt.slots] at X14 l14 y14 z14 st14 hQ14
  subst l14 y14 z14
  obtain ⟨r, rfl, Nq14, eq14, hr⟩ := hQ14
  have N14 := Fr.app N0 Nq14
  refine own_go st14 ?_
  obtain ⟨mm, hm, hms, he⟩ := own_m (sp := p1.toInt) (by rw [hr]; rfl) hsp.1 hsp.2
  show own_G p.tables e below _ (T14.setTop (mkF m 11 #[.val (.ref p0), .val (.int p1)] [(.int r), (.ref p0)]))
  refine own_go (fun _ kt => XS.i2l X14.here hx rfl (hb hby d1_11) rfl kt) ?_
  show own_G p.tables e below _ (T14.setTop (mkF m 12 #[.val (.ref p0), .val (.int p1)] [(.long (r.toInt64)), (.ref p0)]))
  refine own_go (fun _ kt => XS.lconst X14.here hx rfl (hb hby d1_12) kt) ?_
  show own_G p.tables e below _ (T14.setTop (mkF m 13 #[.val (.ref p0), .val (.int p1)] [(.long (1 : Int64)), (.long (r.toInt64)), (.ref p0)]))
  refine own_go (fun _ kt => XS.lsub X14.here hx rfl (hb hby d1_13) rfl kt) ?_
  show own_G p.tables e below _ (T14.setTop (mkF m 14 #[.val (.ref p0), .val (.int p1)] [(.long ((r.toInt64) - (1 : Int64))), (.ref p0)]))
  rw [he]
  show own_G p.tables e below _ (T14.setTop (mkF m 14 #[.val (.ref p0), .val (.int p1)] [(.long (Int64.ofNat mm.val)), (.ref p0)]))
  obtain ⟨_, _, ⟨T15, L15, k15, n15⟩, -, X15, ⟨Lc15, hQ15, l15, y15, z15⟩, st15⟩ := Jvm.LawKit.callS X14 hx (y := (⟨"java/lang/Long", "highestOneBit", "(J)J"⟩ : MethodName)) hown (mvT hZ (hw _ (List.mem_of_getElem? (i := 15) rfl))) (mvT hZ (hw _ (List.mem_of_getElem? (i := 16) rfl))) (mvT hZ (hw _ (List.mem_of_getElem? (i := 17) rfl))) (mvT hZ (hw _ (List.mem_of_getElem? (i := 18) rfl))) (by decide) (backOf (W := 1) (rm_hob l Z a0 hw [] (Int64.ofNat mm.val) mm h0 n0 Z0 rfl hm) hZ (hw _ (List.mem_of_getElem? (i := 18) rfl)) (hw _ (List.mem_of_getElem? (i := 17) rfl)) (by decide) (by decide)) (g := (mkF m 14 #[.val (.ref p0), .val (.int p1)] [(.long (Int64.ofNat mm.val)), (.ref p0)])) rfl (by rw [hml]; rfl) (argsL := [(.long (Int64.ofNat mm.val))]) (rest := [(.ref p0)]) (lenOf pd__J_J rfl) rfl (by show 2 * 0 + _ ≤ _; exact Nat.le_of_eq rfl) (hb hby d1_14) (fun _ _ => ⟨rfl, eq14, (Nat.le_of_ble_eq_true rfl), (Nat.le_of_ble_eq_true rfl)⟩)
  dsimp only [Pt.U, Pt.locs, Pt.cells, Pt.slots] at X15 l15 y15 z15 st15 hQ15
  subst l15 y15 z15
  obtain ⟨rfl, Nq15, eq15⟩ := hQ15
  have N15 := Fr.app N14 Nq15
  refine own_go st15 ?_
  obtain ⟨S, ok, hS, hsz⟩ := own_k hm
  show own_G p.tables e below _ (T15.setTop (mkF m 17 #[.val (.ref p0), .val (.int p1)] [(.long (own_hb mm.val)), (.ref p0)]))
  refine own_go (fun _ kt => XS.iconst X15.here hx rfl (hb hby d1_17) kt) ?_
  show own_G p.tables e below _ (T15.setTop (mkF m 18 #[.val (.ref p0), .val (.int p1)] [(.int (1 : Int32)), (.long (own_hb mm.val)), (.ref p0)]))
  refine own_go (fun _ kt => XS.lshl X15.here hx rfl (hb hby d1_18) rfl kt) ?_
  show own_G p.tables e below _ (T15.setTop (mkF m 19 #[.val (.ref p0), .val (.int p1)] [(.long ((own_hb mm.val) <<< ((1 : Int32) &&& 0x3f).toInt64)), (.ref p0)]))
  rw [hsz]
  show own_G p.tables e below _ (T15.setTop (mkF m 19 #[.val (.ref p0), .val (.int p1)] [(.long (Int64.ofNat S)), (.ref p0)]))
  obtain ⟨T16, h16, X16, e16, W16, st16⟩ := putF X15 hx hZ hown (host := "") (Or.inl (hw _ (List.mem_of_getElem? (i := 28) rfl))) Via.refl eq15 F_size E0 (Or.inr ⟨(hw _ (List.mem_of_getElem? (i := 29) rfl)), rfl, hnm⟩) (hw _ (List.mem_of_getElem? (i := 3) rfl)) (ty := .long) (by decide) rfl rfl (g := (mkF m 19 #[.val (.ref p0), .val (.int p1)] [(.long (Int64.ofNat S)), (.ref p0)])) rfl rfl (hb hby d1_19)
  refine own_go st16 ?_
  have N16 := Fr.snoc X16 N15 g0
  have Z16 : n0 ≤ h16.size := Nat.le_trans Z0 (Keep.of_wr W16).1
  have K16 : Keep h0 h16 [p0] := (Keep.refl h0 [p0]).wr W16 (Or.inl (List.mem_of_getElem? (i := 0) rfl))
  have Fw16 := Fld.same W16 F_size
  have u17 := (E0.wr W16)
  have u18 := (F_patterns.other W16 (Or.inr (slot_ne (Or.inl (hw _ (List.mem_of_getElem? (i := 36) rfl))) (Or.inr (hw _ (List.mem_of_getElem? (i := 29) rfl))) (by decide) (t := (.array .int)) (t' := .long) (by decide) (by decide))))
  have u19 := (F_used.other W16 (Or.inr (slot_ne (Or.inl (hw _ (List.mem_of_getElem? (i := 42) rfl))) (Or.inr (hw _ (List.mem_of_getElem? (i := 29) rfl))) (by decide) (t := (.array .long)) (t' := .long) (by decide) (by decide))))
  have u20 := (F_count.other W16 (Or.inr (slot_ne (Or.inl (hw _ (List.mem_of_getElem? (i := 44) rfl))) (Or.inr (hw _ (List.mem_of_getElem? (i := 29) rfl))) (by decide) (t := .int) (t' := .long) (by decide) (by decide))))
  show own_G p.tables e below _ (T16.setTop (mkF m 22 #[.val (.ref p0), .val (.int p1)] []))
  exact own_retV X16 hx Bd.returns hlk (hb hby d1_22) (Nat.le_of_ble_eq_true rfl) (Nat.le_of_ble_eq_true rfl) e16 ⟨rfl, N16, K16, S, ok, by omega, u17, Fw16, u18, u19, u20⟩
theorem d7_0 : decode prog_76_method_3_code 0 = .ok (.aload_n 0, 1) := by decide +kernel
theorem d7_1 : decode prog_76_method_3_code 1 = .ok (.getfield 29, 3) := by decide +kernel
theorem d7_4 : decode prog_76_method_3_code 4 = .ok (.ifnonnull 50, 3) := by decide +kernel
theorem d7_54 : decode prog_76_method_3_code 54 = .ok (.lload_n 1, 1) := by decide +kernel
theorem d7_55 : decode prog_76_method_3_code 55 = .ok (.l2i, 1) := by decide +kernel
theorem d7_56 : decode prog_76_method_3_code 56 = .ok (.aload_n 0, 1) := by decide +kernel
theorem d7_57 : decode prog_76_method_3_code 57 = .ok (.getfield 29, 3) := by decide +kernel
theorem d7_60 : decode prog_76_method_3_code 60 = .ok (.arraylength, 1) := by decide +kernel
theorem d7_61 : decode prog_76_method_3_code 61 = .ok (.iconst 1, 1) := by decide +kernel
theorem d7_62 : decode prog_76_method_3_code 62 = .ok (.isub, 1) := by decide +kernel
theorem d7_63 : decode prog_76_method_3_code 63 = .ok (.iand, 1) := by decide +kernel
theorem d7_64 : decode prog_76_method_3_code 64 = .ok (.istore 4, 2) := by decide +kernel
theorem d7_66 : decode prog_76_method_3_code 66 = .ok (.aload_n 0, 1) := by decide +kernel
theorem d7_67 : decode prog_76_method_3_code 67 = .ok (.getfield 44, 3) := by decide +kernel
theorem d7_70 : decode prog_76_method_3_code 70 = .ok (.iload 4, 2) := by decide +kernel
theorem d7_72 : decode prog_76_method_3_code 72 = .ok (.bipush 6, 2) := by decide +kernel
theorem d7_74 : decode prog_76_method_3_code 74 = .ok (.iushr, 1) := by decide +kernel
theorem d7_75 : decode prog_76_method_3_code 75 = .ok (.laload, 1) := by decide +kernel
theorem d7_76 : decode prog_76_method_3_code 76 = .ok (.lconst 1, 1) := by decide +kernel
theorem d7_77 : decode prog_76_method_3_code 77 = .ok (.iload 4, 2) := by decide +kernel
theorem d7_79 : decode prog_76_method_3_code 79 = .ok (.lshl, 1) := by decide +kernel
theorem d7_80 : decode prog_76_method_3_code 80 = .ok (.land, 1) := by decide +kernel
theorem d7_81 : decode prog_76_method_3_code 81 = .ok (.lconst 0, 1) := by decide +kernel
theorem d7_82 : decode prog_76_method_3_code 82 = .ok (.lcmp, 1) := by decide +kernel
theorem d7_83 : decode prog_76_method_3_code 83 = .ok (.ifCond .ne 30, 3) := by decide +kernel
theorem d7_86 : decode prog_76_method_3_code 86 = .ok (.aload_n 0, 1) := by decide +kernel
theorem d7_87 : decode prog_76_method_3_code 87 = .ok (.getfield 44, 3) := by decide +kernel
theorem d7_90 : decode prog_76_method_3_code 90 = .ok (.iload 4, 2) := by decide +kernel
theorem d7_92 : decode prog_76_method_3_code 92 = .ok (.bipush 6, 2) := by decide +kernel
theorem d7_94 : decode prog_76_method_3_code 94 = .ok (.iushr, 1) := by decide +kernel
theorem d7_95 : decode prog_76_method_3_code 95 = .ok (.dup2, 1) := by decide +kernel
theorem d7_96 : decode prog_76_method_3_code 96 = .ok (.laload, 1) := by decide +kernel
theorem d7_97 : decode prog_76_method_3_code 97 = .ok (.lconst 1, 1) := by decide +kernel
theorem d7_98 : decode prog_76_method_3_code 98 = .ok (.iload 4, 2) := by decide +kernel
theorem d7_100 : decode prog_76_method_3_code 100 = .ok (.lshl, 1) := by decide +kernel
theorem d7_101 : decode prog_76_method_3_code 101 = .ok (.lor, 1) := by decide +kernel
theorem d7_102 : decode prog_76_method_3_code 102 = .ok (.lastore, 1) := by decide +kernel
theorem d7_103 : decode prog_76_method_3_code 103 = .ok (.aload_n 0, 1) := by decide +kernel
theorem d7_104 : decode prog_76_method_3_code 104 = .ok (.dup, 1) := by decide +kernel
theorem d7_105 : decode prog_76_method_3_code 105 = .ok (.getfield 25, 3) := by decide +kernel
theorem d7_108 : decode prog_76_method_3_code 108 = .ok (.iconst 1, 1) := by decide +kernel
theorem d7_109 : decode prog_76_method_3_code 109 = .ok (.iadd, 1) := by decide +kernel
theorem d7_110 : decode prog_76_method_3_code 110 = .ok (.putfield 25, 3) := by decide +kernel
theorem d7_113 : decode prog_76_method_3_code 113 = .ok (.aload_n 0, 1) := by decide +kernel
theorem d7_114 : decode prog_76_method_3_code 114 = .ok (.getfield 29, 3) := by decide +kernel
theorem d7_117 : decode prog_76_method_3_code 117 = .ok (.iload 4, 2) := by decide +kernel
theorem d7_119 : decode prog_76_method_3_code 119 = .ok (.iload_n 3, 1) := by decide +kernel
theorem d7_120 : decode prog_76_method_3_code 120 = .ok (.iastore, 1) := by decide +kernel
theorem d7_121 : decode prog_76_method_3_code 121 = .ok (.return_, 1) := by decide +kernel
theorem ef_putN (m : MethodId) (p0 : Addr) (p1 : Int64) (p2 : Int32) : entryFrame m #[(.ref p0), (.long p1), (.int p2)] 5 = mkF m 0 #[.val (.ref p0), .val (.long p1), .second, .val (.int p2), .unset] [] := by first | (simp [entryFrame, mkF, argsToLocals, Value.category]; done) | rfl
def Q_putN (Z : State) (p0 : Addr) (p1 : Int64) (p2 : Int32) (wp : Addr) (wu : Addr) (S : Nat) (c' : Int32) (f : Nat → Int32) (u : Nat → Int64) (P : Nat → Bool) (sN : Nat) (h0 : Heap) (n0 : Nat) (v : Option Value) (h : Heap) (L : List Loc) : Prop := v = none ∧ Fr n0 L ∧ n0 ≤ h.size ∧ ∃ u', own_R Z h n0 p0 wp wu S (c' + 1) (own_updI f sN p2) u' ∧ own_U u' (S / 64) (fun j => P j || decide (j = sN))
set_option maxRecDepth 65536 in
set_option maxHeartbeats 40000000 in
theorem rm_putN (l : Launch) (Z : State) (a0 : Array Value) (hw : ∀ d ∈ tables_1, d.before a0 Z = true) (ws : List Jvm.Cond) (p0 : Addr) (p1 : Int64) (p2 : Int32) (wp : Addr) (wu : Addr) (S : Nat) (c' : Int32) (f : Nat → Int32) (u : Nat → Int64) (P : Nat → Bool) (sN : Nat) (h0 : Heap) (n0 : Nat) (Z0 : n0 ≤ h0.size) (R : own_R Z h0 n0 p0 wp wu S c' f u) (ok : own_okS S) (U : own_U u (S / 64) P) (hs : (sN : Int) = p1.toInt % (S : Int)) (hP : P sN = false) :
    MetFree l (⟨"com/example/brisk_match/briskmatch/search/StartRing", "put", "(JI)V"⟩ : MethodName) (head1 (Jvm.Cond.code (⟨"com/example/brisk_match/briskmatch/search/StartRing", "put", "(JI)V"⟩ : MethodName) prog_76_method_3_code 5 none :: ws) ({ frames := 0, cells := 0, slots := 0, locals := 0 } : Room)) (fun a U => a = #[(.ref p0), (.long p1), (.int p2)] ∧ Z.Warmed39 U.vm ∧ U.heap = h0) (fun _ _ _ _ _ => True) (fun _ U o U' => ∃ v L, o = .returned v ∧ Q_putN Z p0 p1 p2 wp wu S c' f u P sN h0 n0 v U'.heap L ∧ FrameEnd U o U' L ({ frames := 0, cells := 0, slots := 0, locals := 0 } : Room).cells ({ frames := 0, cells := 0, slots := 0, locals := 0 } : Room).slots) := by
  refine MetFree.of_bodySF (plainFor_of_name pn_com_example_brisk_match_briskmatch_search_StartRing) hisR ?_
  intro p e s m args below meth kc s₁ Bd hml0 hP hK
  obtain ⟨rfl, hZ, hh⟩ := hP
  have hx := Bd.exec
  have hby := Bd.bytes
  have hlk := Bd.notSynchronized
  have hml : kc.maxLocals = 5 := hml0
  have hown : s.vm.findClass "com/example/brisk_match/briskmatch/search/StartRing" = some m.cls := findClass_of_methodNamed Bd.named
  have hnm := (name_of_methodNamed Bd.named Bd.method).1
  have X0 : Stand p l e ({ frames := 0, cells := 0, slots := 0, locals := 0 } : Room) s m #[(.ref p0), (.long p1), (.int p2)] below meth kc s₁ [] 0 0 := Stand.of_body Bd
  have e0 : s₁.heap = h0 := by rw [← hh, Bd.state]; rfl
  have N0 := Fr.nil n0
  show own_G p.tables e below (own_E below s ({ frames := 0, cells := 0, slots := 0, locals := 0 } : Room).cells ({ frames := 0, cells := 0, slots := 0, locals := 0 } : Room).slots (Q_putN Z p0 p1 p2 wp wu S c' f u P sN h0 n0)) _
  refine own_go (fun _ k => castTop (ef_putN m p0 p1 p2) k) ?_
  obtain ⟨E_, F_s, F_p, F_u, F_c, V_p, V_u, nb1, nb2, n12, gb, gp, gu⟩ := R
  show own_G p.tables e below _ (s₁.setTop (mkF m 0 #[.val (.ref p0), .val (.long p1), .second, .val (.int p2), .unset] []))
  refine own_go (fun _ kt => XS.aloadN X0.here hx rfl (hb hby d7_0) rfl rfl kt) ?_
  show own_G p.tables e below _ (s₁.setTop (mkF m 1 #[.val (.ref p0), .val (.long p1), .second, .val (.int p2), .unset] [(.ref p0)]))
  obtain ⟨T21, X21, e21, st21⟩ := getF X0 hx hZ hown (host := "") (Or.inl (hw _ (List.mem_of_getElem? (i := 35) rfl))) Via.refl e0 F_p (g := (mkF m 1 #[.val (.ref p0), .val (.long p1), .second, .val (.int p2), .unset] [(.ref p0)])) rfl rfl (hb hby d7_1)
  refine own_go st21 ?_
  show own_G p.tables e below _ (T21.setTop (mkF m 4 #[.val (.ref p0), .val (.long p1), .second, .val (.int p2), .unset] [(.ref wp)]))
  refine own_go (fun _ kt => XS.ifnonnullYes X21.here hx rfl (pc0 := 4) (pc' := 54) rfl (hb hby d7_4) rfl (by decide) (by decide) kt) ?_
  obtain ⟨hs1, hs2, hs3, hs4⟩ := own_slt ok hs
  have hc1 := own_clamp (i := sN) (by omega)
  have hc2 := own_clamp (i := sN / 64) (by omega)
  have hi1 := own_nat (i := sN) (by omega)
  have hi2 := own_nat (i := sN / 64) (by omega)
  show own_G p.tables e below _ (T21.setTop (mkF m 54 #[.val (.ref p0), .val (.long p1), .second, .val (.int p2), .unset] []))
  refine own_go (fun _ kt => XS.lloadN X21.here hx rfl (hb hby d7_54) rfl kt) ?_
  show own_G p.tables e below _ (T21.setTop (mkF m 55 #[.val (.ref p0), .val (.long p1), .second, .val (.int p2), .unset] [(.long p1)]))
  refine own_go (fun _ kt => XS.l2i X21.here hx rfl (hb hby d7_55) rfl kt) ?_
  show own_G p.tables e below _ (T21.setTop (mkF m 56 #[.val (.ref p0), .val (.long p1), .second, .val (.int p2), .unset] [(.int (p1.toInt32))]))
  refine own_go (fun _ kt => XS.aloadN X21.here hx rfl (hb hby d7_56) rfl rfl kt) ?_
  show own_G p.tables e below _ (T21.setTop (mkF m 57 #[.val (.ref p0), .val (.long p1), .second, .val (.int p2), .unset] [(.ref p0), (.int (p1.toInt32))]))
  obtain ⟨T22, X22, e22, st22⟩ := getF X21 hx hZ hown (host := "") (Or.inl (hw _ (List.mem_of_getElem? (i := 35) rfl))) Via.refl e21 F_p (g := (mkF m 57 #[.val (.ref p0), .val (.long p1), .second, .val (.int p2), .unset] [(.ref p0), (.int (p1.toInt32))])) rfl rfl (hb hby d7_57)
  refine own_go st22 ?_
  show own_G p.tables e below _ (T22.setTop (mkF m 60 #[.val (.ref p0), .val (.long p1), .second, .val (.int p2), .unset] [(.ref wp), (.int (p1.toInt32))]))
  refine own_go (own_len X22 hx hZ e22 V_p (z := (Int32.ofNat S)) (own_len32 ok) (g := (mkF m 60 #[.val (.ref p0), .val (.long p1), .second, .val (.int p2), .unset] [(.ref wp), (.int (p1.toInt32))])) rfl rfl (hb hby d7_60)) ?_
  show own_G p.tables e below _ (T22.setTop (mkF m 61 #[.val (.ref p0), .val (.long p1), .second, .val (.int p2), .unset] [(.int (Int32.ofNat S)), (.int (p1.toInt32))]))
  refine own_go (fun _ kt => XS.iconst X22.here hx rfl (hb hby d7_61) kt) ?_
  show own_G p.tables e below _ (T22.setTop (mkF m 62 #[.val (.ref p0), .val (.long p1), .second, .val (.int p2), .unset] [(.int (1 : Int32)), (.int (Int32.ofNat S)), (.int (p1.toInt32))]))
  refine own_go (fun _ kt => XS.isub X22.here hx rfl (hb hby d7_62) rfl kt) ?_
  show own_G p.tables e below _ (T22.setTop (mkF m 63 #[.val (.ref p0), .val (.long p1), .second, .val (.int p2), .unset] [(.int ((Int32.ofNat S) - (1 : Int32))), (.int (p1.toInt32))]))
  refine own_go (fun _ kt => XS.iand X22.here hx rfl (hb hby d7_63) rfl kt) ?_
  show own_G p.tables e below _ (T22.setTop (mkF m 64 #[.val (.ref p0), .val (.long p1), .second, .val (.int p2), .unset] [(.int ((p1.toInt32) &&& ((Int32.ofNat S) - (1 : Int32))))]))
  rw [own_slot ok hs]
  show own_G p.tables e below _ (T22.setTop (mkF m 64 #[.val (.ref p0), .val (.long p1), .second, .val (.int p2), .unset] [(.int (Int32.ofNat sN))]))
  refine own_go (fun _ kt => XS.istore X22.here hx rfl (hb hby d7_64) rfl (l' := #[.val (.ref p0), .val (.long p1), .second, .val (.int p2), .val (.int (Int32.ofNat sN))]) rfl kt) ?_
  show own_G p.tables e below _ (T22.setTop (mkF m 66 #[.val (.ref p0), .val (.long p1), .second, .val (.int p2), .val (.int (Int32.ofNat sN))] []))
  refine own_go (fun _ kt => XS.aloadN X22.here hx rfl (hb hby d7_66) rfl rfl kt) ?_
  show own_G p.tables e below _ (T22.setTop (mkF m 67 #[.val (.ref p0), .val (.long p1), .second, .val (.int p2), .val (.int (Int32.ofNat sN))] [(.ref p0)]))
  obtain ⟨T23, X23, e23, st23⟩ := getF X22 hx hZ hown (host := "") (Or.inl (hw _ (List.mem_of_getElem? (i := 41) rfl))) Via.refl e22 F_u (g := (mkF m 67 #[.val (.ref p0), .val (.long p1), .second, .val (.int p2), .val (.int (Int32.ofNat sN))] [(.ref p0)])) rfl rfl (hb hby d7_67)
  refine own_go st23 ?_
  show own_G p.tables e below _ (T23.setTop (mkF m 70 #[.val (.ref p0), .val (.long p1), .second, .val (.int p2), .val (.int (Int32.ofNat sN))] [(.ref wu)]))
  refine own_go (fun _ kt => XS.iload X23.here hx rfl (hb hby d7_70) rfl kt) ?_
  show own_G p.tables e below _ (T23.setTop (mkF m 72 #[.val (.ref p0), .val (.long p1), .second, .val (.int p2), .val (.int (Int32.ofNat sN))] [(.int (Int32.ofNat sN)), (.ref wu)]))
  refine own_go (fun _ kt => XS.bipush X23.here hx rfl (hb hby d7_72) kt) ?_
  show own_G p.tables e below _ (T23.setTop (mkF m 74 #[.val (.ref p0), .val (.long p1), .second, .val (.int p2), .val (.int (Int32.ofNat sN))] [(.int (6 : Int32)), (.int (Int32.ofNat sN)), (.ref wu)]))
  refine own_go (fun _ kt => XS.iushr X23.here hx rfl (hb hby d7_74) rfl kt) ?_
  show own_G p.tables e below _ (T23.setTop (mkF m 75 #[.val (.ref p0), .val (.long p1), .second, .val (.int p2), .val (.int (Int32.ofNat sN))] [(.int (((Int32.ofNat sN).toUInt32 >>> ((6 : Int32) &&& 31).toUInt32).toInt32)), (.ref wu)]))
  rw [own_shr6 (show sN < 2147483648 by omega)]
  show own_G p.tables e below _ (T23.setTop (mkF m 75 #[.val (.ref p0), .val (.long p1), .second, .val (.int p2), .val (.int (Int32.ofNat sN))] [(.int (Int32.ofNat (sN / 64))), (.ref wu)]))
  refine own_go (own_ldJ X23 hx hZ e23 V_u (j := (Int32.ofNat (sN / 64))) (v := (.long (u (sN / 64)))) (by omega) (by omega) (congrArg (fun j => Value.long (u j)) hc2) (g := (mkF m 75 #[.val (.ref p0), .val (.long p1), .second, .val (.int p2), .val (.int (Int32.ofNat sN))] [(.int (Int32.ofNat (sN / 64))), (.ref wu)])) rfl rfl (hb hby d7_75)) ?_
  show own_G p.tables e below _ (T23.setTop (mkF m 76 #[.val (.ref p0), .val (.long p1), .second, .val (.int p2), .val (.int (Int32.ofNat sN))] [(.long (u (sN / 64)))]))
  refine own_go (fun _ kt => XS.lconst X23.here hx rfl (hb hby d7_76) kt) ?_
  show own_G p.tables e below _ (T23.setTop (mkF m 77 #[.val (.ref p0), .val (.long p1), .second, .val (.int p2), .val (.int (Int32.ofNat sN))] [(.long (1 : Int64)), (.long (u (sN / 64)))]))
  refine own_go (fun _ kt => XS.iload X23.here hx rfl (hb hby d7_77) rfl kt) ?_
  show own_G p.tables e below _ (T23.setTop (mkF m 79 #[.val (.ref p0), .val (.long p1), .second, .val (.int p2), .val (.int (Int32.ofNat sN))] [(.int (Int32.ofNat sN)), (.long (1 : Int64)), (.long (u (sN / 64)))]))
  refine own_go (fun _ kt => XS.lshl X23.here hx rfl (hb hby d7_79) rfl kt) ?_
  show own_G p.tables e below _ (T23.setTop (mkF m 80 #[.val (.ref p0), .val (.long p1), .second, .val (.int p2), .val (.int (Int32.ofNat sN))] [(.long ((1 : Int64) <<< ((Int32.ofNat sN) &&& 0x3f).toInt64)), (.long (u (sN / 64)))]))
  refine own_go (fun _ kt => XS.land X23.here hx rfl (hb hby d7_80) rfl kt) ?_
  show own_G p.tables e below _ (T23.setTop (mkF m 81 #[.val (.ref p0), .val (.long p1), .second, .val (.int p2), .val (.int (Int32.ofNat sN))] [(.long ((u (sN / 64)) &&& ((1 : Int64) <<< ((Int32.ofNat sN) &&& 0x3f).toInt64)))]))
  refine own_go (fun _ kt => XS.lconst X23.here hx rfl (hb hby d7_81) kt) ?_
  show own_G p.tables e below _ (T23.setTop (mkF m 82 #[.val (.ref p0), .val (.long p1), .second, .val (.int p2), .val (.int (Int32.ofNat sN))] [(.long (0 : Int64)), (.long ((u (sN / 64)) &&& ((1 : Int64) <<< ((Int32.ofNat sN) &&& 0x3f).toInt64)))]))
  refine own_go (fun _ kt => XS.lcmp X23.here hx rfl (hb hby d7_82) rfl kt) ?_
  show own_G p.tables e below _ (T23.setTop (mkF m 83 #[.val (.ref p0), .val (.long p1), .second, .val (.int p2), .val (.int (Int32.ofNat sN))] [(.int (lcmpW ((u (sN / 64)) &&& ((1 : Int64) <<< ((Int32.ofNat sN) &&& 0x3f).toInt64)) (0 : Int64)))]))
  refine own_go (fun _ kt => XS.ifNo X23.here hx rfl (hb hby d7_83) rfl ((if0 _ _).trans (teq (own_lq.mpr ((own_Utest U (by omega) hs4).mpr hP) : (lcmpW ((u (sN / 64)) &&& ((1 : Int64) <<< ((Int32.ofNat sN) &&& 0x3f).toInt64)) (0 : Int64)) = (0 : Int32))).2) kt) ?_
  show own_G p.tables e below _ (T23.setTop (mkF m 86 #[.val (.ref p0), .val (.long p1), .second, .val (.int p2), .val (.int (Int32.ofNat sN))] []))
  refine own_go (fun _ kt => XS.aloadN X23.here hx rfl (hb hby d7_86) rfl rfl kt) ?_
  show own_G p.tables e below _ (T23.setTop (mkF m 87 #[.val (.ref p0), .val (.long p1), .second, .val (.int p2), .val (.int (Int32.ofNat sN))] [(.ref p0)]))
  obtain ⟨T24, X24, e24, st24⟩ := getF X23 hx hZ hown (host := "") (Or.inl (hw _ (List.mem_of_getElem? (i := 41) rfl))) Via.refl e23 F_u (g := (mkF m 87 #[.val (.ref p0), .val (.long p1), .second, .val (.int p2), .val (.int (Int32.ofNat sN))] [(.ref p0)])) rfl rfl (hb hby d7_87)
  refine own_go st24 ?_
  show own_G p.tables e below _ (T24.setTop (mkF m 90 #[.val (.ref p0), .val (.long p1), .second, .val (.int p2), .val (.int (Int32.ofNat sN))] [(.ref wu)]))
  refine own_go (fun _ kt => XS.iload X24.here hx rfl (hb hby d7_90) rfl kt) ?_
  show own_G p.tables e below _ (T24.setTop (mkF m 92 #[.val (.ref p0), .val (.long p1), .second, .val (.int p2), .val (.int (Int32.ofNat sN))] [(.int (Int32.ofNat sN)), (.ref wu)]))
  refine own_go (fun _ kt => XS.bipush X24.here hx rfl (hb hby d7_92) kt) ?_
  show own_G p.tables e below _ (T24.setTop (mkF m 94 #[.val (.ref p0), .val (.long p1), .second, .val (.int p2), .val (.int (Int32.ofNat sN))] [(.int (6 : Int32)), (.int (Int32.ofNat sN)), (.ref wu)]))
  refine own_go (fun _ kt => XS.iushr X24.here hx rfl (hb hby d7_94) rfl kt) ?_
  show own_G p.tables e below _ (T24.setTop (mkF m 95 #[.val (.ref p0), .val (.long p1), .second, .val (.int p2), .val (.int (Int32.ofNat sN))] [(.int (((Int32.ofNat sN).toUInt32 >>> ((6 : Int32) &&& 31).toUInt32).toInt32)), (.ref wu)]))
  rw [own_shr6 (show sN < 2147483648 by omega)]
  show own_G p.tables e below _ (T24.setTop (mkF m 95 #[.val (.ref p0), .val (.long p1), .second, .val (.int p2), .val (.int (Int32.ofNat sN))] [(.int (Int32.ofNat (sN / 64))), (.ref wu)]))
  refine own_go (fun _ kt => XT.dup2 X24.here hx rfl (hb hby d7_95) rfl rfl rfl kt) ?_
  show own_G p.tables e below _ (T24.setTop (mkF m 96 #[.val (.ref p0), .val (.long p1), .second, .val (.int p2), .val (.int (Int32.ofNat sN))] [(.int (Int32.ofNat (sN / 64))), (.ref wu), (.int (Int32.ofNat (sN / 64))), (.ref wu)]))
  refine own_go (own_ldJ X24 hx hZ e24 V_u (j := (Int32.ofNat (sN / 64))) (v := (.long (u (sN / 64)))) (by omega) (by omega) (congrArg (fun j => Value.long (u j)) hc2) (g := (mkF m 96 #[.val (.ref p0), .val (.long p1), .second, .val (.int p2), .val (.int (Int32.ofNat sN))] [(.int (Int32.ofNat (sN / 64))), (.ref wu), (.int (Int32.ofNat (sN / 64))), (.ref wu)])) rfl rfl (hb hby d7_96)) ?_
  show own_G p.tables e below _ (T24.setTop (mkF m 97 #[.val (.ref p0), .val (.long p1), .second, .val (.int p2), .val (.int (Int32.ofNat sN))] [(.long (u (sN / 64))), (.int (Int32.ofNat (sN / 64))), (.ref wu)]))
  refine own_go (fun _ kt => XS.lconst X24.here hx rfl (hb hby d7_97) kt) ?_
  show own_G p.tables e below _ (T24.setTop (mkF m 98 #[.val (.ref p0), .val (.long p1), .second, .val (.int p2), .val (.int (Int32.ofNat sN))] [(.long (1 : Int64)), (.long (u (sN / 64))), (.int (Int32.ofNat (sN / 64))), (.ref wu)]))
  refine own_go (fun _ kt => XS.iload X24.here hx rfl (hb hby d7_98) rfl kt) ?_
  show own_G p.tables e below _ (T24.setTop (mkF m 100 #[.val (.ref p0), .val (.long p1), .second, .val (.int p2), .val (.int (Int32.ofNat sN))] [(.int (Int32.ofNat sN)), (.long (1 : Int64)), (.long (u (sN / 64))), (.int (Int32.ofNat (sN / 64))), (.ref wu)]))
  refine own_go (fun _ kt => XS.lshl X24.here hx rfl (hb hby d7_100) rfl kt) ?_
  show own_G p.tables e below _ (T24.setTop (mkF m 101 #[.val (.ref p0), .val (.long p1), .second, .val (.int p2), .val (.int (Int32.ofNat sN))] [(.long ((1 : Int64) <<< ((Int32.ofNat sN) &&& 0x3f).toInt64)), (.long (u (sN / 64))), (.int (Int32.ofNat (sN / 64))), (.ref wu)]))
  refine own_go (fun _ kt => XS.lor X24.here hx rfl (hb hby d7_101) rfl kt) ?_
  show own_G p.tables e below _ (T24.setTop (mkF m 102 #[.val (.ref p0), .val (.long p1), .second, .val (.int p2), .val (.int (Int32.ofNat sN))] [(.long ((u (sN / 64)) ||| ((1 : Int64) <<< ((Int32.ofNat sN) &&& 0x3f).toInt64))), (.int (Int32.ofNat (sN / 64))), (.ref wu)]))
  obtain ⟨T25, h25, X25, e25, W25, V25, st25⟩ := own_stJ X24 hx hZ e24 V_u (j := (Int32.ofNat (sN / 64))) (by omega) (by omega) (g := (mkF m 102 #[.val (.ref p0), .val (.long p1), .second, .val (.int p2), .val (.int (Int32.ofNat sN))] [(.long ((u (sN / 64)) ||| ((1 : Int64) <<< ((Int32.ofNat sN) &&& 0x3f).toInt64))), (.int (Int32.ofNat (sN / 64))), (.ref wu)])) rfl rfl (hb hby d7_102)
  refine own_go st25 ?_
  have N25 := Fr.snoc X25 N0 gu
  have Z25 : n0 ≤ h25.size := Nat.le_trans Z0 (Keep.of_wr W25).1
  rw [hc2, own_upd_long] at V25
  show own_G p.tables e below _ (T25.setTop (mkF m 103 #[.val (.ref p0), .val (.long p1), .second, .val (.int p2), .val (.int (Int32.ofNat sN))] []))
  refine own_go (fun _ kt => XS.aloadN X25.here hx rfl (hb hby d7_103) rfl rfl kt) ?_
  show own_G p.tables e below _ (T25.setTop (mkF m 104 #[.val (.ref p0), .val (.long p1), .second, .val (.int p2), .val (.int (Int32.ofNat sN))] [(.ref p0)]))
  refine own_go (fun _ kt => XS.dup X25.here hx rfl (hb hby d7_104) rfl rfl kt) ?_
  show own_G p.tables e below _ (T25.setTop (mkF m 105 #[.val (.ref p0), .val (.long p1), .second, .val (.int p2), .val (.int (Int32.ofNat sN))] [(.ref p0), (.ref p0)]))
  have u26 := (F_c.other W25 (Or.inl nb2))
  obtain ⟨T27, X27, e27, st27⟩ := getF X25 hx hZ hown (host := "") (Or.inl (hw _ (List.mem_of_getElem? (i := 43) rfl))) Via.refl e25 u26 (g := (mkF m 105 #[.val (.ref p0), .val (.long p1), .second, .val (.int p2), .val (.int (Int32.ofNat sN))] [(.ref p0), (.ref p0)])) rfl rfl (hb hby d7_105)
  refine own_go st27 ?_
  show own_G p.tables e below _ (T27.setTop (mkF m 108 #[.val (.ref p0), .val (.long p1), .second, .val (.int p2), .val (.int (Int32.ofNat sN))] [(.int c'), (.ref p0)]))
  refine own_go (fun _ kt => XS.iconst X27.here hx rfl (hb hby d7_108) kt) ?_
  show own_G p.tables e below _ (T27.setTop (mkF m 109 #[.val (.ref p0), .val (.long p1), .second, .val (.int p2), .val (.int (Int32.ofNat sN))] [(.int (1 : Int32)), (.int c'), (.ref p0)]))
  refine own_go (fun _ kt => XS.iadd X27.here hx rfl (hb hby d7_109) rfl kt) ?_
  show own_G p.tables e below _ (T27.setTop (mkF m 110 #[.val (.ref p0), .val (.long p1), .second, .val (.int p2), .val (.int (Int32.ofNat sN))] [(.int (c' + (1 : Int32))), (.ref p0)]))
  have u28 := (E_.wr W25)
  obtain ⟨T29, h29, X29, e29, W29, st29⟩ := putF X27 hx hZ hown (host := "") (Or.inl (hw _ (List.mem_of_getElem? (i := 43) rfl))) Via.refl e27 u26 u28 (Or.inl (hw _ (List.mem_of_getElem? (i := 44) rfl))) (hw _ (List.mem_of_getElem? (i := 3) rfl)) (ty := .int) (by decide) rfl rfl (g := (mkF m 110 #[.val (.ref p0), .val (.long p1), .second, .val (.int p2), .val (.int (Int32.ofNat sN))] [(.int (c' + (1 : Int32))), (.ref p0)])) rfl rfl (hb hby d7_110)
  refine own_go st29 ?_
  have N29 := Fr.snoc X29 N25 gb
  have Z29 : n0 ≤ h29.size := Nat.le_trans Z25 (Keep.of_wr W29).1
  have Fw29 := Fld.same W29 u26
  show own_G p.tables e below _ (T29.setTop (mkF m 113 #[.val (.ref p0), .val (.long p1), .second, .val (.int p2), .val (.int (Int32.ofNat sN))] []))
  refine own_go (fun _ kt => XS.aloadN X29.here hx rfl (hb hby d7_113) rfl rfl kt) ?_
  show own_G p.tables e below _ (T29.setTop (mkF m 114 #[.val (.ref p0), .val (.long p1), .second, .val (.int p2), .val (.int (Int32.ofNat sN))] [(.ref p0)]))
  have u30 := ((F_p.other W25 (Or.inl nb2)).other W29 (Or.inr (slot_ne (Or.inl (hw _ (List.mem_of_getElem? (i := 36) rfl))) (Or.inl (hw _ (List.mem_of_getElem? (i := 44) rfl))) (by decide) (t := (.array .int)) (t' := .int) (by decide) (by decide))))
  obtain ⟨T31, X31, e31, st31⟩ := getF X29 hx hZ hown (host := "") (Or.inl (hw _ (List.mem_of_getElem? (i := 35) rfl))) Via.refl e29 u30 (g := (mkF m 114 #[.val (.ref p0), .val (.long p1), .second, .val (.int p2), .val (.int (Int32.ofNat sN))] [(.ref p0)])) rfl rfl (hb hby d7_114)
  refine own_go st31 ?_
  show own_G p.tables e below _ (T31.setTop (mkF m 117 #[.val (.ref p0), .val (.long p1), .second, .val (.int p2), .val (.int (Int32.ofNat sN))] [(.ref wp)]))
  refine own_go (fun _ kt => XS.iload X31.here hx rfl (hb hby d7_117) rfl kt) ?_
  show own_G p.tables e below _ (T31.setTop (mkF m 119 #[.val (.ref p0), .val (.long p1), .second, .val (.int p2), .val (.int (Int32.ofNat sN))] [(.int (Int32.ofNat sN)), (.ref wp)]))
  refine own_go (fun _ kt => XS.iloadN X31.here hx rfl (hb hby d7_119) rfl kt) ?_
  show own_G p.tables e below _ (T31.setTop (mkF m 120 #[.val (.ref p0), .val (.long p1), .second, .val (.int p2), .val (.int (Int32.ofNat sN))] [(.int p2), (.int (Int32.ofNat sN)), (.ref wp)]))
  have u32 := ((V_p.other W25 n12).other W29 (Ne.symm nb1))
  obtain ⟨T33, h33, X33, e33, W33, V33, st33⟩ := own_stI X31 hx hZ e31 u32 (j := (Int32.ofNat sN)) (by omega) (by omega) (g := (mkF m 120 #[.val (.ref p0), .val (.long p1), .second, .val (.int p2), .val (.int (Int32.ofNat sN))] [(.int p2), (.int (Int32.ofNat sN)), (.ref wp)])) rfl rfl (hb hby d7_120)
  refine own_go st33 ?_
  have N33 := Fr.snoc X33 N29 gp
  have Z33 : n0 ≤ h33.size := Nat.le_trans Z29 (Keep.of_wr W33).1
  rw [hc1, own_upd_int] at V33
  have u34 := ((u28.wr W29).wr W33)
  have u35 := (((F_s.other W25 (Or.inl nb2)).other W29 (Or.inr (slot_ne (Or.inr (hw _ (List.mem_of_getElem? (i := 29) rfl))) (Or.inl (hw _ (List.mem_of_getElem? (i := 44) rfl))) (by decide) (t := .long) (t' := .int) (by decide) (by decide)))).other W33 (Or.inl nb1))
  have u36 := (u30.other W33 (Or.inl nb1))
  have u37 := (((F_u.other W25 (Or.inl nb2)).other W29 (Or.inr (slot_ne (Or.inl (hw _ (List.mem_of_getElem? (i := 42) rfl))) (Or.inl (hw _ (List.mem_of_getElem? (i := 44) rfl))) (by decide) (t := (.array .long)) (t' := .int) (by decide) (by decide)))).other W33 (Or.inl nb1))
  have u38 := (Fw29.other W33 (Or.inl nb1))
  have u39 := ((V25.other W29 (Ne.symm nb2)).other W33 (Ne.symm n12))
  show own_G p.tables e below _ (T33.setTop (mkF m 121 #[.val (.ref p0), .val (.long p1), .second, .val (.int p2), .val (.int (Int32.ofNat sN))] []))
  exact own_retV X33 hx Bd.returns hlk (hb hby d7_121) (Nat.le_of_ble_eq_true rfl) (Nat.le_of_ble_eq_true rfl) e33 ⟨rfl, N33, Z33, _, ⟨u34, u35, u36, u37, u38, V33, u39, nb1, nb2, n12, gb, gp, gu⟩, own_Uset U (by omega)⟩
theorem ef_putO (m : MethodId) (p0 : Addr) (p1 : Int64) (p2 : Int32) : entryFrame m #[(.ref p0), (.long p1), (.int p2)] 5 = mkF m 0 #[.val (.ref p0), .val (.long p1), .second, .val (.int p2), .unset] [] := by first | (simp [entryFrame, mkF, argsToLocals, Value.category]; done) | rfl
def Q_putO (Z : State) (p0 : Addr) (p1 : Int64) (p2 : Int32) (wp : Addr) (wu : Addr) (S : Nat) (c' : Int32) (f : Nat → Int32) (u : Nat → Int64) (P : Nat → Bool) (sN : Nat) (h0 : Heap) (n0 : Nat) (v : Option Value) (h : Heap) (L : List Loc) : Prop := v = none ∧ Fr n0 L ∧ n0 ≤ h.size ∧ own_R Z h n0 p0 wp wu S c' (own_updI f sN p2) u
set_option maxRecDepth 65536 in
set_option maxHeartbeats 40000000 in
theorem rm_putO (l : Launch) (Z : State) (a0 : Array Value) (hw : ∀ d ∈ tables_1, d.before a0 Z = true) (ws : List Jvm.Cond) (p0 : Addr) (p1 : Int64) (p2 : Int32) (wp : Addr) (wu : Addr) (S : Nat) (c' : Int32) (f : Nat → Int32) (u : Nat → Int64) (P : Nat → Bool) (sN : Nat) (h0 : Heap) (n0 : Nat) (Z0 : n0 ≤ h0.size) (R : own_R Z h0 n0 p0 wp wu S c' f u) (ok : own_okS S) (U : own_U u (S / 64) P) (hs : (sN : Int) = p1.toInt % (S : Int)) (hP : P sN = true) :
    MetFree l (⟨"com/example/brisk_match/briskmatch/search/StartRing", "put", "(JI)V"⟩ : MethodName) (head1 (Jvm.Cond.code (⟨"com/example/brisk_match/briskmatch/search/StartRing", "put", "(JI)V"⟩ : MethodName) prog_76_method_3_code 5 none :: ws) ({ frames := 0, cells := 0, slots := 0, locals := 0 } : Room)) (fun a U => a = #[(.ref p0), (.long p1), (.int p2)] ∧ Z.Warmed39 U.vm ∧ U.heap = h0) (fun _ _ _ _ _ => True) (fun _ U o U' => ∃ v L, o = .returned v ∧ Q_putO Z p0 p1 p2 wp wu S c' f u P sN h0 n0 v U'.heap L ∧ FrameEnd U o U' L ({ frames := 0, cells := 0, slots := 0, locals := 0 } : Room).cells ({ frames := 0, cells := 0, slots := 0, locals := 0 } : Room).slots) := by
  refine MetFree.of_bodySF (plainFor_of_name pn_com_example_brisk_match_briskmatch_search_StartRing) hisR ?_
  intro p e s m args below meth kc s₁ Bd hml0 hP hK
  obtain ⟨rfl, hZ, hh⟩ := hP
  have hx := Bd.exec
  have hby := Bd.bytes
  have hlk := Bd.notSynchronized
  have hml : kc.maxLocals = 5 := hml0
  have hown : s.vm.findClass "com/example/brisk_match/briskmatch/search/StartRing" = some m.cls := findClass_of_methodNamed Bd.named
  have hnm := (name_of_methodNamed Bd.named Bd.method).1
  have X0 : Stand p l e ({ frames := 0, cells := 0, slots := 0, locals := 0 } : Room) s m #[(.ref p0), (.long p1), (.int p2)] below meth kc s₁ [] 0 0 := Stand.of_body Bd
  have e0 : s₁.heap = h0 := by rw [← hh, Bd.state]; rfl
  have N0 := Fr.nil n0
  show own_G p.tables e below (own_E below s ({ frames := 0, cells := 0, slots := 0, locals := 0 } : Room).cells ({ frames := 0, cells := 0, slots := 0, locals := 0 } : Room).slots (Q_putO Z p0 p1 p2 wp wu S c' f u P sN h0 n0)) _
  refine own_go (fun _ k => castTop (ef_putO m p0 p1 p2) k) ?_
  obtain ⟨E_, F_s, F_p, F_u, F_c, V_p, V_u, nb1, nb2, n12, gb, gp, gu⟩ := R
  show own_G p.tables e below _ (s₁.setTop (mkF m 0 #[.val (.ref p0), .val (.long p1), .second, .val (.int p2), .unset] []))
  refine own_go (fun _ kt => XS.aloadN X0.here hx rfl (hb hby d7_0) rfl rfl kt) ?_
  show own_G p.tables e below _ (s₁.setTop (mkF m 1 #[.val (.ref p0), .val (.long p1), .second, .val (.int p2), .unset] [(.ref p0)]))
  obtain ⟨T40, X40, e40, st40⟩ := getF X0 hx hZ hown (host := "") (Or.inl (hw _ (List.mem_of_getElem? (i := 35) rfl))) Via.refl e0 F_p (g := (mkF m 1 #[.val (.ref p0), .val (.long p1), .second, .val (.int p2), .unset] [(.ref p0)])) rfl rfl (hb hby d7_1)
  refine own_go st40 ?_
  show own_G p.tables e below _ (T40.setTop (mkF m 4 #[.val (.ref p0), .val (.long p1), .second, .val (.int p2), .unset] [(.ref wp)]))
  refine own_go (fun _ kt => XS.ifnonnullYes X40.here hx rfl (pc0 := 4) (pc' := 54) rfl (hb hby d7_4) rfl (by decide) (by decide) kt) ?_
  obtain ⟨hs1, hs2, hs3, hs4⟩ := own_slt ok hs
  have hc1 := own_clamp (i := sN) (by omega)
  have hc2 := own_clamp (i := sN / 64) (by omega)
  have hi1 := own_nat (i := sN) (by omega)
  have hi2 := own_nat (i := sN / 64) (by omega)
  show own_G p.tables e below _ (T40.setTop (mkF m 54 #[.val (.ref p0), .val (.long p1), .second, .val (.int p2), .unset] []))
  refine own_go (fun _ kt => XS.lloadN X40.here hx rfl (hb hby d7_54) rfl kt) ?_
  show own_G p.tables e below _ (T40.setTop (mkF m 55 #[.val (.ref p0), .val (.long p1), .second, .val (.int p2), .unset] [(.long p1)]))
  refine own_go (fun _ kt => XS.l2i X40.here hx rfl (hb hby d7_55) rfl kt) ?_
  show own_G p.tables e below _ (T40.setTop (mkF m 56 #[.val (.ref p0), .val (.long p1), .second, .val (.int p2), .unset] [(.int (p1.toInt32))]))
  refine own_go (fun _ kt => XS.aloadN X40.here hx rfl (hb hby d7_56) rfl rfl kt) ?_
  show own_G p.tables e below _ (T40.setTop (mkF m 57 #[.val (.ref p0), .val (.long p1), .second, .val (.int p2), .unset] [(.ref p0), (.int (p1.toInt32))]))
  obtain ⟨T41, X41, e41, st41⟩ := getF X40 hx hZ hown (host := "") (Or.inl (hw _ (List.mem_of_getElem? (i := 35) rfl))) Via.refl e40 F_p (g := (mkF m 57 #[.val (.ref p0), .val (.long p1), .second, .val (.int p2), .unset] [(.ref p0), (.int (p1.toInt32))])) rfl rfl (hb hby d7_57)
  refine own_go st41 ?_
  show own_G p.tables e below _ (T41.setTop (mkF m 60 #[.val (.ref p0), .val (.long p1), .second, .val (.int p2), .unset] [(.ref wp), (.int (p1.toInt32))]))
  refine own_go (own_len X41 hx hZ e41 V_p (z := (Int32.ofNat S)) (own_len32 ok) (g := (mkF m 60 #[.val (.ref p0), .val (.long p1), .second, .val (.int p2), .unset] [(.ref wp), (.int (p1.toInt32))])) rfl rfl (hb hby d7_60)) ?_
  show own_G p.tables e below _ (T41.setTop (mkF m 61 #[.val (.ref p0), .val (.long p1), .second, .val (.int p2), .unset] [(.int (Int32.ofNat S)), (.int (p1.toInt32))]))
  refine own_go (fun _ kt => XS.iconst X41.here hx rfl (hb hby d7_61) kt) ?_
  show own_G p.tables e below _ (T41.setTop (mkF m 62 #[.val (.ref p0), .val (.long p1), .second, .val (.int p2), .unset] [(.int (1 : Int32)), (.int (Int32.ofNat S)), (.int (p1.toInt32))]))
  refine own_go (fun _ kt => XS.isub X41.here hx rfl (hb hby d7_62) rfl kt) ?_
  show own_G p.tables e below _ (T41.setTop (mkF m 63 #[.val (.ref p0), .val (.long p1), .second, .val (.int p2), .unset] [(.int ((Int32.ofNat S) - (1 : Int32))), (.int (p1.toInt32))]))
  refine own_go (fun _ kt => XS.iand X41.here hx rfl (hb hby d7_63) rfl kt) ?_
  show own_G p.tables e below _ (T41.setTop (mkF m 64 #[.val (.ref p0), .val (.long p1), .second, .val (.int p2), .unset] [(.int ((p1.toInt32) &&& ((Int32.ofNat S) - (1 : Int32))))]))
  rw [own_slot ok hs]
  show own_G p.tables e below _ (T41.setTop (mkF m 64 #[.val (.ref p0), .val (.long p1), .second, .val (.int p2), .unset] [(.int (Int32.ofNat sN))]))
  refine own_go (fun _ kt => XS.istore X41.here hx rfl (hb hby d7_64) rfl (l' := #[.val (.ref p0), .val (.long p1), .second, .val (.int p2), .val (.int (Int32.ofNat sN))]) rfl kt) ?_
  show own_G p.tables e below _ (T41.setTop (mkF m 66 #[.val (.ref p0), .val (.long p1), .second, .val (.int p2), .val (.int (Int32.ofNat sN))] []))
  refine own_go (fun _ kt => XS.aloadN X41.here hx rfl (hb hby d7_66) rfl rfl kt) ?_
  show own_G p.tables e below _ (T41.setTop (mkF m 67 #[.val (.ref p0), .val (.long p1), .second, .val (.int p2), .val (.int (Int32.ofNat sN))] [(.ref p0)]))
  obtain ⟨T42, X42, e42, st42⟩ := getF X41 hx hZ hown (host := "") (Or.inl (hw _ (List.mem_of_getElem? (i := 41) rfl))) Via.refl e41 F_u (g := (mkF m 67 #[.val (.ref p0), .val (.long p1), .second, .val (.int p2), .val (.int (Int32.ofNat sN))] [(.ref p0)])) rfl rfl (hb hby d7_67)
  refine own_go st42 ?_
  show own_G p.tables e below _ (T42.setTop (mkF m 70 #[.val (.ref p0), .val (.long p1), .second, .val (.int p2), .val (.int (Int32.ofNat sN))] [(.ref wu)]))
  refine own_go (fun _ kt => XS.iload X42.here hx rfl (hb hby d7_70) rfl kt) ?_
  show own_G p.tables e below _ (T42.setTop (mkF m 72 #[.val (.ref p0), .val (.long p1), .second, .val (.int p2), .val (.int (Int32.ofNat sN))] [(.int (Int32.ofNat sN)), (.ref wu)]))
  refine own_go (fun _ kt => XS.bipush X42.here hx rfl (hb hby d7_72) kt) ?_
  show own_G p.tables e below _ (T42.setTop (mkF m 74 #[.val (.ref p0), .val (.long p1), .second, .val (.int p2), .val (.int (Int32.ofNat sN))] [(.int (6 : Int32)), (.int (Int32.ofNat sN)), (.ref wu)]))
  refine own_go (fun _ kt => XS.iushr X42.here hx rfl (hb hby d7_74) rfl kt) ?_
  show own_G p.tables e below _ (T42.setTop (mkF m 75 #[.val (.ref p0), .val (.long p1), .second, .val (.int p2), .val (.int (Int32.ofNat sN))] [(.int (((Int32.ofNat sN).toUInt32 >>> ((6 : Int32) &&& 31).toUInt32).toInt32)), (.ref wu)]))
  rw [own_shr6 (show sN < 2147483648 by omega)]
  show own_G p.tables e below _ (T42.setTop (mkF m 75 #[.val (.ref p0), .val (.long p1), .second, .val (.int p2), .val (.int (Int32.ofNat sN))] [(.int (Int32.ofNat (sN / 64))), (.ref wu)]))
  refine own_go (own_ldJ X42 hx hZ e42 V_u (j := (Int32.ofNat (sN / 64))) (v := (.long (u (sN / 64)))) (by omega) (by omega) (congrArg (fun j => Value.long (u j)) hc2) (g := (mkF m 75 #[.val (.ref p0), .val (.long p1), .second, .val (.int p2), .val (.int (Int32.ofNat sN))] [(.int (Int32.ofNat (sN / 64))), (.ref wu)])) rfl rfl (hb hby d7_75)) ?_
  show own_G p.tables e below _ (T42.setTop (mkF m 76 #[.val (.ref p0), .val (.long p1), .second, .val (.int p2), .val (.int (Int32.ofNat sN))] [(.long (u (sN / 64)))]))
  refine own_go (fun _ kt => XS.lconst X42.here hx rfl (hb hby d7_76) kt) ?_
  show own_G p.tables e below _ (T42.setTop (mkF m 77 #[.val (.ref p0), .val (.long p1), .second, .val (.int p2), .val (.int (Int32.ofNat sN))] [(.long (1 : Int64)), (.long (u (sN / 64)))]))
  refine own_go (fun _ kt => XS.iload X42.here hx rfl (hb hby d7_77) rfl kt) ?_
  show own_G p.tables e below _ (T42.setTop (mkF m 79 #[.val (.ref p0), .val (.long p1), .second, .val (.int p2), .val (.int (Int32.ofNat sN))] [(.int (Int32.ofNat sN)), (.long (1 : Int64)), (.long (u (sN / 64)))]))
  refine own_go (fun _ kt => XS.lshl X42.here hx rfl (hb hby d7_79) rfl kt) ?_
  show own_G p.tables e below _ (T42.setTop (mkF m 80 #[.val (.ref p0), .val (.long p1), .second, .val (.int p2), .val (.int (Int32.ofNat sN))] [(.long ((1 : Int64) <<< ((Int32.ofNat sN) &&& 0x3f).toInt64)), (.long (u (sN / 64)))]))
  refine own_go (fun _ kt => XS.land X42.here hx rfl (hb hby d7_80) rfl kt) ?_
  show own_G p.tables e below _ (T42.setTop (mkF m 81 #[.val (.ref p0), .val (.long p1), .second, .val (.int p2), .val (.int (Int32.ofNat sN))] [(.long ((u (sN / 64)) &&& ((1 : Int64) <<< ((Int32.ofNat sN) &&& 0x3f).toInt64)))]))
  refine own_go (fun _ kt => XS.lconst X42.here hx rfl (hb hby d7_81) kt) ?_
  show own_G p.tables e below _ (T42.setTop (mkF m 82 #[.val (.ref p0), .val (.long p1), .second, .val (.int p2), .val (.int (Int32.ofNat sN))] [(.long (0 : Int64)), (.long ((u (sN / 64)) &&& ((1 : Int64) <<< ((Int32.ofNat sN) &&& 0x3f).toInt64)))]))
  refine own_go (fun _ kt => XS.lcmp X42.here hx rfl (hb hby d7_82) rfl kt) ?_
  show own_G p.tables e below _ (T42.setTop (mkF m 83 #[.val (.ref p0), .val (.long p1), .second, .val (.int p2), .val (.int (Int32.ofNat sN))] [(.int (lcmpW ((u (sN / 64)) &&& ((1 : Int64) <<< ((Int32.ofNat sN) &&& 0x3f).toInt64)) (0 : Int64)))]))
  refine own_go (fun _ kt => XS.ifYes X42.here hx rfl (pc0 := 83) (pc' := 113) rfl (hb hby d7_83) rfl ((if0 _ _).trans (feq (fun q => by have q := (own_Utest U (by omega) hs4).mp (own_lq.mp q); simp [hP] at q : ¬ ((lcmpW ((u (sN / 64)) &&& ((1 : Int64) <<< ((Int32.ofNat sN) &&& 0x3f).toInt64)) (0 : Int64)) = (0 : Int32)))).2) (by decide) (by decide) kt) ?_
  show own_G p.tables e below _ (T42.setTop (mkF m 113 #[.val (.ref p0), .val (.long p1), .second, .val (.int p2), .val (.int (Int32.ofNat sN))] []))
  refine own_go (fun _ kt => XS.aloadN X42.here hx rfl (hb hby d7_113) rfl rfl kt) ?_
  show own_G p.tables e below _ (T42.setTop (mkF m 114 #[.val (.ref p0), .val (.long p1), .second, .val (.int p2), .val (.int (Int32.ofNat sN))] [(.ref p0)]))
  obtain ⟨T43, X43, e43, st43⟩ := getF X42 hx hZ hown (host := "") (Or.inl (hw _ (List.mem_of_getElem? (i := 35) rfl))) Via.refl e42 F_p (g := (mkF m 114 #[.val (.ref p0), .val (.long p1), .second, .val (.int p2), .val (.int (Int32.ofNat sN))] [(.ref p0)])) rfl rfl (hb hby d7_114)
  refine own_go st43 ?_
  show own_G p.tables e below _ (T43.setTop (mkF m 117 #[.val (.ref p0), .val (.long p1), .second, .val (.int p2), .val (.int (Int32.ofNat sN))] [(.ref wp)]))
  refine own_go (fun _ kt => XS.iload X43.here hx rfl (hb hby d7_117) rfl kt) ?_
  show own_G p.tables e below _ (T43.setTop (mkF m 119 #[.val (.ref p0), .val (.long p1), .second, .val (.int p2), .val (.int (Int32.ofNat sN))] [(.int (Int32.ofNat sN)), (.ref wp)]))
  refine own_go (fun _ kt => XS.iloadN X43.here hx rfl (hb hby d7_119) rfl kt) ?_
  show own_G p.tables e below _ (T43.setTop (mkF m 120 #[.val (.ref p0), .val (.long p1), .second, .val (.int p2), .val (.int (Int32.ofNat sN))] [(.int p2), (.int (Int32.ofNat sN)), (.ref wp)]))
  obtain ⟨T44, h44, X44, e44, W44, V44, st44⟩ := own_stI X43 hx hZ e43 V_p (j := (Int32.ofNat sN)) (by omega) (by omega) (g := (mkF m 120 #[.val (.ref p0), .val (.long p1), .second, .val (.int p2), .val (.int (Int32.ofNat sN))] [(.int p2), (.int (Int32.ofNat sN)), (.ref wp)])) rfl rfl (hb hby d7_120)
  refine own_go st44 ?_
  have N44 := Fr.snoc X44 N0 gp
  have Z44 : n0 ≤ h44.size := Nat.le_trans Z0 (Keep.of_wr W44).1
  rw [hc1, own_upd_int] at V44
  have u45 := (E_.wr W44)
  have u46 := (F_s.other W44 (Or.inl nb1))
  have u47 := (F_p.other W44 (Or.inl nb1))
  have u48 := (F_u.other W44 (Or.inl nb1))
  have u49 := (F_c.other W44 (Or.inl nb1))
  have u50 := (V_u.other W44 (Ne.symm n12))
  show own_G p.tables e below _ (T44.setTop (mkF m 121 #[.val (.ref p0), .val (.long p1), .second, .val (.int p2), .val (.int (Int32.ofNat sN))] []))
  exact own_retV X44 hx Bd.returns hlk (hb hby d7_121) (Nat.le_of_ble_eq_true rfl) (Nat.le_of_ble_eq_true rfl) e44 ⟨rfl, N44, Z44, ⟨u45, u46, u47, u48, u49, V44, u50, nb1, nb2, n12, gb, gp, gu⟩⟩
theorem d7_7 : decode prog_76_method_3_code 7 = .ok (.aload_n 0, 1) := by decide +kernel
theorem d7_8 : decode prog_76_method_3_code 8 = .ok (.getfield 19, 3) := by decide +kernel
theorem d7_11 : decode prog_76_method_3_code 11 = .ok (.ldc2_w 33, 3) := by decide +kernel
theorem d7_14 : decode prog_76_method_3_code 14 = .ok (.lcmp, 1) := by decide +kernel
theorem d7_15 : decode prog_76_method_3_code 15 = .ok (.ifCond .le 13, 3) := by decide +kernel
theorem d7_28 : decode prog_76_method_3_code 28 = .ok (.aload_n 0, 1) := by decide +kernel
theorem d7_29 : decode prog_76_method_3_code 29 = .ok (.aload_n 0, 1) := by decide +kernel
theorem d7_30 : decode prog_76_method_3_code 30 = .ok (.getfield 19, 3) := by decide +kernel
theorem d7_33 : decode prog_76_method_3_code 33 = .ok (.l2i, 1) := by decide +kernel
theorem d7_34 : decode prog_76_method_3_code 34 = .ok (.newarray .int, 2) := by decide +kernel
theorem d7_36 : decode prog_76_method_3_code 36 = .ok (.putfield 29, 3) := by decide +kernel
theorem d7_39 : decode prog_76_method_3_code 39 = .ok (.aload_n 0, 1) := by decide +kernel
theorem d7_40 : decode prog_76_method_3_code 40 = .ok (.aload_n 0, 1) := by decide +kernel
theorem d7_41 : decode prog_76_method_3_code 41 = .ok (.getfield 19, 3) := by decide +kernel
theorem d7_44 : decode prog_76_method_3_code 44 = .ok (.ldc2_w 42, 3) := by decide +kernel
theorem d7_47 : decode prog_76_method_3_code 47 = .ok (.ldiv, 1) := by decide +kernel
theorem d7_48 : decode prog_76_method_3_code 48 = .ok (.l2i, 1) := by decide +kernel
theorem d7_49 : decode prog_76_method_3_code 49 = .ok (.newarray .long, 2) := by decide +kernel
theorem d7_51 : decode prog_76_method_3_code 51 = .ok (.putfield 44, 3) := by decide +kernel
theorem ef_put0 (m : MethodId) (p0 : Addr) (p1 : Int64) (p2 : Int32) : entryFrame m #[(.ref p0), (.long p1), (.int p2)] 5 = mkF m 0 #[.val (.ref p0), .val (.long p1), .second, .val (.int p2), .unset] [] := by first | (simp [entryFrame, mkF, argsToLocals, Value.category]; done) | rfl
def Q_put0 (Z : State) (p0 : Addr) (p1 : Int64) (p2 : Int32) (S : Nat) (sN : Nat) (h0 : Heap) (n0 : Nat) (v : Option Value) (h : Heap) (L : List Loc) : Prop := v = none ∧ Fr n0 L ∧ n0 ≤ h.size ∧ ∃ wp wu u', own_R Z h n0 p0 wp wu S (0 + 1) (own_updI (fun _ => 0) sN p2) u' ∧ own_U u' (S / 64) (fun j => decide (j = sN))
set_option maxRecDepth 65536 in
set_option maxHeartbeats 40000000 in
theorem rm_put0 (l : Launch) (Z : State) (a0 : Array Value) (hw : ∀ d ∈ tables_1, d.before a0 Z = true) (ws : List Jvm.Cond) (p0 : Addr) (p1 : Int64) (p2 : Int32) (S : Nat) (sN : Nat) (h0 : Heap) (n0 : Nat) (Z0 : n0 ≤ h0.size) (ok : own_okS S) (hs : (sN : Int) = p1.toInt % (S : Int)) (E0 : Exa Z h0 p0 "com/example/brisk_match/briskmatch/search/StartRing") (g0 : n0 ≤ p0) (F_size : Fld Z h0 p0 "com/example/brisk_match/briskmatch/search/StartRing" "size" "J" (.long (Int64.ofNat S))) (F_patterns : Fld Z h0 p0 "com/example/brisk_match/briskmatch/search/StartRing" "patterns" "[I" .null) (F_used : Fld Z h0 p0 "com/example/brisk_match/briskmatch/search/StartRing" "used" "[J" .null) (F_count : Fld Z h0 p0 "com/example/brisk_match/briskmatch/search/StartRing" "count" "I" (.int (0 : Int32))) :
    MetFree l (⟨"com/example/brisk_match/briskmatch/search/StartRing", "put", "(JI)V"⟩ : MethodName) (head1 (Jvm.Cond.code (⟨"com/example/brisk_match/briskmatch/search/StartRing", "put", "(JI)V"⟩ : MethodName) prog_76_method_3_code 5 none :: ws) ({ frames := 0, cells := 2, slots := 1040, locals := 0 } : Room)) (fun a U => a = #[(.ref p0), (.long p1), (.int p2)] ∧ Z.Warmed39 U.vm ∧ U.heap = h0) (fun _ _ _ _ _ => True) (fun _ U o U' => ∃ v L, o = .returned v ∧ Q_put0 Z p0 p1 p2 S sN h0 n0 v U'.heap L ∧ FrameEnd U o U' L ({ frames := 0, cells := 2, slots := 1040, locals := 0 } : Room).cells ({ frames := 0, cells := 2, slots := 1040, locals := 0 } : Room).slots) := by
  refine MetFree.of_bodySF (plainFor_of_name pn_com_example_brisk_match_briskmatch_search_StartRing) hisR ?_
  intro p e s m args below meth kc s₁ Bd hml0 hP hK
  obtain ⟨rfl, hZ, hh⟩ := hP
  have hx := Bd.exec
  have hby := Bd.bytes
  have hlk := Bd.notSynchronized
  have hml : kc.maxLocals = 5 := hml0
  have hown : s.vm.findClass "com/example/brisk_match/briskmatch/search/StartRing" = some m.cls := findClass_of_methodNamed Bd.named
  have hnm := (name_of_methodNamed Bd.named Bd.method).1
  have X0 : Stand p l e ({ frames := 0, cells := 2, slots := 1040, locals := 0 } : Room) s m #[(.ref p0), (.long p1), (.int p2)] below meth kc s₁ [] 0 0 := Stand.of_body Bd
  have e0 : s₁.heap = h0 := by rw [← hh, Bd.state]; rfl
  have N0 := Fr.nil n0
  show own_G p.tables e below (own_E below s ({ frames := 0, cells := 2, slots := 1040, locals := 0 } : Room).cells ({ frames := 0, cells := 2, slots := 1040, locals := 0 } : Room).slots (Q_put0 Z p0 p1 p2 S sN h0 n0)) _
  refine own_go (fun _ k => castTop (ef_put0 m p0 p1 p2) k) ?_
  obtain ⟨z1, z2, z3, z4, z5, z6, z7, z8, z9⟩ := own_szI ok
  show own_G p.tables e below _ (s₁.setTop (mkF m 0 #[.val (.ref p0), .val (.long p1), .second, .val (.int p2), .unset] []))
  refine own_go (fun _ kt => XS.aloadN X0.here hx rfl (hb hby d7_0) rfl rfl kt) ?_
  show own_G p.tables e below _ (s₁.setTop (mkF m 1 #[.val (.ref p0), .val (.long p1), .second, .val (.int p2), .unset] [(.ref p0)]))
  obtain ⟨T51, X51, e51, st51⟩ := getF X0 hx hZ hown (host := "") (Or.inl (hw _ (List.mem_of_getElem? (i := 35) rfl))) Via.refl e0 F_patterns (g := (mkF m 1 #[.val (.ref p0), .val (.long p1), .second, .val (.int p2), .unset] [(.ref p0)])) rfl rfl (hb hby d7_1)
  refine own_go st51 ?_
  show own_G p.tables e below _ (T51.setTop (mkF m 4 #[.val (.ref p0), .val (.long p1), .second, .val (.int p2), .unset] [.null]))
  refine own_go (fun _ kt => XS.ifnonnullNo X51.here hx rfl (hb hby d7_4) rfl kt) ?_
  show own_G p.tables e below _ (T51.setTop (mkF m 7 #[.val (.ref p0), .val (.long p1), .second, .val (.int p2), .unset] []))
  refine own_go (fun _ kt => XS.aloadN X51.here hx rfl (hb hby d7_7) rfl rfl kt) ?_
  show own_G p.tables e below _ (T51.setTop (mkF m 8 #[.val (.ref p0), .val (.long p1), .second, .val (.int p2), .unset] [(.ref p0)]))
  obtain ⟨T52, X52, e52, st52⟩ := getF X51 hx hZ hown (host := "") (Or.inl (hw _ (List.mem_of_getElem? (i := 28) rfl))) Via.refl e51 F_size (g := (mkF m 8 #[.val (.ref p0), .val (.long p1), .second, .val (.int p2), .unset] [(.ref p0)])) rfl rfl (hb hby d7_8)
  refine own_go st52 ?_
  show own_G p.tables e below _ (T52.setTop (mkF m 11 #[.val (.ref p0), .val (.long p1), .second, .val (.int p2), .unset] [(.long (Int64.ofNat S))]))
  refine own_go (X52.ldc2Long hx hown (mvT hZ (hw _ (List.mem_of_getElem? (i := 37) rfl))) (g := (mkF m 11 #[.val (.ref p0), .val (.long p1), .second, .val (.int p2), .unset] [(.long (Int64.ofNat S))])) rfl (hb hby d7_11)) ?_
  show own_G p.tables e below _ (T52.setTop (mkF m 14 #[.val (.ref p0), .val (.long p1), .second, .val (.int p2), .unset] [(.long (1073741824 : Int64)), (.long (Int64.ofNat S))]))
  refine own_go (fun _ kt => XS.lcmp X52.here hx rfl (hb hby d7_14) rfl kt) ?_
  show own_G p.tables e below _ (T52.setTop (mkF m 15 #[.val (.ref p0), .val (.long p1), .second, .val (.int p2), .unset] [(.int (lcmpW (Int64.ofNat S) (1073741824 : Int64)))]))
  refine own_go (fun _ kt => XS.ifYes X52.here hx rfl (pc0 := 15) (pc' := 28) rfl (hb hby d7_15) rfl ((if0 _ _).trans (flt (fun q => by have q := own_lg.mp q; have z : (1073741824 : Int64).toInt = 1073741824 := rfl; omega : ¬ ((0 : Int32) < (lcmpW (Int64.ofNat S) (1073741824 : Int64))))).2.2.2) (by decide) (by decide) kt) ?_
  show own_G p.tables e below _ (T52.setTop (mkF m 28 #[.val (.ref p0), .val (.long p1), .second, .val (.int p2), .unset] []))
  refine own_go (fun _ kt => XS.aloadN X52.here hx rfl (hb hby d7_28) rfl rfl kt) ?_
  show own_G p.tables e below _ (T52.setTop (mkF m 29 #[.val (.ref p0), .val (.long p1), .second, .val (.int p2), .unset] [(.ref p0)]))
  refine own_go (fun _ kt => XS.aloadN X52.here hx rfl (hb hby d7_29) rfl rfl kt) ?_
  show own_G p.tables e below _ (T52.setTop (mkF m 30 #[.val (.ref p0), .val (.long p1), .second, .val (.int p2), .unset] [(.ref p0), (.ref p0)]))
  obtain ⟨T53, X53, e53, st53⟩ := getF X52 hx hZ hown (host := "") (Or.inl (hw _ (List.mem_of_getElem? (i := 28) rfl))) Via.refl e52 F_size (g := (mkF m 30 #[.val (.ref p0), .val (.long p1), .second, .val (.int p2), .unset] [(.ref p0), (.ref p0)])) rfl rfl (hb hby d7_30)
  refine own_go st53 ?_
  show own_G p.tables e below _ (T53.setTop (mkF m 33 #[.val (.ref p0), .val (.long p1), .second, .val (.int p2), .unset] [(.long (Int64.ofNat S)), (.ref p0)]))
  refine own_go (fun _ kt => XS.l2i X53.here hx rfl (hb hby d7_33) rfl kt) ?_
  show own_G p.tables e below _ (T53.setTop (mkF m 34 #[.val (.ref p0), .val (.long p1), .second, .val (.int p2), .unset] [(.int ((Int64.ofNat S).toInt32)), (.ref p0)]))
  rw [z2]
  show own_G p.tables e below _ (T53.setTop (mkF m 34 #[.val (.ref p0), .val (.long p1), .second, .val (.int p2), .unset] [(.int (Int32.ofNat S)), (.ref p0)]))
  obtain ⟨T54, h54, k54, X54, e54, E54, A54, st54⟩ := newP X53 hx hZ (hw _ (List.mem_of_getElem? (i := 38) rfl)) e53 (g := (mkF m 34 #[.val (.ref p0), .val (.long p1), .second, .val (.int p2), .unset] [(.int (Int32.ofNat S)), (.ref p0)])) rfl (hb hby d7_34) rfl z4 (cap := 1024) (by omega) (by decide) (Nat.le_of_ble_eq_true rfl) (Nat.le_of_ble_eq_true rfl)
  obtain ⟨b54, g54⟩ : ∃ z, z = h0.size := ⟨_, rfl⟩
  rw [← g54] at A54 st54
  have ne_p0_b54 : p0 ≠ b54 := Nat.ne_of_lt (Nat.lt_of_lt_of_le E0.lt (Nat.le_of_eq g54.symm))
  have g_b54 : n0 ≤ b54 := Nat.le_trans Z0 (Nat.le_of_eq g54.symm)
  refine own_go st54 ?_
  have Z54 : n0 ≤ h54.size := Nat.le_trans Z0 E54.1
  have V54 := own_A.new A54 (N := S) z6
  show own_G p.tables e below _ (T54.setTop (mkF m 36 #[.val (.ref p0), .val (.long p1), .second, .val (.int p2), .unset] [(.ref b54), (.ref p0)]))
  have u55 := (F_patterns.ext E54)
  have u56 := (E0.ext E54)
  obtain ⟨T57, h57, X57, e57, W57, st57⟩ := putF X54 hx hZ hown (host := "") (Or.inl (hw _ (List.mem_of_getElem? (i := 35) rfl))) Via.refl e54 u55 u56 (Or.inl (hw _ (List.mem_of_getElem? (i := 36) rfl))) (hw _ (List.mem_of_getElem? (i := 3) rfl)) (ty := (.array .int)) (by decide) rfl rfl (g := (mkF m 36 #[.val (.ref p0), .val (.long p1), .second, .val (.int p2), .unset] [(.ref b54), (.ref p0)])) rfl rfl (hb hby d7_36)
  refine own_go st57 ?_
  have N57 := Fr.snoc X57 N0 g0
  have Z57 : n0 ≤ h57.size := Nat.le_trans Z54 (Keep.of_wr W57).1
  have Fw57 := Fld.same W57 u55
  show own_G p.tables e below _ (T57.setTop (mkF m 39 #[.val (.ref p0), .val (.long p1), .second, .val (.int p2), .unset] []))
  refine own_go (fun _ kt => XS.aloadN X57.here hx rfl (hb hby d7_39) rfl rfl kt) ?_
  show own_G p.tables e below _ (T57.setTop (mkF m 40 #[.val (.ref p0), .val (.long p1), .second, .val (.int p2), .unset] [(.ref p0)]))
  refine own_go (fun _ kt => XS.aloadN X57.here hx rfl (hb hby d7_40) rfl rfl kt) ?_
  show own_G p.tables e below _ (T57.setTop (mkF m 41 #[.val (.ref p0), .val (.long p1), .second, .val (.int p2), .unset] [(.ref p0), (.ref p0)]))
  have u58 := ((F_size.ext E54).other W57 (Or.inr (slot_ne (Or.inr (hw _ (List.mem_of_getElem? (i := 29) rfl))) (Or.inl (hw _ (List.mem_of_getElem? (i := 36) rfl))) (by decide) (t := .long) (t' := (.array .int)) (by decide) (by decide))))
  obtain ⟨T59, X59, e59, st59⟩ := getF X57 hx hZ hown (host := "") (Or.inl (hw _ (List.mem_of_getElem? (i := 28) rfl))) Via.refl e57 u58 (g := (mkF m 41 #[.val (.ref p0), .val (.long p1), .second, .val (.int p2), .unset] [(.ref p0), (.ref p0)])) rfl rfl (hb hby d7_41)
  refine own_go st59 ?_
  show own_G p.tables e below _ (T59.setTop (mkF m 44 #[.val (.ref p0), .val (.long p1), .second, .val (.int p2), .unset] [(.long (Int64.ofNat S)), (.ref p0)]))
  refine own_go (X59.ldc2Long hx hown (mvT hZ (hw _ (List.mem_of_getElem? (i := 39) rfl))) (g := (mkF m 44 #[.val (.ref p0), .val (.long p1), .second, .val (.int p2), .unset] [(.long (Int64.ofNat S)), (.ref p0)])) rfl (hb hby d7_44)) ?_
  show own_G p.tables e below _ (T59.setTop (mkF m 47 #[.val (.ref p0), .val (.long p1), .second, .val (.int p2), .unset] [(.long (64 : Int64)), (.long (Int64.ofNat S)), (.ref p0)]))
  refine own_go (fun _ kt => XS.ldiv X59.here hx rfl (hb hby d7_47) rfl (by decide) kt) ?_
  show own_G p.tables e below _ (T59.setTop (mkF m 48 #[.val (.ref p0), .val (.long p1), .second, .val (.int p2), .unset] [(.long ((Int64.ofNat S) / (64 : Int64))), (.ref p0)]))
  refine own_go (fun _ kt => XS.l2i X59.here hx rfl (hb hby d7_48) rfl kt) ?_
  show own_G p.tables e below _ (T59.setTop (mkF m 49 #[.val (.ref p0), .val (.long p1), .second, .val (.int p2), .unset] [(.int (((Int64.ofNat S) / (64 : Int64)).toInt32)), (.ref p0)]))
  rw [z3]
  show own_G p.tables e below _ (T59.setTop (mkF m 49 #[.val (.ref p0), .val (.long p1), .second, .val (.int p2), .unset] [(.int (Int32.ofNat (S / 64))), (.ref p0)]))
  obtain ⟨T60, h60, k60, X60, e60, E60, A60, st60⟩ := newP X59 hx hZ (hw _ (List.mem_of_getElem? (i := 40) rfl)) e59 (g := (mkF m 49 #[.val (.ref p0), .val (.long p1), .second, .val (.int p2), .unset] [(.int (Int32.ofNat (S / 64))), (.ref p0)])) rfl (hb hby d7_49) rfl z5 (cap := 16) (by omega) (by decide) (Nat.le_of_ble_eq_true rfl) (Nat.le_of_ble_eq_true rfl)
  obtain ⟨b60, g60⟩ : ∃ z, z = h57.size := ⟨_, rfl⟩
  rw [← g60] at A60 st60
  have u61 := (V54.other W57 (Ne.symm ne_p0_b54))
  have ne_b54_b60 : b54 ≠ b60 := Nat.ne_of_lt (Nat.lt_of_lt_of_le u61.lt (Nat.le_of_eq g60.symm))
  have u62 := (u56.wr W57)
  have ne_p0_b60 : p0 ≠ b60 := Nat.ne_of_lt (Nat.lt_of_lt_of_le u62.lt (Nat.le_of_eq g60.symm))
  have g_b60 : n0 ≤ b60 := Nat.le_trans Z57 (Nat.le_of_eq g60.symm)
  refine own_go st60 ?_
  have Z60 : n0 ≤ h60.size := Nat.le_trans Z57 E60.1
  have V60 := own_A.new A60 (N := (S / 64)) z7
  show own_G p.tables e below _ (T60.setTop (mkF m 51 #[.val (.ref p0), .val (.long p1), .second, .val (.int p2), .unset] [(.ref b60), (.ref p0)]))
  have u63 := (((F_used.ext E54).other W57 (Or.inr (slot_ne (Or.inl (hw _ (List.mem_of_getElem? (i := 42) rfl))) (Or.inl (hw _ (List.mem_of_getElem? (i := 36) rfl))) (by decide) (t := (.array .long)) (t' := (.array .int)) (by decide) (by decide)))).ext E60)
  have u64 := (u62.ext E60)
  obtain ⟨T65, h65, X65, e65, W65, st65⟩ := putF X60 hx hZ hown (host := "") (Or.inl (hw _ (List.mem_of_getElem? (i := 41) rfl))) Via.refl e60 u63 u64 (Or.inl (hw _ (List.mem_of_getElem? (i := 42) rfl))) (hw _ (List.mem_of_getElem? (i := 3) rfl)) (ty := (.array .long)) (by decide) rfl rfl (g := (mkF m 51 #[.val (.ref p0), .val (.long p1), .second, .val (.int p2), .unset] [(.ref b60), (.ref p0)])) rfl rfl (hb hby d7_51)
  refine own_go st65 ?_
  have N65 := Fr.snoc X65 N57 g0
  have Z65 : n0 ≤ h65.size := Nat.le_trans Z60 (Keep.of_wr W65).1
  have Fw65 := Fld.same W65 u63
  obtain ⟨f, hf⟩ : ∃ f : Nat → Int32, f = fun _ => 0 := ⟨_, rfl⟩
  obtain ⟨u, hu⟩ : ∃ u : Nat → Int64, u = fun _ => 0 := ⟨_, rfl⟩
  have u66 := ((u61.ext E60).other W65 (Ne.symm ne_p0_b54))
  have VVp : own_A Z h65 b54 .int S (fun j => .int (f j)) := by rw [hf]; exact u66
  have u67 := (V60.other W65 (Ne.symm ne_p0_b60))
  have VVu : own_A Z h65 b60 .long (S / 64) (fun j => .long (u j)) := by rw [hu]; exact u67
  have U : own_U u (S / 64) (fun _ => false) := by rw [hu]; exact own_U0 _
  have hP : (fun _ : Nat => false) sN = false := rfl
  obtain ⟨hs1, hs2, hs3, hs4⟩ := own_slt ok hs
  have hc1 := own_clamp (i := sN) (by omega)
  have hc2 := own_clamp (i := sN / 64) (by omega)
  have hi1 := own_nat (i := sN) (by omega)
  have hi2 := own_nat (i := sN / 64) (by omega)
  show own_G p.tables e below _ (T65.setTop (mkF m 54 #[.val (.ref p0), .val (.long p1), .second, .val (.int p2), .unset] []))
  refine own_go (fun _ kt => XS.lloadN X65.here hx rfl (hb hby d7_54) rfl kt) ?_
  show own_G p.tables e below _ (T65.setTop (mkF m 55 #[.val (.ref p0), .val (.long p1), .second, .val (.int p2), .unset] [(.long p1)]))
  refine own_go (fun _ kt => XS.l2i X65.here hx rfl (hb hby d7_55) rfl kt) ?_
  show own_G p.tables e below _ (T65.setTop (mkF m 56 #[.val (.ref p0), .val (.long p1), .second, .val (.int p2), .unset] [(.int (p1.toInt32))]))
  refine own_go (fun _ kt => XS.aloadN X65.here hx rfl (hb hby d7_56) rfl rfl kt) ?_
  show own_G p.tables e below _ (T65.setTop (mkF m 57 #[.val (.ref p0), .val (.long p1), .second, .val (.int p2), .unset] [(.ref p0), (.int (p1.toInt32))]))
  have u68 := ((Fw57.ext E60).other W65 (Or.inr (slot_ne (Or.inl (hw _ (List.mem_of_getElem? (i := 36) rfl))) (Or.inl (hw _ (List.mem_of_getElem? (i := 42) rfl))) (by decide) (t := (.array .int)) (t' := (.array .long)) (by decide) (by decide))))
  obtain ⟨T69, X69, e69, st69⟩ := getF X65 hx hZ hown (host := "") (Or.inl (hw _ (List.mem_of_getElem? (i := 35) rfl))) Via.refl e65 u68 (g := (mkF m 57 #[.val (.ref p0), .val (.long p1), .second, .val (.int p2), .unset] [(.ref p0), (.int (p1.toInt32))])) rfl rfl (hb hby d7_57)
  refine own_go st69 ?_
  show own_G p.tables e below _ (T69.setTop (mkF m 60 #[.val (.ref p0), .val (.long p1), .second, .val (.int p2), .unset] [(.ref b54), (.int (p1.toInt32))]))
  refine own_go (own_len X69 hx hZ e69 VVp (z := (Int32.ofNat S)) (own_len32 ok) (g := (mkF m 60 #[.val (.ref p0), .val (.long p1), .second, .val (.int p2), .unset] [(.ref b54), (.int (p1.toInt32))])) rfl rfl (hb hby d7_60)) ?_
  show own_G p.tables e below _ (T69.setTop (mkF m 61 #[.val (.ref p0), .val (.long p1), .second, .val (.int p2), .unset] [(.int (Int32.ofNat S)), (.int (p1.toInt32))]))
  refine own_go (fun _ kt => XS.iconst X69.here hx rfl (hb hby d7_61) kt) ?_
  show own_G p.tables e below _ (T69.setTop (mkF m 62 #[.val (.ref p0), .val (.long p1), .second, .val (.int p2), .unset] [(.int (1 : Int32)), (.int (Int32.ofNat S)), (.int (p1.toInt32))]))
  refine own_go (fun _ kt => XS.isub X69.here hx rfl (hb hby d7_62) rfl kt) ?_
  show own_G p.tables e below _ (T69.setTop (mkF m 63 #[.val (.ref p0), .val (.long p1), .second, .val (.int p2), .unset] [(.int ((Int32.ofNat S) - (1 : Int32))), (.int (p1.toInt32))]))
  refine own_go (fun _ kt => XS.iand X69.here hx rfl (hb hby d7_63) rfl kt) ?_
  show own_G p.tables e below _ (T69.setTop (mkF m 64 #[.val (.ref p0), .val (.long p1), .second, .val (.int p2), .unset] [(.int ((p1.toInt32) &&& ((Int32.ofNat S) - (1 : Int32))))]))
  rw [own_slot ok hs]
  show own_G p.tables e below _ (T69.setTop (mkF m 64 #[.val (.ref p0), .val (.long p1), .second, .val (.int p2), .unset] [(.int (Int32.ofNat sN))]))
  refine own_go (fun _ kt => XS.istore X69.here hx rfl (hb hby d7_64) rfl (l' := #[.val (.ref p0), .val (.long p1), .second, .val (.int p2), .val (.int (Int32.ofNat sN))]) rfl kt) ?_
  show own_G p.tables e below _ (T69.setTop (mkF m 66 #[.val (.ref p0), .val (.long p1), .second, .val (.int p2), .val (.int (Int32.ofNat sN))] []))
  refine own_go (fun _ kt => XS.aloadN X69.here hx rfl (hb hby d7_66) rfl rfl kt) ?_
  show own_G p.tables e below _ (T69.setTop (mkF m 67 #[.val (.ref p0), .val (.long p1), .second, .val (.int p2), .val (.int (Int32.ofNat sN))] [(.ref p0)]))
  obtain ⟨T70, X70, e70, st70⟩ := getF X69 hx hZ hown (host := "") (Or.inl (hw _ (List.mem_of_getElem? (i := 41) rfl))) Via.refl e69 Fw65 (g := (mkF m 67 #[.val (.ref p0), .val (.long p1), .second, .val (.int p2), .val (.int (Int32.ofNat sN))] [(.ref p0)])) rfl rfl (hb hby d7_67)
  refine own_go st70 ?_
  show own_G p.tables e below _ (T70.setTop (mkF m 70 #[.val (.ref p0), .val (.long p1), .second, .val (.int p2), .val (.int (Int32.ofNat sN))] [(.ref b60)]))
  refine own_go (fun _ kt => XS.iload X70.here hx rfl (hb hby d7_70) rfl kt) ?_
  show own_G p.tables e below _ (T70.setTop (mkF m 72 #[.val (.ref p0), .val (.long p1), .second, .val (.int p2), .val (.int (Int32.ofNat sN))] [(.int (Int32.ofNat sN)), (.ref b60)]))
  refine own_go (fun _ kt => XS.bipush X70.here hx rfl (hb hby d7_72) kt) ?_
  show own_G p.tables e below _ (T70.setTop (mkF m 74 #[.val (.ref p0), .val (.long p1), .second, .val (.int p2), .val (.int (Int32.ofNat sN))] [(.int (6 : Int32)), (.int (Int32.ofNat sN)), (.ref b60)]))
  refine own_go (fun _ kt => XS.iushr X70.here hx rfl (hb hby d7_74) rfl kt) ?_
  show own_G p.tables e below _ (T70.setTop (mkF m 75 #[.val (.ref p0), .val (.long p1), .second, .val (.int p2), .val (.int (Int32.ofNat sN))] [(.int (((Int32.ofNat sN).toUInt32 >>> ((6 : Int32) &&& 31).toUInt32).toInt32)), (.ref b60)]))
  rw [own_shr6 (show sN < 2147483648 by omega)]
  show own_G p.tables e below _ (T70.setTop (mkF m 75 #[.val (.ref p0), .val (.long p1), .second, .val (.int p2), .val (.int (Int32.ofNat sN))] [(.int (Int32.ofNat (sN / 64))), (.ref b60)]))
  refine own_go (own_ldJ X70 hx hZ e70 VVu (j := (Int32.ofNat (sN / 64))) (v := (.long (u (sN / 64)))) (by omega) (by omega) (congrArg (fun j => Value.long (u j)) hc2) (g := (mkF m 75 #[.val (.ref p0), .val (.long p1), .second, .val (.int p2), .val (.int (Int32.ofNat sN))] [(.int (Int32.ofNat (sN / 64))), (.ref b60)])) rfl rfl (hb hby d7_75)) ?_
  show own_G p.tables e below _ (T70.setTop (mkF m 76 #[.val (.ref p0), .val (.long p1), .second, .val (.int p2), .val (.int (Int32.ofNat sN))] [(.long (u (sN / 64)))]))
  refine own_go (fun _ kt => XS.lconst X70.here hx rfl (hb hby d7_76) kt) ?_
  show own_G p.tables e below _ (T70.setTop (mkF m 77 #[.val (.ref p0), .val (.long p1), .second, .val (.int p2), .val (.int (Int32.ofNat sN))] [(.long (1 : Int64)), (.long (u (sN / 64)))]))
  refine own_go (fun _ kt => XS.iload X70.here hx rfl (hb hby d7_77) rfl kt) ?_
  show own_G p.tables e below _ (T70.setTop (mkF m 79 #[.val (.ref p0), .val (.long p1), .second, .val (.int p2), .val (.int (Int32.ofNat sN))] [(.int (Int32.ofNat sN)), (.long (1 : Int64)), (.long (u (sN / 64)))]))
  refine own_go (fun _ kt => XS.lshl X70.here hx rfl (hb hby d7_79) rfl kt) ?_
  show own_G p.tables e below _ (T70.setTop (mkF m 80 #[.val (.ref p0), .val (.long p1), .second, .val (.int p2), .val (.int (Int32.ofNat sN))] [(.long ((1 : Int64) <<< ((Int32.ofNat sN) &&& 0x3f).toInt64)), (.long (u (sN / 64)))]))
  refine own_go (fun _ kt => XS.land X70.here hx rfl (hb hby d7_80) rfl kt) ?_
  show own_G p.tables e below _ (T70.setTop (mkF m 81 #[.val (.ref p0), .val (.long p1), .second, .val (.int p2), .val (.int (Int32.ofNat sN))] [(.long ((u (sN / 64)) &&& ((1 : Int64) <<< ((Int32.ofNat sN) &&& 0x3f).toInt64)))]))
  refine own_go (fun _ kt => XS.lconst X70.here hx rfl (hb hby d7_81) kt) ?_
  show own_G p.tables e below _ (T70.setTop (mkF m 82 #[.val (.ref p0), .val (.long p1), .second, .val (.int p2), .val (.int (Int32.ofNat sN))] [(.long (0 : Int64)), (.long ((u (sN / 64)) &&& ((1 : Int64) <<< ((Int32.ofNat sN) &&& 0x3f).toInt64)))]))
  refine own_go (fun _ kt => XS.lcmp X70.here hx rfl (hb hby d7_82) rfl kt) ?_
  show own_G p.tables e below _ (T70.setTop (mkF m 83 #[.val (.ref p0), .val (.long p1), .second, .val (.int p2), .val (.int (Int32.ofNat sN))] [(.int (lcmpW ((u (sN / 64)) &&& ((1 : Int64) <<< ((Int32.ofNat sN) &&& 0x3f).toInt64)) (0 : Int64)))]))
  refine own_go (fun _ kt => XS.ifNo X70.here hx rfl (hb hby d7_83) rfl ((if0 _ _).trans (teq (own_lq.mpr ((own_Utest U (by omega) hs4).mpr hP) : (lcmpW ((u (sN / 64)) &&& ((1 : Int64) <<< ((Int32.ofNat sN) &&& 0x3f).toInt64)) (0 : Int64)) = (0 : Int32))).2) kt) ?_
  show own_G p.tables e below _ (T70.setTop (mkF m 86 #[.val (.ref p0), .val (.long p1), .second, .val (.int p2), .val (.int (Int32.ofNat sN))] []))
  refine own_go (fun _ kt => XS.aloadN X70.here hx rfl (hb hby d7_86) rfl rfl kt) ?_
  show own_G p.tables e below _ (T70.setTop (mkF m 87 #[.val (.ref p0), .val (.long p1), .second, .val (.int p2), .val (.int (Int32.ofNat sN))] [(.ref p0)]))
  obtain ⟨T71, X71, e71, st71⟩ := getF X70 hx hZ hown (host := "") (Or.inl (hw _ (List.mem_of_getElem? (i := 41) rfl))) Via.refl e70 Fw65 (g := (mkF m 87 #[.val (.ref p0), .val (.long p1), .second, .val (.int p2), .val (.int (Int32.ofNat sN))] [(.ref p0)])) rfl rfl (hb hby d7_87)
  refine own_go st71 ?_
  show own_G p.tables e below _ (T71.setTop (mkF m 90 #[.val (.ref p0), .val (.long p1), .second, .val (.int p2), .val (.int (Int32.ofNat sN))] [(.ref b60)]))
  refine own_go (fun _ kt => XS.iload X71.here hx rfl (hb hby d7_90) rfl kt) ?_
  show own_G p.tables e below _ (T71.setTop (mkF m 92 #[.val (.ref p0), .val (.long p1), .second, .val (.int p2), .val (.int (Int32.ofNat sN))] [(.int (Int32.ofNat sN)), (.ref b60)]))
  refine own_go (fun _ kt => XS.bipush X71.here hx rfl (hb hby d7_92) kt) ?_
  show own_G p.tables e below _ (T71.setTop (mkF m 94 #[.val (.ref p0), .val (.long p1), .second, .val (.int p2), .val (.int (Int32.ofNat sN))] [(.int (6 : Int32)), (.int (Int32.ofNat sN)), (.ref b60)]))
  refine own_go (fun _ kt => XS.iushr X71.here hx rfl (hb hby d7_94) rfl kt) ?_
  show own_G p.tables e below _ (T71.setTop (mkF m 95 #[.val (.ref p0), .val (.long p1), .second, .val (.int p2), .val (.int (Int32.ofNat sN))] [(.int (((Int32.ofNat sN).toUInt32 >>> ((6 : Int32) &&& 31).toUInt32).toInt32)), (.ref b60)]))
  rw [own_shr6 (show sN < 2147483648 by omega)]
  show own_G p.tables e below _ (T71.setTop (mkF m 95 #[.val (.ref p0), .val (.long p1), .second, .val (.int p2), .val (.int (Int32.ofNat sN))] [(.int (Int32.ofNat (sN / 64))), (.ref b60)]))
  refine own_go (fun _ kt => XT.dup2 X71.here hx rfl (hb hby d7_95) rfl rfl rfl kt) ?_
  show own_G p.tables e below _ (T71.setTop (mkF m 96 #[.val (.ref p0), .val (.long p1), .second, .val (.int p2), .val (.int (Int32.ofNat sN))] [(.int (Int32.ofNat (sN / 64))), (.ref b60), (.int (Int32.ofNat (sN / 64))), (.ref b60)]))
  refine own_go (own_ldJ X71 hx hZ e71 VVu (j := (Int32.ofNat (sN / 64))) (v := (.long (u (sN / 64)))) (by omega) (by omega) (congrArg (fun j => Value.long (u j)) hc2) (g := (mkF m 96 #[.val (.ref p0), .val (.long p1), .second, .val (.int p2), .val (.int (Int32.ofNat sN))] [(.int (Int32.ofNat (sN / 64))), (.ref b60), (.int (Int32.ofNat (sN / 64))), (.ref b60)])) rfl rfl (hb hby d7_96)) ?_
  show own_G p.tables e below _ (T71.setTop (mkF m 97 #[.val (.ref p0), .val (.long p1), .second, .val (.int p2), .val (.int (Int32.ofNat sN))] [(.long (u (sN / 64))), (.int (Int32.ofNat (sN / 64))), (.ref b60)]))
  refine own_go (fun _ kt => XS.lconst X71.here hx rfl (hb hby d7_97) kt) ?_
  show own_G p.tables e below _ (T71.setTop (mkF m 98 #[.val (.ref p0), .val (.long p1), .second, .val (.int p2), .val (.int (Int32.ofNat sN))] [(.long (1 : Int64)), (.long (u (sN / 64))), (.int (Int32.ofNat (sN / 64))), (.ref b60)]))
  refine own_go (fun _ kt => XS.iload X71.here hx rfl (hb hby d7_98) rfl kt) ?_
  show own_G p.tables e below _ (T71.setTop (mkF m 100 #[.val (.ref p0), .val (.long p1), .second, .val (.int p2), .val (.int (Int32.ofNat sN))] [(.int (Int32.ofNat sN)), (.long (1 : Int64)), (.long (u (sN / 64))), (.int (Int32.ofNat (sN / 64))), (.ref b60)]))
  refine own_go (fun _ kt => XS.lshl X71.here hx rfl (hb hby d7_100) rfl kt) ?_
  show own_G p.tables e below _ (T71.setTop (mkF m 101 #[.val (.ref p0), .val (.long p1), .second, .val (.int p2), .val (.int (Int32.ofNat sN))] [(.long ((1 : Int64) <<< ((Int32.ofNat sN) &&& 0x3f).toInt64)), (.long (u (sN / 64))), (.int (Int32.ofNat (sN / 64))), (.ref b60)]))
  refine own_go (fun _ kt => XS.lor X71.here hx rfl (hb hby d7_101) rfl kt) ?_
  show own_G p.tables e below _ (T71.setTop (mkF m 102 #[.val (.ref p0), .val (.long p1), .second, .val (.int p2), .val (.int (Int32.ofNat sN))] [(.long ((u (sN / 64)) ||| ((1 : Int64) <<< ((Int32.ofNat sN) &&& 0x3f).toInt64))), (.int (Int32.ofNat (sN / 64))), (.ref b60)]))
  obtain ⟨T72, h72, X72, e72, W72, V72, st72⟩ := own_stJ X71 hx hZ e71 VVu (j := (Int32.ofNat (sN / 64))) (by omega) (by omega) (g := (mkF m 102 #[.val (.ref p0), .val (.long p1), .second, .val (.int p2), .val (.int (Int32.ofNat sN))] [(.long ((u (sN / 64)) ||| ((1 : Int64) <<< ((Int32.ofNat sN) &&& 0x3f).toInt64))), (.int (Int32.ofNat (sN / 64))), (.ref b60)])) rfl rfl (hb hby d7_102)
  refine own_go st72 ?_
  have N72 := Fr.snoc X72 N65 g_b60
  have Z72 : n0 ≤ h72.size := Nat.le_trans Z65 (Keep.of_wr W72).1
  rw [hc2, own_upd_long] at V72
  show own_G p.tables e below _ (T72.setTop (mkF m 103 #[.val (.ref p0), .val (.long p1), .second, .val (.int p2), .val (.int (Int32.ofNat sN))] []))
  refine own_go (fun _ kt => XS.aloadN X72.here hx rfl (hb hby d7_103) rfl rfl kt) ?_
  show own_G p.tables e below _ (T72.setTop (mkF m 104 #[.val (.ref p0), .val (.long p1), .second, .val (.int p2), .val (.int (Int32.ofNat sN))] [(.ref p0)]))
  refine own_go (fun _ kt => XS.dup X72.here hx rfl (hb hby d7_104) rfl rfl kt) ?_
  show own_G p.tables e below _ (T72.setTop (mkF m 105 #[.val (.ref p0), .val (.long p1), .second, .val (.int p2), .val (.int (Int32.ofNat sN))] [(.ref p0), (.ref p0)]))
  have u73 := (((((F_count.ext E54).other W57 (Or.inr (slot_ne (Or.inl (hw _ (List.mem_of_getElem? (i := 44) rfl))) (Or.inl (hw _ (List.mem_of_getElem? (i := 36) rfl))) (by decide) (t := .int) (t' := (.array .int)) (by decide) (by decide)))).ext E60).other W65 (Or.inr (slot_ne (Or.inl (hw _ (List.mem_of_getElem? (i := 44) rfl))) (Or.inl (hw _ (List.mem_of_getElem? (i := 42) rfl))) (by decide) (t := .int) (t' := (.array .long)) (by decide) (by decide)))).other W72 (Or.inl ne_p0_b60))
  obtain ⟨T74, X74, e74, st74⟩ := getF X72 hx hZ hown (host := "") (Or.inl (hw _ (List.mem_of_getElem? (i := 43) rfl))) Via.refl e72 u73 (g := (mkF m 105 #[.val (.ref p0), .val (.long p1), .second, .val (.int p2), .val (.int (Int32.ofNat sN))] [(.ref p0), (.ref p0)])) rfl rfl (hb hby d7_105)
  refine own_go st74 ?_
  show own_G p.tables e below _ (T74.setTop (mkF m 108 #[.val (.ref p0), .val (.long p1), .second, .val (.int p2), .val (.int (Int32.ofNat sN))] [(.int (0 : Int32)), (.ref p0)]))
  refine own_go (fun _ kt => XS.iconst X74.here hx rfl (hb hby d7_108) kt) ?_
  show own_G p.tables e below _ (T74.setTop (mkF m 109 #[.val (.ref p0), .val (.long p1), .second, .val (.int p2), .val (.int (Int32.ofNat sN))] [(.int (1 : Int32)), (.int (0 : Int32)), (.ref p0)]))
  refine own_go (fun _ kt => XS.iadd X74.here hx rfl (hb hby d7_109) rfl kt) ?_
  show own_G p.tables e below _ (T74.setTop (mkF m 110 #[.val (.ref p0), .val (.long p1), .second, .val (.int p2), .val (.int (Int32.ofNat sN))] [(.int ((0 : Int32) + (1 : Int32))), (.ref p0)]))
  have u75 := ((u64.wr W65).wr W72)
  obtain ⟨T76, h76, X76, e76, W76, st76⟩ := putF X74 hx hZ hown (host := "") (Or.inl (hw _ (List.mem_of_getElem? (i := 43) rfl))) Via.refl e74 u73 u75 (Or.inl (hw _ (List.mem_of_getElem? (i := 44) rfl))) (hw _ (List.mem_of_getElem? (i := 3) rfl)) (ty := .int) (by decide) rfl rfl (g := (mkF m 110 #[.val (.ref p0), .val (.long p1), .second, .val (.int p2), .val (.int (Int32.ofNat sN))] [(.int ((0 : Int32) + (1 : Int32))), (.ref p0)])) rfl rfl (hb hby d7_110)
  refine own_go st76 ?_
  have N76 := Fr.snoc X76 N72 g0
  have Z76 : n0 ≤ h76.size := Nat.le_trans Z72 (Keep.of_wr W76).1
  have Fw76 := Fld.same W76 u73
  show own_G p.tables e below _ (T76.setTop (mkF m 113 #[.val (.ref p0), .val (.long p1), .second, .val (.int p2), .val (.int (Int32.ofNat sN))] []))
  refine own_go (fun _ kt => XS.aloadN X76.here hx rfl (hb hby d7_113) rfl rfl kt) ?_
  show own_G p.tables e below _ (T76.setTop (mkF m 114 #[.val (.ref p0), .val (.long p1), .second, .val (.int p2), .val (.int (Int32.ofNat sN))] [(.ref p0)]))
  have u77 := ((u68.other W72 (Or.inl ne_p0_b60)).other W76 (Or.inr (slot_ne (Or.inl (hw _ (List.mem_of_getElem? (i := 36) rfl))) (Or.inl (hw _ (List.mem_of_getElem? (i := 44) rfl))) (by decide) (t := (.array .int)) (t' := .int) (by decide) (by decide))))
  obtain ⟨T78, X78, e78, st78⟩ := getF X76 hx hZ hown (host := "") (Or.inl (hw _ (List.mem_of_getElem? (i := 35) rfl))) Via.refl e76 u77 (g := (mkF m 114 #[.val (.ref p0), .val (.long p1), .second, .val (.int p2), .val (.int (Int32.ofNat sN))] [(.ref p0)])) rfl rfl (hb hby d7_114)
  refine own_go st78 ?_
  show own_G p.tables e below _ (T78.setTop (mkF m 117 #[.val (.ref p0), .val (.long p1), .second, .val (.int p2), .val (.int (Int32.ofNat sN))] [(.ref b54)]))
  refine own_go (fun _ kt => XS.iload X78.here hx rfl (hb hby d7_117) rfl kt) ?_
  show own_G p.tables e below _ (T78.setTop (mkF m 119 #[.val (.ref p0), .val (.long p1), .second, .val (.int p2), .val (.int (Int32.ofNat sN))] [(.int (Int32.ofNat sN)), (.ref b54)]))
  refine own_go (fun _ kt => XS.iloadN X78.here hx rfl (hb hby d7_119) rfl kt) ?_
  show own_G p.tables e below _ (T78.setTop (mkF m 120 #[.val (.ref p0), .val (.long p1), .second, .val (.int p2), .val (.int (Int32.ofNat sN))] [(.int p2), (.int (Int32.ofNat sN)), (.ref b54)]))
  have u79 := ((VVp.other W72 ne_b54_b60).other W76 (Ne.symm ne_p0_b54))
  obtain ⟨T80, h80, X80, e80, W80, V80, st80⟩ := own_stI X78 hx hZ e78 u79 (j := (Int32.ofNat sN)) (by omega) (by omega) (g := (mkF m 120 #[.val (.ref p0), .val (.long p1), .second, .val (.int p2), .val (.int (Int32.ofNat sN))] [(.int p2), (.int (Int32.ofNat sN)), (.ref b54)])) rfl rfl (hb hby d7_120)
  refine own_go st80 ?_
  have N80 := Fr.snoc X80 N76 g_b54
  have Z80 : n0 ≤ h80.size := Nat.le_trans Z76 (Keep.of_wr W80).1
  rw [hc1, own_upd_int] at V80
  subst hf
  have UU := own_Uset U (s := sN) (by omega)
  have u81 := ((u75.wr W76).wr W80)
  have u82 := (((((u58.ext E60).other W65 (Or.inr (slot_ne (Or.inr (hw _ (List.mem_of_getElem? (i := 29) rfl))) (Or.inl (hw _ (List.mem_of_getElem? (i := 42) rfl))) (by decide) (t := .long) (t' := (.array .long)) (by decide) (by decide)))).other W72 (Or.inl ne_p0_b60)).other W76 (Or.inr (slot_ne (Or.inr (hw _ (List.mem_of_getElem? (i := 29) rfl))) (Or.inl (hw _ (List.mem_of_getElem? (i := 44) rfl))) (by decide) (t := .long) (t' := .int) (by decide) (by decide)))).other W80 (Or.inl ne_p0_b54))
  have u83 := (u77.other W80 (Or.inl ne_p0_b54))
  have u84 := (((Fw65.other W72 (Or.inl ne_p0_b60)).other W76 (Or.inr (slot_ne (Or.inl (hw _ (List.mem_of_getElem? (i := 42) rfl))) (Or.inl (hw _ (List.mem_of_getElem? (i := 44) rfl))) (by decide) (t := (.array .long)) (t' := .int) (by decide) (by decide)))).other W80 (Or.inl ne_p0_b54))
  have u85 := (Fw76.other W80 (Or.inl ne_p0_b54))
  have u86 := ((V72.other W76 (Ne.symm ne_p0_b60)).other W80 (Ne.symm ne_b54_b60))
  show own_G p.tables e below _ (T80.setTop (mkF m 121 #[.val (.ref p0), .val (.long p1), .second, .val (.int p2), .val (.int (Int32.ofNat sN))] []))
  exact own_retV X80 hx Bd.returns hlk (hb hby d7_121) (Nat.le_of_ble_eq_true rfl) (Nat.le_of_ble_eq_true rfl) e80 ⟨rfl, N80, Z80, _, _, _, ⟨u81, u82, u83, u84, u85, V80, u86, ne_p0_b54, ne_p0_b60, ne_b54_b60, g0, g_b54, g_b60⟩, by simpa using UU⟩
theorem d8_0 : decode prog_76_method_5_code 0 = .ok (.lload_n 1, 1) := by decide +kernel
theorem d8_1 : decode prog_76_method_5_code 1 = .ok (.l2i, 1) := by decide +kernel
theorem d8_2 : decode prog_76_method_5_code 2 = .ok (.aload_n 0, 1) := by decide +kernel
theorem d8_3 : decode prog_76_method_5_code 3 = .ok (.getfield 29, 3) := by decide +kernel
theorem d8_6 : decode prog_76_method_5_code 6 = .ok (.arraylength, 1) := by decide +kernel
theorem d8_7 : decode prog_76_method_5_code 7 = .ok (.iconst 1, 1) := by decide +kernel
theorem d8_8 : decode prog_76_method_5_code 8 = .ok (.isub, 1) := by decide +kernel
theorem d8_9 : decode prog_76_method_5_code 9 = .ok (.iand, 1) := by decide +kernel
theorem d8_10 : decode prog_76_method_5_code 10 = .ok (.istore_n 3, 1) := by decide +kernel
theorem d8_11 : decode prog_76_method_5_code 11 = .ok (.aload_n 0, 1) := by decide +kernel
theorem d8_12 : decode prog_76_method_5_code 12 = .ok (.getfield 44, 3) := by decide +kernel
theorem d8_15 : decode prog_76_method_5_code 15 = .ok (.iload_n 3, 1) := by decide +kernel
theorem d8_16 : decode prog_76_method_5_code 16 = .ok (.bipush 6, 2) := by decide +kernel
theorem d8_18 : decode prog_76_method_5_code 18 = .ok (.iushr, 1) := by decide +kernel
theorem d8_19 : decode prog_76_method_5_code 19 = .ok (.dup2, 1) := by decide +kernel
theorem d8_20 : decode prog_76_method_5_code 20 = .ok (.laload, 1) := by decide +kernel
theorem d8_21 : decode prog_76_method_5_code 21 = .ok (.lconst 1, 1) := by decide +kernel
theorem d8_22 : decode prog_76_method_5_code 22 = .ok (.iload_n 3, 1) := by decide +kernel
theorem d8_23 : decode prog_76_method_5_code 23 = .ok (.lshl, 1) := by decide +kernel
theorem d8_24 : decode prog_76_method_5_code 24 = .ok (.ldc2_w 52, 3) := by decide +kernel
theorem d8_27 : decode prog_76_method_5_code 27 = .ok (.lxor, 1) := by decide +kernel
theorem d8_28 : decode prog_76_method_5_code 28 = .ok (.land, 1) := by decide +kernel
theorem d8_29 : decode prog_76_method_5_code 29 = .ok (.lastore, 1) := by decide +kernel
theorem d8_30 : decode prog_76_method_5_code 30 = .ok (.aload_n 0, 1) := by decide +kernel
theorem d8_31 : decode prog_76_method_5_code 31 = .ok (.dup, 1) := by decide +kernel
theorem d8_32 : decode prog_76_method_5_code 32 = .ok (.getfield 25, 3) := by decide +kernel
theorem d8_35 : decode prog_76_method_5_code 35 = .ok (.iconst 1, 1) := by decide +kernel
theorem d8_36 : decode prog_76_method_5_code 36 = .ok (.isub, 1) := by decide +kernel
theorem d8_37 : decode prog_76_method_5_code 37 = .ok (.putfield 25, 3) := by decide +kernel
theorem d8_40 : decode prog_76_method_5_code 40 = .ok (.aload_n 0, 1) := by decide +kernel
theorem d8_41 : decode prog_76_method_5_code 41 = .ok (.getfield 29, 3) := by decide +kernel
theorem d8_44 : decode prog_76_method_5_code 44 = .ok (.iload_n 3, 1) := by decide +kernel
theorem d8_45 : decode prog_76_method_5_code 45 = .ok (.iaload, 1) := by decide +kernel
theorem d8_46 : decode prog_76_method_5_code 46 = .ok (.ireturn, 1) := by decide +kernel
theorem ef_take (m : MethodId) (p0 : Addr) (p1 : Int64) : entryFrame m #[(.ref p0), (.long p1)] 4 = mkF m 0 #[.val (.ref p0), .val (.long p1), .second, .unset] [] := by first | (simp [entryFrame, mkF, argsToLocals, Value.category]; done) | rfl
def Q_take (Z : State) (p0 : Addr) (p1 : Int64) (wp : Addr) (wu : Addr) (S : Nat) (c' : Int32) (f : Nat → Int32) (u : Nat → Int64) (P : Nat → Bool) (sN : Nat) (h0 : Heap) (n0 : Nat) (v : Option Value) (h : Heap) (L : List Loc) : Prop := v = some (.int (f sN)) ∧ Fr n0 L ∧ n0 ≤ h.size ∧ ∃ u', own_R Z h n0 p0 wp wu S (c' - 1) f u' ∧ own_U u' (S / 64) (fun j => P j && !decide (j = sN))
set_option maxRecDepth 65536 in
set_option maxHeartbeats 40000000 in
theorem rm_take (l : Launch) (Z : State) (a0 : Array Value) (hw : ∀ d ∈ tables_1, d.before a0 Z = true) (ws : List Jvm.Cond) (p0 : Addr) (p1 : Int64) (wp : Addr) (wu : Addr) (S : Nat) (c' : Int32) (f : Nat → Int32) (u : Nat → Int64) (P : Nat → Bool) (sN : Nat) (h0 : Heap) (n0 : Nat) (Z0 : n0 ≤ h0.size) (R : own_R Z h0 n0 p0 wp wu S c' f u) (ok : own_okS S) (U : own_U u (S / 64) P) (hs : (sN : Int) = p1.toInt % (S : Int)) :
    MetFree l (⟨"com/example/brisk_match/briskmatch/search/StartRing", "take", "(J)I"⟩ : MethodName) (head1 (Jvm.Cond.code (⟨"com/example/brisk_match/briskmatch/search/StartRing", "take", "(J)I"⟩ : MethodName) prog_76_method_5_code 4 (some .int) :: ws) ({ frames := 0, cells := 0, slots := 0, locals := 0 } : Room)) (fun a U => a = #[(.ref p0), (.long p1)] ∧ Z.Warmed39 U.vm ∧ U.heap = h0) (fun _ _ _ _ _ => True) (fun _ U o U' => ∃ v L, o = .returned v ∧ Q_take Z p0 p1 wp wu S c' f u P sN h0 n0 v U'.heap L ∧ FrameEnd U o U' L ({ frames := 0, cells := 0, slots := 0, locals := 0 } : Room).cells ({ frames := 0, cells := 0, slots := 0, locals := 0 } : Room).slots) := by
  refine MetFree.of_bodySF (plainFor_of_name pn_com_example_brisk_match_briskmatch_search_StartRing) hisR ?_
  intro p e s m args below meth kc s₁ Bd hml0 hP hK
  obtain ⟨rfl, hZ, hh⟩ := hP
  have hx := Bd.exec
  have hby := Bd.bytes
  have hlk := Bd.notSynchronized
  have hml : kc.maxLocals = 4 := hml0
  have hown : s.vm.findClass "com/example/brisk_match/briskmatch/search/StartRing" = some m.cls := findClass_of_methodNamed Bd.named
  have hnm := (name_of_methodNamed Bd.named Bd.method).1
  have X0 : Stand p l e ({ frames := 0, cells := 0, slots := 0, locals := 0 } : Room) s m #[(.ref p0), (.long p1)] below meth kc s₁ [] 0 0 := Stand.of_body Bd
  have e0 : s₁.heap = h0 := by rw [← hh, Bd.state]; rfl
  have N0 := Fr.nil n0
  show own_G p.tables e below (own_E below s ({ frames := 0, cells := 0, slots := 0, locals := 0 } : Room).cells ({ frames := 0, cells := 0, slots := 0, locals := 0 } : Room).slots (Q_take Z p0 p1 wp wu S c' f u P sN h0 n0)) _
  refine own_go (fun _ k => castTop (ef_take m p0 p1) k) ?_
  obtain ⟨E_, F_s, F_p, F_u, F_c, V_p, V_u, nb1, nb2, n12, gb, gp, gu⟩ := R
  obtain ⟨hs1, hs2, hs3, hs4⟩ := own_slt ok hs
  have hc1 := own_clamp (i := sN) (by omega)
  have hc2 := own_clamp (i := sN / 64) (by omega)
  have hi1 := own_nat (i := sN) (by omega)
  have hi2 := own_nat (i := sN / 64) (by omega)
  show own_G p.tables e below _ (s₁.setTop (mkF m 0 #[.val (.ref p0), .val (.long p1), .second, .unset] []))
  refine own_go (fun _ kt => XS.lloadN X0.here hx rfl (hb hby d8_0) rfl kt) ?_
  show own_G p.tables e below _ (s₁.setTop (mkF m 1 #[.val (.ref p0), .val (.long p1), .second, .unset] [(.long p1)]))
  refine own_go (fun _ kt => XS.l2i X0.here hx rfl (hb hby d8_1) rfl kt) ?_
  show own_G p.tables e below _ (s₁.setTop (mkF m 2 #[.val (.ref p0), .val (.long p1), .second, .unset] [(.int (p1.toInt32))]))
  refine own_go (fun _ kt => XS.aloadN X0.here hx rfl (hb hby d8_2) rfl rfl kt) ?_
  show own_G p.tables e below _ (s₁.setTop (mkF m 3 #[.val (.ref p0), .val (.long p1), .second, .unset] [(.ref p0), (.int (p1.toInt32))]))
  obtain ⟨T87, X87, e87, st87⟩ := getF X0 hx hZ hown (host := "") (Or.inl (hw _ (List.mem_of_getElem? (i := 35) rfl))) Via.refl e0 F_p (g := (mkF m 3 #[.val (.ref p0), .val (.long p1), .second, .unset] [(.ref p0), (.int (p1.toInt32))])) rfl rfl (hb hby d8_3)
  refine own_go st87 ?_
  show own_G p.tables e below _ (T87.setTop (mkF m 6 #[.val (.ref p0), .val (.long p1), .second, .unset] [(.ref wp), (.int (p1.toInt32))]))
  refine own_go (own_len X87 hx hZ e87 V_p (z := (Int32.ofNat S)) (own_len32 ok) (g := (mkF m 6 #[.val (.ref p0), .val (.long p1), .second, .unset] [(.ref wp), (.int (p1.toInt32))])) rfl rfl (hb hby d8_6)) ?_
  show own_G p.tables e below _ (T87.setTop (mkF m 7 #[.val (.ref p0), .val (.long p1), .second, .unset] [(.int (Int32.ofNat S)), (.int (p1.toInt32))]))
  refine own_go (fun _ kt => XS.iconst X87.here hx rfl (hb hby d8_7) kt) ?_
  show own_G p.tables e below _ (T87.setTop (mkF m 8 #[.val (.ref p0), .val (.long p1), .second, .unset] [(.int (1 : Int32)), (.int (Int32.ofNat S)), (.int (p1.toInt32))]))
  refine own_go (fun _ kt => XS.isub X87.here hx rfl (hb hby d8_8) rfl kt) ?_
  show own_G p.tables e below _ (T87.setTop (mkF m 9 #[.val (.ref p0), .val (.long p1), .second, .unset] [(.int ((Int32.ofNat S) - (1 : Int32))), (.int (p1.toInt32))]))
  refine own_go (fun _ kt => XS.iand X87.here hx rfl (hb hby d8_9) rfl kt) ?_
  show own_G p.tables e below _ (T87.setTop (mkF m 10 #[.val (.ref p0), .val (.long p1), .second, .unset] [(.int ((p1.toInt32) &&& ((Int32.ofNat S) - (1 : Int32))))]))
  rw [own_slot ok hs]
  show own_G p.tables e below _ (T87.setTop (mkF m 10 #[.val (.ref p0), .val (.long p1), .second, .unset] [(.int (Int32.ofNat sN))]))
  refine own_go (fun _ kt => XS.istoreN X87.here hx rfl (hb hby d8_10) rfl (l' := #[.val (.ref p0), .val (.long p1), .second, .val (.int (Int32.ofNat sN))]) rfl kt) ?_
  show own_G p.tables e below _ (T87.setTop (mkF m 11 #[.val (.ref p0), .val (.long p1), .second, .val (.int (Int32.ofNat sN))] []))
  refine own_go (fun _ kt => XS.aloadN X87.here hx rfl (hb hby d8_11) rfl rfl kt) ?_
  show own_G p.tables e below _ (T87.setTop (mkF m 12 #[.val (.ref p0), .val (.long p1), .second, .val (.int (Int32.ofNat sN))] [(.ref p0)]))
  obtain ⟨T88, X88, e88, st88⟩ := getF X87 hx hZ hown (host := "") (Or.inl (hw _ (List.mem_of_getElem? (i := 41) rfl))) Via.refl e87 F_u (g := (mkF m 12 #[.val (.ref p0), .val (.long p1), .second, .val (.int (Int32.ofNat sN))] [(.ref p0)])) rfl rfl (hb hby d8_12)
  refine own_go st88 ?_
  show own_G p.tables e below _ (T88.setTop (mkF m 15 #[.val (.ref p0), .val (.long p1), .second, .val (.int (Int32.ofNat sN))] [(.ref wu)]))
  refine own_go (fun _ kt => XS.iloadN X88.here hx rfl (hb hby d8_15) rfl kt) ?_
  show own_G p.tables e below _ (T88.setTop (mkF m 16 #[.val (.ref p0), .val (.long p1), .second, .val (.int (Int32.ofNat sN))] [(.int (Int32.ofNat sN)), (.ref wu)]))
  refine own_go (fun _ kt => XS.bipush X88.here hx rfl (hb hby d8_16) kt) ?_
  show own_G p.tables e below _ (T88.setTop (mkF m 18 #[.val (.ref p0), .val (.long p1), .second, .val (.int (Int32.ofNat sN))] [(.int (6 : Int32)), (.int (Int32.ofNat sN)), (.ref wu)]))
  refine own_go (fun _ kt => XS.iushr X88.here hx rfl (hb hby d8_18) rfl kt) ?_
  show own_G p.tables e below _ (T88.setTop (mkF m 19 #[.val (.ref p0), .val (.long p1), .second, .val (.int (Int32.ofNat sN))] [(.int (((Int32.ofNat sN).toUInt32 >>> ((6 : Int32) &&& 31).toUInt32).toInt32)), (.ref wu)]))
  rw [own_shr6 (show sN < 2147483648 by omega)]
  show own_G p.tables e below _ (T88.setTop (mkF m 19 #[.val (.ref p0), .val (.long p1), .second, .val (.int (Int32.ofNat sN))] [(.int (Int32.ofNat (sN / 64))), (.ref wu)]))
  refine own_go (fun _ kt => XT.dup2 X88.here hx rfl (hb hby d8_19) rfl rfl rfl kt) ?_
  show own_G p.tables e below _ (T88.setTop (mkF m 20 #[.val (.ref p0), .val (.long p1), .second, .val (.int (Int32.ofNat sN))] [(.int (Int32.ofNat (sN / 64))), (.ref wu), (.int (Int32.ofNat (sN / 64))), (.ref wu)]))
  refine own_go (own_ldJ X88 hx hZ e88 V_u (j := (Int32.ofNat (sN / 64))) (v := (.long (u (sN / 64)))) (by omega) (by omega) (congrArg (fun j => Value.long (u j)) hc2) (g := (mkF m 20 #[.val (.ref p0), .val (.long p1), .second, .val (.int (Int32.ofNat sN))] [(.int (Int32.ofNat (sN / 64))), (.ref wu), (.int (Int32.ofNat (sN / 64))), (.ref wu)])) rfl rfl (hb hby d8_20)) ?_
  show own_G p.tables e below _ (T88.setTop (mkF m 21 #[.val (.ref p0), .val (.long p1), .second, .val (.int (Int32.ofNat sN))] [(.long (u (sN / 64))), (.int (Int32.ofNat (sN / 64))), (.ref wu)]))
  refine own_go (fun _ kt => XS.lconst X88.here hx rfl (hb hby d8_21) kt) ?_
  show own_G p.tables e below _ (T88.setTop (mkF m 22 #[.val (.ref p0), .val (.long p1), .second, .val (.int (Int32.ofNat sN))] [(.long (1 : Int64)), (.long (u (sN / 64))), (.int (Int32.ofNat (sN / 64))), (.ref wu)]))
  refine own_go (fun _ kt => XS.iloadN X88.here hx rfl (hb hby d8_22) rfl kt) ?_
  show own_G p.tables e below _ (T88.setTop (mkF m 23 #[.val (.ref p0), .val (.long p1), .second, .val (.int (Int32.ofNat sN))] [(.int (Int32.ofNat sN)), (.long (1 : Int64)), (.long (u (sN / 64))), (.int (Int32.ofNat (sN / 64))), (.ref wu)]))
  refine own_go (fun _ kt => XS.lshl X88.here hx rfl (hb hby d8_23) rfl kt) ?_
  show own_G p.tables e below _ (T88.setTop (mkF m 24 #[.val (.ref p0), .val (.long p1), .second, .val (.int (Int32.ofNat sN))] [(.long ((1 : Int64) <<< ((Int32.ofNat sN) &&& 0x3f).toInt64)), (.long (u (sN / 64))), (.int (Int32.ofNat (sN / 64))), (.ref wu)]))
  refine own_go (X88.ldc2Long hx hown (mvT hZ (hw _ (List.mem_of_getElem? (i := 50) rfl))) (g := (mkF m 24 #[.val (.ref p0), .val (.long p1), .second, .val (.int (Int32.ofNat sN))] [(.long ((1 : Int64) <<< ((Int32.ofNat sN) &&& 0x3f).toInt64)), (.long (u (sN / 64))), (.int (Int32.ofNat (sN / 64))), (.ref wu)])) rfl (hb hby d8_24)) ?_
  show own_G p.tables e below _ (T88.setTop (mkF m 27 #[.val (.ref p0), .val (.long p1), .second, .val (.int (Int32.ofNat sN))] [(.long (-1 : Int64)), (.long ((1 : Int64) <<< ((Int32.ofNat sN) &&& 0x3f).toInt64)), (.long (u (sN / 64))), (.int (Int32.ofNat (sN / 64))), (.ref wu)]))
  refine own_go (fun _ kt => XS.lxor X88.here hx rfl (hb hby d8_27) rfl kt) ?_
  show own_G p.tables e below _ (T88.setTop (mkF m 28 #[.val (.ref p0), .val (.long p1), .second, .val (.int (Int32.ofNat sN))] [(.long (((1 : Int64) <<< ((Int32.ofNat sN) &&& 0x3f).toInt64) ^^^ (-1 : Int64))), (.long (u (sN / 64))), (.int (Int32.ofNat (sN / 64))), (.ref wu)]))
  refine own_go (fun _ kt => XS.land X88.here hx rfl (hb hby d8_28) rfl kt) ?_
  show own_G p.tables e below _ (T88.setTop (mkF m 29 #[.val (.ref p0), .val (.long p1), .second, .val (.int (Int32.ofNat sN))] [(.long ((u (sN / 64)) &&& (((1 : Int64) <<< ((Int32.ofNat sN) &&& 0x3f).toInt64) ^^^ (-1 : Int64)))), (.int (Int32.ofNat (sN / 64))), (.ref wu)]))
  obtain ⟨T89, h89, X89, e89, W89, V89, st89⟩ := own_stJ X88 hx hZ e88 V_u (j := (Int32.ofNat (sN / 64))) (by omega) (by omega) (g := (mkF m 29 #[.val (.ref p0), .val (.long p1), .second, .val (.int (Int32.ofNat sN))] [(.long ((u (sN / 64)) &&& (((1 : Int64) <<< ((Int32.ofNat sN) &&& 0x3f).toInt64) ^^^ (-1 : Int64)))), (.int (Int32.ofNat (sN / 64))), (.ref wu)])) rfl rfl (hb hby d8_29)
  refine own_go st89 ?_
  have N89 := Fr.snoc X89 N0 gu
  have Z89 : n0 ≤ h89.size := Nat.le_trans Z0 (Keep.of_wr W89).1
  rw [hc2, own_upd_long] at V89
  show own_G p.tables e below _ (T89.setTop (mkF m 30 #[.val (.ref p0), .val (.long p1), .second, .val (.int (Int32.ofNat sN))] []))
  refine own_go (fun _ kt => XS.aloadN X89.here hx rfl (hb hby d8_30) rfl rfl kt) ?_
  show own_G p.tables e below _ (T89.setTop (mkF m 31 #[.val (.ref p0), .val (.long p1), .second, .val (.int (Int32.ofNat sN))] [(.ref p0)]))
  refine own_go (fun _ kt => XS.dup X89.here hx rfl (hb hby d8_31) rfl rfl kt) ?_
  show own_G p.tables e below _ (T89.setTop (mkF m 32 #[.val (.ref p0), .val (.long p1), .second, .val (.int (Int32.ofNat sN))] [(.ref p0), (.ref p0)]))
  have u90 := (F_c.other W89 (Or.inl nb2))
  obtain ⟨T91, X91, e91, st91⟩ := getF X89 hx hZ hown (host := "") (Or.inl (hw _ (List.mem_of_getElem? (i := 43) rfl))) Via.refl e89 u90 (g := (mkF m 32 #[.val (.ref p0), .val (.long p1), .second, .val (.int (Int32.ofNat sN))] [(.ref p0), (.ref p0)])) rfl rfl (hb hby d8_32)
  refine own_go st91 ?_
  show own_G p.tables e below _ (T91.setTop (mkF m 35 #[.val (.ref p0), .val (.long p1), .second, .val (.int (Int32.ofNat sN))] [(.int c'), (.ref p0)]))
  refine own_go (fun _ kt => XS.iconst X91.here hx rfl (hb hby d8_35) kt) ?_
  show own_G p.tables e below _ (T91.setTop (mkF m 36 #[.val (.ref p0), .val (.long p1), .second, .val (.int (Int32.ofNat sN))] [(.int (1 : Int32)), (.int c'), (.ref p0)]))
  refine own_go (fun _ kt => XS.isub X91.here hx rfl (hb hby d8_36) rfl kt) ?_
  show own_G p.tables e below _ (T91.setTop (mkF m 37 #[.val (.ref p0), .val (.long p1), .second, .val (.int (Int32.ofNat sN))] [(.int (c' - (1 : Int32))), (.ref p0)]))
  have u92 := (E_.wr W89)
  obtain ⟨T93, h93, X93, e93, W93, st93⟩ := putF X91 hx hZ hown (host := "") (Or.inl (hw _ (List.mem_of_getElem? (i := 43) rfl))) Via.refl e91 u90 u92 (Or.inl (hw _ (List.mem_of_getElem? (i := 44) rfl))) (hw _ (List.mem_of_getElem? (i := 3) rfl)) (ty := .int) (by decide) rfl rfl (g := (mkF m 37 #[.val (.ref p0), .val (.long p1), .second, .val (.int (Int32.ofNat sN))] [(.int (c' - (1 : Int32))), (.ref p0)])) rfl rfl (hb hby d8_37)
  refine own_go st93 ?_
  have N93 := Fr.snoc X93 N89 gb
  have Z93 : n0 ≤ h93.size := Nat.le_trans Z89 (Keep.of_wr W93).1
  have Fw93 := Fld.same W93 u90
  show own_G p.tables e below _ (T93.setTop (mkF m 40 #[.val (.ref p0), .val (.long p1), .second, .val (.int (Int32.ofNat sN))] []))
  refine own_go (fun _ kt => XS.aloadN X93.here hx rfl (hb hby d8_40) rfl rfl kt) ?_
  show own_G p.tables e below _ (T93.setTop (mkF m 41 #[.val (.ref p0), .val (.long p1), .second, .val (.int (Int32.ofNat sN))] [(.ref p0)]))
  have u94 := ((F_p.other W89 (Or.inl nb2)).other W93 (Or.inr (slot_ne (Or.inl (hw _ (List.mem_of_getElem? (i := 36) rfl))) (Or.inl (hw _ (List.mem_of_getElem? (i := 44) rfl))) (by decide) (t := (.array .int)) (t' := .int) (by decide) (by decide))))
  obtain ⟨T95, X95, e95, st95⟩ := getF X93 hx hZ hown (host := "") (Or.inl (hw _ (List.mem_of_getElem? (i := 35) rfl))) Via.refl e93 u94 (g := (mkF m 41 #[.val (.ref p0), .val (.long p1), .second, .val (.int (Int32.ofNat sN))] [(.ref p0)])) rfl rfl (hb hby d8_41)
  refine own_go st95 ?_
  show own_G p.tables e below _ (T95.setTop (mkF m 44 #[.val (.ref p0), .val (.long p1), .second, .val (.int (Int32.ofNat sN))] [(.ref wp)]))
  refine own_go (fun _ kt => XS.iloadN X95.here hx rfl (hb hby d8_44) rfl kt) ?_
  show own_G p.tables e below _ (T95.setTop (mkF m 45 #[.val (.ref p0), .val (.long p1), .second, .val (.int (Int32.ofNat sN))] [(.int (Int32.ofNat sN)), (.ref wp)]))
  have u96 := ((V_p.other W89 n12).other W93 (Ne.symm nb1))
  refine own_go (own_ldI X95 hx hZ e95 u96 (j := (Int32.ofNat sN)) (v := (.int (f sN))) (by omega) (by omega) (congrArg (fun j => Value.int (f j)) hc1) (g := (mkF m 45 #[.val (.ref p0), .val (.long p1), .second, .val (.int (Int32.ofNat sN))] [(.int (Int32.ofNat sN)), (.ref wp)])) rfl rfl (hb hby d8_45)) ?_
  have u97 := (u92.wr W93)
  have u98 := ((F_s.other W89 (Or.inl nb2)).other W93 (Or.inr (slot_ne (Or.inr (hw _ (List.mem_of_getElem? (i := 29) rfl))) (Or.inl (hw _ (List.mem_of_getElem? (i := 44) rfl))) (by decide) (t := .long) (t' := .int) (by decide) (by decide))))
  have u99 := ((F_u.other W89 (Or.inl nb2)).other W93 (Or.inr (slot_ne (Or.inl (hw _ (List.mem_of_getElem? (i := 42) rfl))) (Or.inl (hw _ (List.mem_of_getElem? (i := 44) rfl))) (by decide) (t := (.array .long)) (t' := .int) (by decide) (by decide))))
  have u100 := (V89.other W93 (Ne.symm nb2))
  show own_G p.tables e below _ (T95.setTop (mkF m 46 #[.val (.ref p0), .val (.long p1), .second, .val (.int (Int32.ofNat sN))] [(.int (f sN))]))
  exact own_retI X95 hx Bd.returns hlk (hb hby d8_46) (Nat.le_of_ble_eq_true rfl) (Nat.le_of_ble_eq_true rfl) e95 ⟨rfl, N93, Z93, _, ⟨u97, u98, u94, u99, Fw93, u96, u100, nb1, nb2, n12, gb, gp, gu⟩, own_Uclr U (by omega)⟩
theorem d9_0 : decode prog_76_method_2_code 0 = .ok (.aload_n 0, 1) := by decide +kernel
theorem d9_1 : decode prog_76_method_2_code 1 = .ok (.getfield 25, 3) := by decide +kernel
theorem d9_4 : decode prog_76_method_2_code 4 = .ok (.ifCond .ne 7, 3) := by decide +kernel
theorem d9_7 : decode prog_76_method_2_code 7 = .ok (.iconst 1, 1) := by decide +kernel
theorem d9_8 : decode prog_76_method_2_code 8 = .ok (.goto 4, 3) := by decide +kernel
theorem d9_12 : decode prog_76_method_2_code 12 = .ok (.ireturn, 1) := by decide +kernel
theorem d9_11 : decode prog_76_method_2_code 11 = .ok (.iconst 0, 1) := by decide +kernel
theorem ef_isE (m : MethodId) (p0 : Addr) : entryFrame m #[(.ref p0)] 1 = mkF m 0 #[.val (.ref p0)] [] := by first | (simp [entryFrame, mkF, argsToLocals, Value.category]; done) | rfl
def Q_isE (Z : State) (p0 : Addr) (c' : Int32) (h0 : Heap) (n0 : Nat) (v : Option Value) (h : Heap) (L : List Loc) : Prop := v = some (.int (if c' = 0 then 1 else 0)) ∧ Fr n0 L ∧ h = h0
set_option maxRecDepth 65536 in
set_option maxHeartbeats 40000000 in
theorem rm_isE (l : Launch) (Z : State) (a0 : Array Value) (hw : ∀ d ∈ tables_1, d.before a0 Z = true) (ws : List Jvm.Cond) (p0 : Addr) (c' : Int32) (h0 : Heap) (n0 : Nat) (Z0 : n0 ≤ h0.size) (F_c : Fld Z h0 p0 "com/example/brisk_match/briskmatch/search/StartRing" "count" "I" (.int c')) :
    MetFree l (⟨"com/example/brisk_match/briskmatch/search/StartRing", "isEmpty", "()Z"⟩ : MethodName) (head1 (Jvm.Cond.code (⟨"com/example/brisk_match/briskmatch/search/StartRing", "isEmpty", "()Z"⟩ : MethodName) prog_76_method_2_code 1 (some .boolean) :: ws) ({ frames := 0, cells := 0, slots := 0, locals := 0 } : Room)) (fun a U => a = #[(.ref p0)] ∧ Z.Warmed39 U.vm ∧ U.heap = h0) (fun _ _ _ _ _ => True) (fun _ U o U' => ∃ v L, o = .returned v ∧ Q_isE Z p0 c' h0 n0 v U'.heap L ∧ FrameEnd U o U' L ({ frames := 0, cells := 0, slots := 0, locals := 0 } : Room).cells ({ frames := 0, cells := 0, slots := 0, locals := 0 } : Room).slots) := by
  refine MetFree.of_bodySF (plainFor_of_name pn_com_example_brisk_match_briskmatch_search_StartRing) hisR ?_
  intro p e s m args below meth kc s₁ Bd hml0 hP hK
  obtain ⟨rfl, hZ, hh⟩ := hP
  have hx := Bd.exec
  have hby := Bd.bytes
  have hlk := Bd.notSynchronized
  have hml : kc.maxLocals = 1 := hml0
  have hown : s.vm.findClass "com/example/brisk_match/briskmatch/search/StartRing" = some m.cls := findClass_of_methodNamed Bd.named
  have hnm := (name_of_methodNamed Bd.named Bd.method).1
  have X0 : Stand p l e ({ frames := 0, cells := 0, slots := 0, locals := 0 } : Room) s m #[(.ref p0)] below meth kc s₁ [] 0 0 := Stand.of_body Bd
  have e0 : s₁.heap = h0 := by rw [← hh, Bd.state]; rfl
  have N0 := Fr.nil n0
  show own_G p.tables e below (own_E below s ({ frames := 0, cells := 0, slots := 0, locals := 0 } : Room).cells ({ frames := 0, cells := 0, slots := 0, locals := 0 } : Room).slots (Q_isE Z p0 c' h0 n0)) _
  refine own_go (fun _ k => castTop (ef_isE m p0) k) ?_
  show own_G p.tables e below _ (s₁.setTop (mkF m 0 #[.val (.ref p0)] []))
  refine own_go (fun _ kt => XS.aloadN X0.here hx rfl (hb hby d9_0) rfl rfl kt) ?_
  show own_G p.tables e below _ (s₁.setTop (mkF m 1 #[.val (.ref p0)] [(.ref p0)]))
  obtain ⟨T101, X101, e101, st101⟩ := getF X0 hx hZ hown (host := "") (Or.inl (hw _ (List.mem_of_getElem? (i := 43) rfl))) Via.refl e0 F_c (g := (mkF m 1 #[.val (.ref p0)] [(.ref p0)])) rfl rfl (hb hby d9_1)
  refine own_go st101 ?_
  by_cases hc : c' = (0 : Int32)
  · show own_G p.tables e below _ (T101.setTop (mkF m 4 #[.val (.ref p0)] [(.int c')]))
    refine own_go (fun _ kt => XS.ifNo X101.here hx rfl (hb hby d9_4) rfl ((if0 _ _).trans (teq (hc : c' = (0 : Int32))).2) kt) ?_
    show own_G p.tables e below _ (T101.setTop (mkF m 7 #[.val (.ref p0)] []))
    refine own_go (fun _ kt => XS.iconst X101.here hx rfl (hb hby d9_7) kt) ?_
    show own_G p.tables e below _ (T101.setTop (mkF m 8 #[.val (.ref p0)] [(.int (1 : Int32))]))
    refine own_go (fun _ kt => XS.goto X101.here hx rfl (pc0 := 8) (pc' := 12) rfl (hb hby d9_8) (by decide) (by decide) kt) ?_
    show own_G p.tables e below _ (T101.setTop (mkF m 12 #[.val (.ref p0)] [(.int (1 : Int32))]))
    exact own_retN X101 hx (t := .boolean) Bd.returns (by simp) hlk (hb hby d9_12) (Nat.le_of_ble_eq_true rfl) (Nat.le_of_ble_eq_true rfl) e101 ⟨by rw [if_pos hc]; rfl, N0, rfl⟩
  · show own_G p.tables e below _ (T101.setTop (mkF m 4 #[.val (.ref p0)] [(.int c')]))
    refine own_go (fun _ kt => XS.ifYes X101.here hx rfl (pc0 := 4) (pc' := 11) rfl (hb hby d9_4) rfl ((if0 _ _).trans (feq (hc : ¬ (c' = (0 : Int32)))).2) (by decide) (by decide) kt) ?_
    show own_G p.tables e below _ (T101.setTop (mkF m 11 #[.val (.ref p0)] []))
    refine own_go (fun _ kt => XS.iconst X101.here hx rfl (hb hby d9_11) kt) ?_
    show own_G p.tables e below _ (T101.setTop (mkF m 12 #[.val (.ref p0)] [(.int (0 : Int32))]))
    exact own_retN X101 hx (t := .boolean) Bd.returns (by simp) hlk (hb hby d9_12) (Nat.le_of_ble_eq_true rfl) (Nat.le_of_ble_eq_true rfl) e101 ⟨by rw [if_neg hc]; rfl, N0, rfl⟩
theorem d10_0 : decode prog_76_method_4_code 0 = .ok (.lload_n 1, 1) := by decide +kernel
theorem d10_1 : decode prog_76_method_4_code 1 = .ok (.lstore 5, 2) := by decide +kernel
theorem d10_3 : decode prog_76_method_4_code 3 = .ok (.iconst 0, 1) := by decide +kernel
theorem d10_4 : decode prog_76_method_4_code 4 = .ok (.istore 7, 2) := by decide +kernel
theorem d10_6 : decode prog_76_method_4_code 6 = .ok (.iload 7, 2) := by decide +kernel
theorem d10_8 : decode prog_76_method_4_code 8 = .ok (.ifCond .ne 90, 3) := by decide +kernel
theorem d10_11 : decode prog_76_method_4_code 11 = .ok (.aload_n 0, 1) := by decide +kernel
theorem d10_12 : decode prog_76_method_4_code 12 = .ok (.getfield 25, 3) := by decide +kernel
theorem d10_15 : decode prog_76_method_4_code 15 = .ok (.ifCond .le 83, 3) := by decide +kernel
theorem d10_98 : decode prog_76_method_4_code 98 = .ok (.iload 7, 2) := by decide +kernel
theorem d10_100 : decode prog_76_method_4_code 100 = .ok (.ifCond .eq 15, 3) := by decide +kernel
theorem d10_115 : decode prog_76_method_4_code 115 = .ok (.ldc2_w 52, 3) := by decide +kernel
theorem d10_118 : decode prog_76_method_4_code 118 = .ok (.lreturn, 1) := by decide +kernel
theorem ef_first0 (m : MethodId) (p0 : Addr) (p1 : Int64) (p2 : Int64) : entryFrame m #[(.ref p0), (.long p1), (.long p2)] 11 = mkF m 0 #[.val (.ref p0), .val (.long p1), .second, .val (.long p2), .second, .unset, .unset, .unset, .unset, .unset, .unset] [] := by first | (simp [entryFrame, mkF, argsToLocals, Value.category]; done) | rfl
def Q_first0 (Z : State) (p0 : Addr) (p1 : Int64) (p2 : Int64) (h0 : Heap) (n0 : Nat) (v : Option Value) (h : Heap) (L : List Loc) : Prop := v = some (.long (-1 : Int64)) ∧ Fr n0 L ∧ h = h0
set_option maxRecDepth 65536 in
set_option maxHeartbeats 40000000 in
theorem rm_first0 (l : Launch) (Z : State) (a0 : Array Value) (hw : ∀ d ∈ tables_1, d.before a0 Z = true) (ws : List Jvm.Cond) (p0 : Addr) (p1 : Int64) (p2 : Int64) (h0 : Heap) (n0 : Nat) (Z0 : n0 ≤ h0.size) (F_c : Fld Z h0 p0 "com/example/brisk_match/briskmatch/search/StartRing" "count" "I" (.int (0 : Int32))) :
    MetFree l (⟨"com/example/brisk_match/briskmatch/search/StartRing", "first", "(JJ)J"⟩ : MethodName) (head1 (Jvm.Cond.code (⟨"com/example/brisk_match/briskmatch/search/StartRing", "first", "(JJ)J"⟩ : MethodName) prog_76_method_4_code 11 (some .long) :: ws) ({ frames := 0, cells := 0, slots := 0, locals := 0 } : Room)) (fun a U => a = #[(.ref p0), (.long p1), (.long p2)] ∧ Z.Warmed39 U.vm ∧ U.heap = h0) (fun _ _ _ _ _ => True) (fun _ U o U' => ∃ v L, o = .returned v ∧ Q_first0 Z p0 p1 p2 h0 n0 v U'.heap L ∧ FrameEnd U o U' L ({ frames := 0, cells := 0, slots := 0, locals := 0 } : Room).cells ({ frames := 0, cells := 0, slots := 0, locals := 0 } : Room).slots) := by
  refine MetFree.of_bodySF (plainFor_of_name pn_com_example_brisk_match_briskmatch_search_StartRing) hisR ?_
  intro p e s m args below meth kc s₁ Bd hml0 hP hK
  obtain ⟨rfl, hZ, hh⟩ := hP
  have hx := Bd.exec
  have hby := Bd.bytes
  have hlk := Bd.notSynchronized
  have hml : kc.maxLocals = 11 := hml0
  have hown : s.vm.findClass "com/example/brisk_match/briskmatch/search/StartRing" = some m.cls := findClass_of_methodNamed Bd.named
  have hnm := (name_of_methodNamed Bd.named Bd.method).1
  have X0 : Stand p l e ({ frames := 0, cells := 0, slots := 0, locals := 0 } : Room) s m #[(.ref p0), (.long p1), (.long p2)] below meth kc s₁ [] 0 0 := Stand.of_body Bd
  have e0 : s₁.heap = h0 := by rw [← hh, Bd.state]; rfl
  have N0 := Fr.nil n0
  show own_G p.tables e below (own_E below s ({ frames := 0, cells := 0, slots := 0, locals := 0 } : Room).cells ({ frames := 0, cells := 0, slots := 0, locals := 0 } : Room).slots (Q_first0 Z p0 p1 p2 h0 n0)) _
  refine own_go (fun _ k => castTop (ef_first0 m p0 p1 p2) k) ?_
  show own_G p.tables e below _ (s₁.setTop (mkF m 0 #[.val (.ref p0), .val (.long p1), .second, .val (.long p2), .second, .unset, .unset, .unset, .unset, .unset, .unset] []))
  refine own_go (fun _ kt => XS.lloadN X0.here hx rfl (hb hby d10_0) rfl kt) ?_
  show own_G p.tables e below _ (s₁.setTop (mkF m 1 #[.val (.ref p0), .val (.long p1), .second, .val (.long p2), .second, .unset, .unset, .unset, .unset, .unset, .unset] [(.long p1)]))
  refine own_go (fun _ kt => XS.lstore X0.here hx rfl (hb hby d10_1) rfl (l' := #[.val (.ref p0), .val (.long p1), .second, .val (.long p2), .second, .val (.long p1), .second, .unset, .unset, .unset, .unset]) rfl kt) ?_
  show own_G p.tables e below _ (s₁.setTop (mkF m 3 #[.val (.ref p0), .val (.long p1), .second, .val (.long p2), .second, .val (.long p1), .second, .unset, .unset, .unset, .unset] []))
  refine own_go (fun _ kt => XS.iconst X0.here hx rfl (hb hby d10_3) kt) ?_
  show own_G p.tables e below _ (s₁.setTop (mkF m 4 #[.val (.ref p0), .val (.long p1), .second, .val (.long p2), .second, .val (.long p1), .second, .unset, .unset, .unset, .unset] [(.int (0 : Int32))]))
  refine own_go (fun _ kt => XS.istore X0.here hx rfl (hb hby d10_4) rfl (l' := #[.val (.ref p0), .val (.long p1), .second, .val (.long p2), .second, .val (.long p1), .second, .val (.int (0 : Int32)), .unset, .unset, .unset]) rfl kt) ?_
  show own_G p.tables e below _ (s₁.setTop (mkF m 6 #[.val (.ref p0), .val (.long p1), .second, .val (.long p2), .second, .val (.long p1), .second, .val (.int (0 : Int32)), .unset, .unset, .unset] []))
  refine own_go (fun _ kt => XS.iload X0.here hx rfl (hb hby d10_6) rfl kt) ?_
  show own_G p.tables e below _ (s₁.setTop (mkF m 8 #[.val (.ref p0), .val (.long p1), .second, .val (.long p2), .second, .val (.long p1), .second, .val (.int (0 : Int32)), .unset, .unset, .unset] [(.int (0 : Int32))]))
  refine own_go (fun _ kt => XS.ifNo X0.here hx rfl (hb hby d10_8) rfl ((if0 _ _).trans (teq (rfl : (0 : Int32) = (0 : Int32))).2) kt) ?_
  show own_G p.tables e below _ (s₁.setTop (mkF m 11 #[.val (.ref p0), .val (.long p1), .second, .val (.long p2), .second, .val (.long p1), .second, .val (.int (0 : Int32)), .unset, .unset, .unset] []))
  refine own_go (fun _ kt => XS.aloadN X0.here hx rfl (hb hby d10_11) rfl rfl kt) ?_
  show own_G p.tables e below _ (s₁.setTop (mkF m 12 #[.val (.ref p0), .val (.long p1), .second, .val (.long p2), .second, .val (.long p1), .second, .val (.int (0 : Int32)), .unset, .unset, .unset] [(.ref p0)]))
  obtain ⟨T102, X102, e102, st102⟩ := getF X0 hx hZ hown (host := "") (Or.inl (hw _ (List.mem_of_getElem? (i := 43) rfl))) Via.refl e0 F_c (g := (mkF m 12 #[.val (.ref p0), .val (.long p1), .second, .val (.long p2), .second, .val (.long p1), .second, .val (.int (0 : Int32)), .unset, .unset, .unset] [(.ref p0)])) rfl rfl (hb hby d10_12)
  refine own_go st102 ?_
  show own_G p.tables e below _ (T102.setTop (mkF m 15 #[.val (.ref p0), .val (.long p1), .second, .val (.long p2), .second, .val (.long p1), .second, .val (.int (0 : Int32)), .unset, .unset, .unset] [(.int (0 : Int32))]))
  refine own_go (fun _ kt => XS.ifYes X102.here hx rfl (pc0 := 15) (pc' := 98) rfl (hb hby d10_15) rfl ((if0 _ _).trans (flt (by decide : ¬ ((0 : Int32) < (0 : Int32)))).2.2.2) (by decide) (by decide) kt) ?_
  show own_G p.tables e below _ (T102.setTop (mkF m 98 #[.val (.ref p0), .val (.long p1), .second, .val (.long p2), .second, .val (.long p1), .second, .val (.int (0 : Int32)), .unset, .unset, .unset] []))
  refine own_go (fun _ kt => XS.iload X102.here hx rfl (hb hby d10_98) rfl kt) ?_
  show own_G p.tables e below _ (T102.setTop (mkF m 100 #[.val (.ref p0), .val (.long p1), .second, .val (.long p2), .second, .val (.long p1), .second, .val (.int (0 : Int32)), .unset, .unset, .unset] [(.int (0 : Int32))]))
  refine own_go (fun _ kt => XS.ifYes X102.here hx rfl (pc0 := 100) (pc' := 115) rfl (hb hby d10_100) rfl ((if0 _ _).trans (teq (rfl : (0 : Int32) = (0 : Int32))).1) (by decide) (by decide) kt) ?_
  show own_G p.tables e below _ (T102.setTop (mkF m 115 #[.val (.ref p0), .val (.long p1), .second, .val (.long p2), .second, .val (.long p1), .second, .val (.int (0 : Int32)), .unset, .unset, .unset] []))
  refine own_go (X102.ldc2Long hx hown (mvT hZ (hw _ (List.mem_of_getElem? (i := 50) rfl))) (g := (mkF m 115 #[.val (.ref p0), .val (.long p1), .second, .val (.long p2), .second, .val (.long p1), .second, .val (.int (0 : Int32)), .unset, .unset, .unset] [])) rfl (hb hby d10_115)) ?_
  show own_G p.tables e below _ (T102.setTop (mkF m 118 #[.val (.ref p0), .val (.long p1), .second, .val (.long p2), .second, .val (.long p1), .second, .val (.int (0 : Int32)), .unset, .unset, .unset] [(.long (-1 : Int64))]))
  exact own_retJ X102 hx Bd.returns hlk (hb hby d10_118) (Nat.le_of_ble_eq_true rfl) (Nat.le_of_ble_eq_true rfl) e102 ⟨rfl, N0, rfl⟩
/-- the slots of two starts fewer than the ring's size apart -/
theorem own_near {S s sy : Nat} {st y : Int} (ok : own_okS S) (hs : (s : Int) = st % (S : Int)) (hy : (sy : Int) = y % (S : Int)) (h0 : st ≤ y) (h1 : y - st < S) :
    (s % 64 + (y - st).toNat < 64 → sy = s + (y - st).toNat) ∧ (¬ s % 64 + (y - st).toNat < 64 → ∀ i, s % 64 + i < 64 → ¬ sy = s + i) := by
  rcases ok with rfl | rfl | rfl | rfl | rfl <;> (refine ⟨fun h => ?_, fun h i hi e => ?_⟩ <;> omega)
theorem own_stadd {st y : Int64} {d : Nat} (hd : d < 64) (h : y.toInt = st.toInt + d) : st + (Int32.ofNat d).toInt64 = y := by
  have a := c_ladd st (Int32.ofNat d).toInt64
  have b := c_i2l (Int32.ofNat d)
  have c := rng64 (st + (Int32.ofNat d).toInt64)
  have e := rng64 y
  rw [own_nat (by omega)] at b
  apply Int64.toInt_inj.mp
  omega
theorem own_stskip {st : Int64} {s : Nat} (hs : s < 2147483648) (h : st.toInt < 9223372036854775000) : (st + ((64 : Int32) - (Int32.ofNat s % (64 : Int32))).toInt64).toInt = st.toInt + 64 - (s % 64 : Nat) := by
  have a := c_ladd st ((64 : Int32) - (Int32.ofNat s % (64 : Int32))).toInt64
  have b := c_i2l ((64 : Int32) - (Int32.ofNat s % (64 : Int32)))
  have c := rng64 (st + ((64 : Int32) - (Int32.ofNat s % (64 : Int32))).toInt64)
  have r := rng64 st
  have d := c_isub 64 (Int32.ofNat s % (64 : Int32))
  have e := (c_irem (Int32.ofNat s) 64 64 rfl).1 (by rw [own_nat hs]; omega)
  have g := rng32 ((64 : Int32) - (Int32.ofNat s % (64 : Int32)))
  have z : (64 : Int32).toInt = 64 := rfl
  rw [own_nat hs] at e
  omega
theorem d10_103 : decode prog_76_method_4_code 103 = .ok (.lload 5, 2) := by decide +kernel
theorem d10_105 : decode prog_76_method_4_code 105 = .ok (.lload_n 3, 1) := by decide +kernel
theorem d10_106 : decode prog_76_method_4_code 106 = .ok (.lcmp, 1) := by decide +kernel
theorem d10_107 : decode prog_76_method_4_code 107 = .ok (.ifCond .ge 8, 3) := by decide +kernel
theorem d10_110 : decode prog_76_method_4_code 110 = .ok (.lload 5, 2) := by decide +kernel
theorem d10_112 : decode prog_76_method_4_code 112 = .ok (.goto 6, 3) := by decide +kernel
theorem d10_18 : decode prog_76_method_4_code 18 = .ok (.lload 5, 2) := by decide +kernel
theorem d10_20 : decode prog_76_method_4_code 20 = .ok (.lload_n 3, 1) := by decide +kernel
theorem d10_21 : decode prog_76_method_4_code 21 = .ok (.lcmp, 1) := by decide +kernel
theorem d10_22 : decode prog_76_method_4_code 22 = .ok (.ifCond .ge 76, 3) := by decide +kernel
theorem d10_25 : decode prog_76_method_4_code 25 = .ok (.lload 5, 2) := by decide +kernel
theorem d10_27 : decode prog_76_method_4_code 27 = .ok (.l2i, 1) := by decide +kernel
theorem d10_28 : decode prog_76_method_4_code 28 = .ok (.aload_n 0, 1) := by decide +kernel
theorem d10_29 : decode prog_76_method_4_code 29 = .ok (.getfield 29, 3) := by decide +kernel
theorem d10_32 : decode prog_76_method_4_code 32 = .ok (.arraylength, 1) := by decide +kernel
theorem d10_33 : decode prog_76_method_4_code 33 = .ok (.iconst 1, 1) := by decide +kernel
theorem d10_34 : decode prog_76_method_4_code 34 = .ok (.isub, 1) := by decide +kernel
theorem d10_35 : decode prog_76_method_4_code 35 = .ok (.iand, 1) := by decide +kernel
theorem d10_36 : decode prog_76_method_4_code 36 = .ok (.istore 8, 2) := by decide +kernel
theorem d10_38 : decode prog_76_method_4_code 38 = .ok (.aload_n 0, 1) := by decide +kernel
theorem d10_39 : decode prog_76_method_4_code 39 = .ok (.getfield 44, 3) := by decide +kernel
theorem d10_42 : decode prog_76_method_4_code 42 = .ok (.iload 8, 2) := by decide +kernel
theorem d10_44 : decode prog_76_method_4_code 44 = .ok (.bipush 6, 2) := by decide +kernel
theorem d10_46 : decode prog_76_method_4_code 46 = .ok (.iushr, 1) := by decide +kernel
theorem d10_47 : decode prog_76_method_4_code 47 = .ok (.laload, 1) := by decide +kernel
theorem d10_48 : decode prog_76_method_4_code 48 = .ok (.iload 8, 2) := by decide +kernel
theorem d10_50 : decode prog_76_method_4_code 50 = .ok (.lushr, 1) := by decide +kernel
theorem d10_51 : decode prog_76_method_4_code 51 = .ok (.lstore 9, 2) := by decide +kernel
theorem d10_53 : decode prog_76_method_4_code 53 = .ok (.lload 9, 2) := by decide +kernel
theorem d10_55 : decode prog_76_method_4_code 55 = .ok (.lconst 0, 1) := by decide +kernel
theorem d10_56 : decode prog_76_method_4_code 56 = .ok (.lcmp, 1) := by decide +kernel
theorem d10_57 : decode prog_76_method_4_code 57 = .ok (.ifCond .eq 7, 3) := by decide +kernel
theorem d10_60 : decode prog_76_method_4_code 60 = .ok (.iconst 1, 1) := by decide +kernel
theorem d10_61 : decode prog_76_method_4_code 61 = .ok (.goto 4, 3) := by decide +kernel
theorem d10_65 : decode prog_76_method_4_code 65 = .ok (.istore 7, 2) := by decide +kernel
theorem d10_67 : decode prog_76_method_4_code 67 = .ok (.lload 5, 2) := by decide +kernel
theorem d10_69 : decode prog_76_method_4_code 69 = .ok (.iload 7, 2) := by decide +kernel
theorem d10_71 : decode prog_76_method_4_code 71 = .ok (.ifCond .eq 12, 3) := by decide +kernel
theorem d10_74 : decode prog_76_method_4_code 74 = .ok (.lload 9, 2) := by decide +kernel
theorem d10_76 : decode prog_76_method_4_code 76 = .ok (.invokestatic 48, 3) := by decide +kernel
theorem d10_79 : decode prog_76_method_4_code 79 = .ok (.i2l, 1) := by decide +kernel
theorem d10_80 : decode prog_76_method_4_code 80 = .ok (.goto 12, 3) := by decide +kernel
theorem d10_92 : decode prog_76_method_4_code 92 = .ok (.ladd, 1) := by decide +kernel
theorem d10_93 : decode prog_76_method_4_code 93 = .ok (.lstore 5, 2) := by decide +kernel
theorem d10_95 : decode prog_76_method_4_code 95 = .ok (.goto (-89), 3) := by decide +kernel
theorem d10_64 : decode prog_76_method_4_code 64 = .ok (.iconst 0, 1) := by decide +kernel
theorem d10_83 : decode prog_76_method_4_code 83 = .ok (.bipush 64, 2) := by decide +kernel
theorem d10_85 : decode prog_76_method_4_code 85 = .ok (.iload 8, 2) := by decide +kernel
theorem d10_87 : decode prog_76_method_4_code 87 = .ok (.bipush 64, 2) := by decide +kernel
theorem d10_89 : decode prog_76_method_4_code 89 = .ok (.irem, 1) := by decide +kernel
theorem d10_90 : decode prog_76_method_4_code 90 = .ok (.isub, 1) := by decide +kernel
theorem d10_91 : decode prog_76_method_4_code 91 = .ok (.i2l, 1) := by decide +kernel
theorem ef_first1 (m : MethodId) (p0 : Addr) (p1 : Int64) (p2 : Int64) : entryFrame m #[(.ref p0), (.long p1), (.long p2)] 11 = mkF m 0 #[.val (.ref p0), .val (.long p1), .second, .val (.long p2), .second, .unset, .unset, .unset, .unset, .unset, .unset] [] := by first | (simp [entryFrame, mkF, argsToLocals, Value.category]; done) | rfl
def Q_first1 (Z : State) (p0 : Addr) (p1 : Int64) (p2 : Int64) (wp : Addr) (wu : Addr) (S : Nat) (f : Nat → Int32) (u : Nat → Int64) (P : Nat → Bool) (y : Int64) (sy : Nat) (h0 : Heap) (n0 : Nat) (v : Option Value) (h : Heap) (L : List Loc) : Prop := v = some (.long y) ∧ Fr n0 L ∧ h = h0
set_option maxRecDepth 65536 in
set_option maxHeartbeats 40000000 in
theorem rm_first1 (l : Launch) (Z : State) (a0 : Array Value) (hw : ∀ d ∈ tables_1, d.before a0 Z = true) (ws : List Jvm.Cond) (p0 : Addr) (p1 : Int64) (p2 : Int64) (wp : Addr) (wu : Addr) (S : Nat) (f : Nat → Int32) (u : Nat → Int64) (P : Nat → Bool) (y : Int64) (sy : Nat) (h0 : Heap) (n0 : Nat) (Z0 : n0 ≤ h0.size) (R : own_R Z h0 n0 p0 wp wu S 1 f u) (ok : own_okS S) (U : own_U u (S / 64) P) (hP : ∀ j, j < 64 * (S / 64) → P j = decide (j = sy)) (hsy : (sy : Int) = y.toInt % (S : Int)) (hy1 : p1.toInt ≤ y.toInt) (hy2 : y.toInt < p2.toInt) (hy3 : p2.toInt - p1.toInt ≤ (S : Int)) (hy4 : p2.toInt < 9223372036854775000) :
    MetFree l (⟨"com/example/brisk_match/briskmatch/search/StartRing", "first", "(JJ)J"⟩ : MethodName) (head1 (Jvm.Cond.code (⟨"com/example/brisk_match/briskmatch/search/StartRing", "first", "(JJ)J"⟩ : MethodName) prog_76_method_4_code 11 (some .long) :: ws) ({ frames := 2, cells := 0, slots := 0, locals := 30 } : Room)) (fun a U => a = #[(.ref p0), (.long p1), (.long p2)] ∧ Z.Warmed39 U.vm ∧ U.heap = h0) (fun _ _ _ _ _ => True) (fun _ U o U' => ∃ v L, o = .returned v ∧ Q_first1 Z p0 p1 p2 wp wu S f u P y sy h0 n0 v U'.heap L ∧ FrameEnd U o U' L ({ frames := 2, cells := 0, slots := 0, locals := 30 } : Room).cells ({ frames := 2, cells := 0, slots := 0, locals := 30 } : Room).slots) := by
  refine MetFree.of_bodySF (plainFor_of_name pn_com_example_brisk_match_briskmatch_search_StartRing) hisR ?_
  intro p e s m args below meth kc s₁ Bd hml0 hP hK
  obtain ⟨rfl, hZ, hh⟩ := hP
  have hx := Bd.exec
  have hby := Bd.bytes
  have hlk := Bd.notSynchronized
  have hml : kc.maxLocals = 11 := hml0
  have hown : s.vm.findClass "com/example/brisk_match/briskmatch/search/StartRing" = some m.cls := findClass_of_methodNamed Bd.named
  have hnm := (name_of_methodNamed Bd.named Bd.method).1
  have X0 : Stand p l e ({ frames := 2, cells := 0, slots := 0, locals := 30 } : Room) s m #[(.ref p0), (.long p1), (.long p2)] below meth kc s₁ [] 0 0 := Stand.of_body Bd
  have e0 : s₁.heap = h0 := by rw [← hh, Bd.state]; rfl
  have N0 := Fr.nil n0
  show own_G p.tables e below (own_E below s ({ frames := 2, cells := 0, slots := 0, locals := 30 } : Room).cells ({ frames := 2, cells := 0, slots := 0, locals := 30 } : Room).slots (Q_first1 Z p0 p1 p2 wp wu S f u P y sy h0 n0)) _
  refine own_go (fun _ k => castTop (ef_first1 m p0 p1 p2) k) ?_
  obtain ⟨E_, F_s, F_p, F_u, F_c, V_p, V_u, -⟩ := R
  have hSS : 64 * (S / 64) = S ∧ S ≤ 1024 := by rcases ok with rfl | rfl | rfl | rfl | rfl <;> decide
  have jf : ∀ (T103 : State) (locs103 : List Loc) (x8 : Int32) (x9 : Int64), Stand p l e ({ frames := 2, cells := 0, slots := 0, locals := 30 } : Room) s m #[(.ref p0), (.long p1), (.long p2)] below meth kc T103 locs103 0 0 → T103.heap = h0 → Fr n0 locs103 → own_G p.tables e below (own_E below s ({ frames := 2, cells := 0, slots := 0, locals := 30 } : Room).cells ({ frames := 2, cells := 0, slots := 0, locals := 30 } : Room).slots (Q_first1 Z p0 p1 p2 wp wu S f u P y sy h0 n0)) (T103.setTop (mkF m 6 #[.val (.ref p0), .val (.long p1), .second, .val (.long p2), .second, .val (.long y), .second, .val (.int (1 : Int32)), .val (.int x8), .val (.long x9), .second] [])) := by
    intro T103 locs103 x8 x9 X103 e103 N103 
    show own_G p.tables e below _ (T103.setTop (mkF m 6 #[.val (.ref p0), .val (.long p1), .second, .val (.long p2), .second, .val (.long y), .second, .val (.int (1 : Int32)), .val (.int x8), .val (.long x9), .second] []))
    refine own_go (fun _ kt => XS.iload X103.here hx rfl (hb hby d10_6) rfl kt) ?_
    show own_G p.tables e below _ (T103.setTop (mkF m 8 #[.val (.ref p0), .val (.long p1), .second, .val (.long p2), .second, .val (.long y), .second, .val (.int (1 : Int32)), .val (.int x8), .val (.long x9), .second] [(.int (1 : Int32))]))
    refine own_go (fun _ kt => XS.ifYes X103.here hx rfl (pc0 := 8) (pc' := 98) rfl (hb hby d10_8) rfl ((if0 _ _).trans (feq (by decide : ¬ ((1 : Int32) = (0 : Int32)))).2) (by decide) (by decide) kt) ?_
    show own_G p.tables e below _ (T103.setTop (mkF m 98 #[.val (.ref p0), .val (.long p1), .second, .val (.long p2), .second, .val (.long y), .second, .val (.int (1 : Int32)), .val (.int x8), .val (.long x9), .second] []))
    refine own_go (fun _ kt => XS.iload X103.here hx rfl (hb hby d10_98) rfl kt) ?_
    show own_G p.tables e below _ (T103.setTop (mkF m 100 #[.val (.ref p0), .val (.long p1), .second, .val (.long p2), .second, .val (.long y), .second, .val (.int (1 : Int32)), .val (.int x8), .val (.long x9), .second] [(.int (1 : Int32))]))
    refine own_go (fun _ kt => XS.ifNo X103.here hx rfl (hb hby d10_100) rfl ((if0 _ _).trans (feq (by decide : ¬ ((1 : Int32) = (0 : Int32)))).1) kt) ?_
    show own_G p.tables e below _ (T103.setTop (mkF m 103 #[.val (.ref p0), .val (.long p1), .second, .val (.long p2), .second, .val (.long y), .second, .val (.int (1 : Int32)), .val (.int x8), .val (.long x9), .second] []))
    refine own_go (fun _ kt => XS.lload X103.here hx rfl (hb hby d10_103) rfl kt) ?_
    show own_G p.tables e below _ (T103.setTop (mkF m 105 #[.val (.ref p0), .val (.long p1), .second, .val (.long p2), .second, .val (.long y), .second, .val (.int (1 : Int32)), .val (.int x8), .val (.long x9), .second] [(.long y)]))
    refine own_go (fun _ kt => XS.lloadN X103.here hx rfl (hb hby d10_105) rfl kt) ?_
    show own_G p.tables e below _ (T103.setTop (mkF m 106 #[.val (.ref p0), .val (.long p1), .second, .val (.long p2), .second, .val (.long y), .second, .val (.int (1 : Int32)), .val (.int x8), .val (.long x9), .second] [(.long p2), (.long y)]))
    refine own_go (fun _ kt => XS.lcmp X103.here hx rfl (hb hby d10_106) rfl kt) ?_
    show own_G p.tables e below _ (T103.setTop (mkF m 107 #[.val (.ref p0), .val (.long p1), .second, .val (.long p2), .second, .val (.long y), .second, .val (.int (1 : Int32)), .val (.int x8), .val (.long x9), .second] [(.int (lcmpW y p2))]))
    refine own_go (fun _ kt => XS.ifNo X103.here hx rfl (hb hby d10_107) rfl ((if0 _ _).trans (tlt (own_ll.mpr hy2 : (lcmpW y p2) < (0 : Int32))).2.1) kt) ?_
    show own_G p.tables e below _ (T103.setTop (mkF m 110 #[.val (.ref p0), .val (.long p1), .second, .val (.long p2), .second, .val (.long y), .second, .val (.int (1 : Int32)), .val (.int x8), .val (.long x9), .second] []))
    refine own_go (fun _ kt => XS.lload X103.here hx rfl (hb hby d10_110) rfl kt) ?_
    show own_G p.tables e below _ (T103.setTop (mkF m 112 #[.val (.ref p0), .val (.long p1), .second, .val (.long p2), .second, .val (.long y), .second, .val (.int (1 : Int32)), .val (.int x8), .val (.long x9), .second] [(.long y)]))
    refine own_go (fun _ kt => XS.goto X103.here hx rfl (pc0 := 112) (pc' := 118) rfl (hb hby d10_112) (by decide) (by decide) kt) ?_
    show own_G p.tables e below _ (T103.setTop (mkF m 118 #[.val (.ref p0), .val (.long p1), .second, .val (.long p2), .second, .val (.long y), .second, .val (.int (1 : Int32)), .val (.int x8), .val (.long x9), .second] [(.long y)]))
    exact own_retJ X103 hx Bd.returns hlk (hb hby d10_118) (Nat.le_of_ble_eq_true rfl) (Nat.le_of_ble_eq_true rfl) e103 ⟨rfl, N103, rfl⟩
  have loop : ∀ (k : Nat), ∀ (T104 : State) (locs104 : List Loc) (st : Int64) (x8 : Int32) (x9 : Int64), Stand p l e ({ frames := 2, cells := 0, slots := 0, locals := 30 } : Room) s m #[(.ref p0), (.long p1), (.long p2)] below meth kc T104 locs104 0 0 → T104.heap = h0 → Fr n0 locs104 → (st.toInt ≤ y.toInt) → (p1.toInt ≤ st.toInt) → (y.toInt - st.toInt < (k : Int)) → own_G p.tables e below (own_E below s ({ frames := 2, cells := 0, slots := 0, locals := 30 } : Room).cells ({ frames := 2, cells := 0, slots := 0, locals := 30 } : Room).slots (Q_first1 Z p0 p1 p2 wp wu S f u P y sy h0 n0)) (T104.setTop (mkF m 6 #[.val (.ref p0), .val (.long p1), .second, .val (.long p2), .second, .val (.long st), .second, .val (.int (0 : Int32)), .val (.int x8), .val (.long x9), .second] [])) := by
    intro k
    induction k with
    | zero =>
      intro T104 locs104 st x8 x9 X104 e104 N104 hst hsa hk
      omega
    | succ k ih =>
      intro T104 locs104 st x8 x9 X104 e104 N104 hst hsa hk
      obtain ⟨sN, hs⟩ : ∃ sN : Nat, (sN : Int) = st.toInt % (S : Int) := ⟨(st.toInt % (S : Int)).toNat, by rcases ok with rfl | rfl | rfl | rfl | rfl <;> omega⟩
      obtain ⟨hs1, hs2, hs3, hs4⟩ := own_slt ok hs
      have hc1 := own_clamp (i := sN) (by omega)
      have hc2 := own_clamp (i := sN / 64) (by omega)
      have hi1 := own_nat (i := sN) (by omega)
      have hi2 := own_nat (i := sN / 64) (by omega)
      obtain ⟨nr1, nr2⟩ := own_near ok hs hsy hst (by omega)
      show own_G p.tables e below _ (T104.setTop (mkF m 6 #[.val (.ref p0), .val (.long p1), .second, .val (.long p2), .second, .val (.long st), .second, .val (.int (0 : Int32)), .val (.int x8), .val (.long x9), .second] []))
      refine own_go (fun _ kt => XS.iload X104.here hx rfl (hb hby d10_6) rfl kt) ?_
      show own_G p.tables e below _ (T104.setTop (mkF m 8 #[.val (.ref p0), .val (.long p1), .second, .val (.long p2), .second, .val (.long st), .second, .val (.int (0 : Int32)), .val (.int x8), .val (.long x9), .second] [(.int (0 : Int32))]))
      refine own_go (fun _ kt => XS.ifNo X104.here hx rfl (hb hby d10_8) rfl ((if0 _ _).trans (teq (rfl : (0 : Int32) = (0 : Int32))).2) kt) ?_
      show own_G p.tables e below _ (T104.setTop (mkF m 11 #[.val (.ref p0), .val (.long p1), .second, .val (.long p2), .second, .val (.long st), .second, .val (.int (0 : Int32)), .val (.int x8), .val (.long x9), .second] []))
      refine own_go (fun _ kt => XS.aloadN X104.here hx rfl (hb hby d10_11) rfl rfl kt) ?_
      show own_G p.tables e below _ (T104.setTop (mkF m 12 #[.val (.ref p0), .val (.long p1), .second, .val (.long p2), .second, .val (.long st), .second, .val (.int (0 : Int32)), .val (.int x8), .val (.long x9), .second] [(.ref p0)]))
      obtain ⟨T105, X105, e105, st105⟩ := getF X104 hx hZ hown (host := "") (Or.inl (hw _ (List.mem_of_getElem? (i := 43) rfl))) Via.refl e104 F_c (g := (mkF m 12 #[.val (.ref p0), .val (.long p1), .second, .val (.long p2), .second, .val (.long st), .second, .val (.int (0 : Int32)), .val (.int x8), .val (.long x9), .second] [(.ref p0)])) rfl rfl (hb hby d10_12)
      refine own_go st105 ?_
      show own_G p.tables e below _ (T105.setTop (mkF m 15 #[.val (.ref p0), .val (.long p1), .second, .val (.long p2), .second, .val (.long st), .second, .val (.int (0 : Int32)), .val (.int x8), .val (.long x9), .second] [(.int (1 : Int32))]))
      refine own_go (fun _ kt => XS.ifNo X105.here hx rfl (hb hby d10_15) rfl ((if0 _ _).trans (tlt (by decide : (0 : Int32) < (1 : Int32))).2.2.2) kt) ?_
      show own_G p.tables e below _ (T105.setTop (mkF m 18 #[.val (.ref p0), .val (.long p1), .second, .val (.long p2), .second, .val (.long st), .second, .val (.int (0 : Int32)), .val (.int x8), .val (.long x9), .second] []))
      refine own_go (fun _ kt => XS.lload X105.here hx rfl (hb hby d10_18) rfl kt) ?_
      show own_G p.tables e below _ (T105.setTop (mkF m 20 #[.val (.ref p0), .val (.long p1), .second, .val (.long p2), .second, .val (.long st), .second, .val (.int (0 : Int32)), .val (.int x8), .val (.long x9), .second] [(.long st)]))
      refine own_go (fun _ kt => XS.lloadN X105.here hx rfl (hb hby d10_20) rfl kt) ?_
      show own_G p.tables e below _ (T105.setTop (mkF m 21 #[.val (.ref p0), .val (.long p1), .second, .val (.long p2), .second, .val (.long st), .second, .val (.int (0 : Int32)), .val (.int x8), .val (.long x9), .second] [(.long p2), (.long st)]))
      refine own_go (fun _ kt => XS.lcmp X105.here hx rfl (hb hby d10_21) rfl kt) ?_
      show own_G p.tables e below _ (T105.setTop (mkF m 22 #[.val (.ref p0), .val (.long p1), .second, .val (.long p2), .second, .val (.long st), .second, .val (.int (0 : Int32)), .val (.int x8), .val (.long x9), .second] [(.int (lcmpW st p2))]))
      refine own_go (fun _ kt => XS.ifNo X105.here hx rfl (hb hby d10_22) rfl ((if0 _ _).trans (tlt (own_ll.mpr (by omega) : (lcmpW st p2) < (0 : Int32))).2.1) kt) ?_
      show own_G p.tables e below _ (T105.setTop (mkF m 25 #[.val (.ref p0), .val (.long p1), .second, .val (.long p2), .second, .val (.long st), .second, .val (.int (0 : Int32)), .val (.int x8), .val (.long x9), .second] []))
      refine own_go (fun _ kt => XS.lload X105.here hx rfl (hb hby d10_25) rfl kt) ?_
      show own_G p.tables e below _ (T105.setTop (mkF m 27 #[.val (.ref p0), .val (.long p1), .second, .val (.long p2), .second, .val (.long st), .second, .val (.int (0 : Int32)), .val (.int x8), .val (.long x9), .second] [(.long st)]))
      refine own_go (fun _ kt => XS.l2i X105.here hx rfl (hb hby d10_27) rfl kt) ?_
      show own_G p.tables e below _ (T105.setTop (mkF m 28 #[.val (.ref p0), .val (.long p1), .second, .val (.long p2), .second, .val (.long st), .second, .val (.int (0 : Int32)), .val (.int x8), .val (.long x9), .second] [(.int (st.toInt32))]))
      refine own_go (fun _ kt => XS.aloadN X105.here hx rfl (hb hby d10_28) rfl rfl kt) ?_
      show own_G p.tables e below _ (T105.setTop (mkF m 29 #[.val (.ref p0), .val (.long p1), .second, .val (.long p2), .second, .val (.long st), .second, .val (.int (0 : Int32)), .val (.int x8), .val (.long x9), .second] [(.ref p0), (.int (st.toInt32))]))
      obtain ⟨T106, X106, e106, st106⟩ := getF X105 hx hZ hown (host := "") (Or.inl (hw _ (List.mem_of_getElem? (i := 35) rfl))) Via.refl e105 F_p (g := (mkF m 29 #[.val (.ref p0), .val (.long p1), .second, .val (.long p2), .second, .val (.long st), .second, .val (.int (0 : Int32)), .val (.int x8), .val (.long x9), .second] [(.ref p0), (.int (st.toInt32))])) rfl rfl (hb hby d10_29)
      refine own_go st106 ?_
      show own_G p.tables e below _ (T106.setTop (mkF m 32 #[.val (.ref p0), .val (.long p1), .second, .val (.long p2), .second, .val (.long st), .second, .val (.int (0 : Int32)), .val (.int x8), .val (.long x9), .second] [(.ref wp), (.int (st.toInt32))]))
      refine own_go (own_len X106 hx hZ e106 V_p (z := (Int32.ofNat S)) (own_len32 ok) (g := (mkF m 32 #[.val (.ref p0), .val (.long p1), .second, .val (.long p2), .second, .val (.long st), .second, .val (.int (0 : Int32)), .val (.int x8), .val (.long x9), .second] [(.ref wp), (.int (st.toInt32))])) rfl rfl (hb hby d10_32)) ?_
      show own_G p.tables e below _ (T106.setTop (mkF m 33 #[.val (.ref p0), .val (.long p1), .second, .val (.long p2), .second, .val (.long st), .second, .val (.int (0 : Int32)), .val (.int x8), .val (.long x9), .second] [(.int (Int32.ofNat S)), (.int (st.toInt32))]))
      refine own_go (fun _ kt => XS.iconst X106.here hx rfl (hb hby d10_33) kt) ?_
      show own_G p.tables e below _ (T106.setTop (mkF m 34 #[.val (.ref p0), .val (.long p1), .second, .val (.long p2), .second, .val (.long st), .second, .val (.int (0 : Int32)), .val (.int x8), .val (.long x9), .second] [(.int (1 : Int32)), (.int (Int32.ofNat S)), (.int (st.toInt32))]))
      refine own_go (fun _ kt => XS.isub X106.here hx rfl (hb hby d10_34) rfl kt) ?_
      show own_G p.tables e below _ (T106.setTop (mkF m 35 #[.val (.ref p0), .val (.long p1), .second, .val (.long p2), .second, .val (.long st), .second, .val (.int (0 : Int32)), .val (.int x8), .val (.long x9), .second] [(.int ((Int32.ofNat S) - (1 : Int32))), (.int (st.toInt32))]))
      refine own_go (fun _ kt => XS.iand X106.here hx rfl (hb hby d10_35) rfl kt) ?_
      show own_G p.tables e below _ (T106.setTop (mkF m 36 #[.val (.ref p0), .val (.long p1), .second, .val (.long p2), .second, .val (.long st), .second, .val (.int (0 : Int32)), .val (.int x8), .val (.long x9), .second] [(.int ((st.toInt32) &&& ((Int32.ofNat S) - (1 : Int32))))]))
      rw [own_slot ok hs]
      show own_G p.tables e below _ (T106.setTop (mkF m 36 #[.val (.ref p0), .val (.long p1), .second, .val (.long p2), .second, .val (.long st), .second, .val (.int (0 : Int32)), .val (.int x8), .val (.long x9), .second] [(.int (Int32.ofNat sN))]))
      refine own_go (fun _ kt => XS.istore X106.here hx rfl (hb hby d10_36) rfl (l' := #[.val (.ref p0), .val (.long p1), .second, .val (.long p2), .second, .val (.long st), .second, .val (.int (0 : Int32)), .val (.int (Int32.ofNat sN)), .val (.long x9), .second]) rfl kt) ?_
      show own_G p.tables e below _ (T106.setTop (mkF m 38 #[.val (.ref p0), .val (.long p1), .second, .val (.long p2), .second, .val (.long st), .second, .val (.int (0 : Int32)), .val (.int (Int32.ofNat sN)), .val (.long x9), .second] []))
      refine own_go (fun _ kt => XS.aloadN X106.here hx rfl (hb hby d10_38) rfl rfl kt) ?_
      show own_G p.tables e below _ (T106.setTop (mkF m 39 #[.val (.ref p0), .val (.long p1), .second, .val (.long p2), .second, .val (.long st), .second, .val (.int (0 : Int32)), .val (.int (Int32.ofNat sN)), .val (.long x9), .second] [(.ref p0)]))
      obtain ⟨T107, X107, e107, st107⟩ := getF X106 hx hZ hown (host := "") (Or.inl (hw _ (List.mem_of_getElem? (i := 41) rfl))) Via.refl e106 F_u (g := (mkF m 39 #[.val (.ref p0), .val (.long p1), .second, .val (.long p2), .second, .val (.long st), .second, .val (.int (0 : Int32)), .val (.int (Int32.ofNat sN)), .val (.long x9), .second] [(.ref p0)])) rfl rfl (hb hby d10_39)
      refine own_go st107 ?_
      show own_G p.tables e below _ (T107.setTop (mkF m 42 #[.val (.ref p0), .val (.long p1), .second, .val (.long p2), .second, .val (.long st), .second, .val (.int (0 : Int32)), .val (.int (Int32.ofNat sN)), .val (.long x9), .second] [(.ref wu)]))
      refine own_go (fun _ kt => XS.iload X107.here hx rfl (hb hby d10_42) rfl kt) ?_
      show own_G p.tables e below _ (T107.setTop (mkF m 44 #[.val (.ref p0), .val (.long p1), .second, .val (.long p2), .second, .val (.long st), .second, .val (.int (0 : Int32)), .val (.int (Int32.ofNat sN)), .val (.long x9), .second] [(.int (Int32.ofNat sN)), (.ref wu)]))
      refine own_go (fun _ kt => XS.bipush X107.here hx rfl (hb hby d10_44) kt) ?_
      show own_G p.tables e below _ (T107.setTop (mkF m 46 #[.val (.ref p0), .val (.long p1), .second, .val (.long p2), .second, .val (.long st), .second, .val (.int (0 : Int32)), .val (.int (Int32.ofNat sN)), .val (.long x9), .second] [(.int (6 : Int32)), (.int (Int32.ofNat sN)), (.ref wu)]))
      refine own_go (fun _ kt => XS.iushr X107.here hx rfl (hb hby d10_46) rfl kt) ?_
      show own_G p.tables e below _ (T107.setTop (mkF m 47 #[.val (.ref p0), .val (.long p1), .second, .val (.long p2), .second, .val (.long st), .second, .val (.int (0 : Int32)), .val (.int (Int32.ofNat sN)), .val (.long x9), .second] [(.int (((Int32.ofNat sN).toUInt32 >>> ((6 : Int32) &&& 31).toUInt32).toInt32)), (.ref wu)]))
      rw [own_shr6 (show sN < 2147483648 by omega)]
      show own_G p.tables e below _ (T107.setTop (mkF m 47 #[.val (.ref p0), .val (.long p1), .second, .val (.long p2), .second, .val (.long st), .second, .val (.int (0 : Int32)), .val (.int (Int32.ofNat sN)), .val (.long x9), .second] [(.int (Int32.ofNat (sN / 64))), (.ref wu)]))
      refine own_go (own_ldJ X107 hx hZ e107 V_u (j := (Int32.ofNat (sN / 64))) (v := (.long (u (sN / 64)))) (by omega) (by omega) (congrArg (fun j => Value.long (u j)) hc2) (g := (mkF m 47 #[.val (.ref p0), .val (.long p1), .second, .val (.long p2), .second, .val (.long st), .second, .val (.int (0 : Int32)), .val (.int (Int32.ofNat sN)), .val (.long x9), .second] [(.int (Int32.ofNat (sN / 64))), (.ref wu)])) rfl rfl (hb hby d10_47)) ?_
      show own_G p.tables e below _ (T107.setTop (mkF m 48 #[.val (.ref p0), .val (.long p1), .second, .val (.long p2), .second, .val (.long st), .second, .val (.int (0 : Int32)), .val (.int (Int32.ofNat sN)), .val (.long x9), .second] [(.long (u (sN / 64)))]))
      refine own_go (fun _ kt => XS.iload X107.here hx rfl (hb hby d10_48) rfl kt) ?_
      show own_G p.tables e below _ (T107.setTop (mkF m 50 #[.val (.ref p0), .val (.long p1), .second, .val (.long p2), .second, .val (.long st), .second, .val (.int (0 : Int32)), .val (.int (Int32.ofNat sN)), .val (.long x9), .second] [(.int (Int32.ofNat sN)), (.long (u (sN / 64)))]))
      refine own_go (fun _ kt => XS.lushr X107.here hx rfl (hb hby d10_50) rfl kt) ?_
      by_cases hd : sN % 64 + (y.toInt - st.toInt).toNat < 64
      · show own_G p.tables e below _ (T107.setTop (mkF m 51 #[.val (.ref p0), .val (.long p1), .second, .val (.long p2), .second, .val (.long st), .second, .val (.int (0 : Int32)), .val (.int (Int32.ofNat sN)), .val (.long x9), .second] [(.long (((u (sN / 64)).toUInt64 >>> ((Int32.ofNat sN) &&& 0x3f).toInt64.toUInt64).toInt64))]))
        rw [own_later_yes U hP (show sN < 2147483648 by omega) hs4 hd (nr1 hd)]
        show own_G p.tables e below _ (T107.setTop (mkF m 51 #[.val (.ref p0), .val (.long p1), .second, .val (.long p2), .second, .val (.long st), .second, .val (.int (0 : Int32)), .val (.int (Int32.ofNat sN)), .val (.long x9), .second] [(.long (own_pw ⟨(y.toInt - st.toInt).toNat, by omega⟩))]))
        refine own_go (fun _ kt => XS.lstore X107.here hx rfl (hb hby d10_51) rfl (l' := #[.val (.ref p0), .val (.long p1), .second, .val (.long p2), .second, .val (.long st), .second, .val (.int (0 : Int32)), .val (.int (Int32.ofNat sN)), .val (.long (own_pw ⟨(y.toInt - st.toInt).toNat, by omega⟩)), .second]) rfl kt) ?_
        show own_G p.tables e below _ (T107.setTop (mkF m 53 #[.val (.ref p0), .val (.long p1), .second, .val (.long p2), .second, .val (.long st), .second, .val (.int (0 : Int32)), .val (.int (Int32.ofNat sN)), .val (.long (own_pw ⟨(y.toInt - st.toInt).toNat, by omega⟩)), .second] []))
        refine own_go (fun _ kt => XS.lload X107.here hx rfl (hb hby d10_53) rfl kt) ?_
        show own_G p.tables e below _ (T107.setTop (mkF m 55 #[.val (.ref p0), .val (.long p1), .second, .val (.long p2), .second, .val (.long st), .second, .val (.int (0 : Int32)), .val (.int (Int32.ofNat sN)), .val (.long (own_pw ⟨(y.toInt - st.toInt).toNat, by omega⟩)), .second] [(.long (own_pw ⟨(y.toInt - st.toInt).toNat, by omega⟩))]))
        refine own_go (fun _ kt => XS.lconst X107.here hx rfl (hb hby d10_55) kt) ?_
        show own_G p.tables e below _ (T107.setTop (mkF m 56 #[.val (.ref p0), .val (.long p1), .second, .val (.long p2), .second, .val (.long st), .second, .val (.int (0 : Int32)), .val (.int (Int32.ofNat sN)), .val (.long (own_pw ⟨(y.toInt - st.toInt).toNat, by omega⟩)), .second] [(.long (0 : Int64)), (.long (own_pw ⟨(y.toInt - st.toInt).toNat, by omega⟩))]))
        refine own_go (fun _ kt => XS.lcmp X107.here hx rfl (hb hby d10_56) rfl kt) ?_
        show own_G p.tables e below _ (T107.setTop (mkF m 57 #[.val (.ref p0), .val (.long p1), .second, .val (.long p2), .second, .val (.long st), .second, .val (.int (0 : Int32)), .val (.int (Int32.ofNat sN)), .val (.long (own_pw ⟨(y.toInt - st.toInt).toNat, by omega⟩)), .second] [(.int (lcmpW (own_pw ⟨(y.toInt - st.toInt).toNat, by omega⟩) (0 : Int64)))]))
        refine own_go (fun _ kt => XS.ifNo X107.here hx rfl (hb hby d10_57) rfl ((if0 _ _).trans (feq (fun q => own_pw_ne _ (own_lq.mp q) : ¬ ((lcmpW (own_pw ⟨(y.toInt - st.toInt).toNat, by omega⟩) (0 : Int64)) = (0 : Int32)))).1) kt) ?_
        show own_G p.tables e below _ (T107.setTop (mkF m 60 #[.val (.ref p0), .val (.long p1), .second, .val (.long p2), .second, .val (.long st), .second, .val (.int (0 : Int32)), .val (.int (Int32.ofNat sN)), .val (.long (own_pw ⟨(y.toInt - st.toInt).toNat, by omega⟩)), .second] []))
        refine own_go (fun _ kt => XS.iconst X107.here hx rfl (hb hby d10_60) kt) ?_
        show own_G p.tables e below _ (T107.setTop (mkF m 61 #[.val (.ref p0), .val (.long p1), .second, .val (.long p2), .second, .val (.long st), .second, .val (.int (0 : Int32)), .val (.int (Int32.ofNat sN)), .val (.long (own_pw ⟨(y.toInt - st.toInt).toNat, by omega⟩)), .second] [(.int (1 : Int32))]))
        refine own_go (fun _ kt => XS.goto X107.here hx rfl (pc0 := 61) (pc' := 65) rfl (hb hby d10_61) (by decide) (by decide) kt) ?_
        show own_G p.tables e below _ (T107.setTop (mkF m 65 #[.val (.ref p0), .val (.long p1), .second, .val (.long p2), .second, .val (.long st), .second, .val (.int (0 : Int32)), .val (.int (Int32.ofNat sN)), .val (.long (own_pw ⟨(y.toInt - st.toInt).toNat, by omega⟩)), .second] [(.int (1 : Int32))]))
        refine own_go (fun _ kt => XS.istore X107.here hx rfl (hb hby d10_65) rfl (l' := #[.val (.ref p0), .val (.long p1), .second, .val (.long p2), .second, .val (.long st), .second, .val (.int (1 : Int32)), .val (.int (Int32.ofNat sN)), .val (.long (own_pw ⟨(y.toInt - st.toInt).toNat, by omega⟩)), .second]) rfl kt) ?_
        show own_G p.tables e below _ (T107.setTop (mkF m 67 #[.val (.ref p0), .val (.long p1), .second, .val (.long p2), .second, .val (.long st), .second, .val (.int (1 : Int32)), .val (.int (Int32.ofNat sN)), .val (.long (own_pw ⟨(y.toInt - st.toInt).toNat, by omega⟩)), .second] []))
        refine own_go (fun _ kt => XS.lload X107.here hx rfl (hb hby d10_67) rfl kt) ?_
        show own_G p.tables e below _ (T107.setTop (mkF m 69 #[.val (.ref p0), .val (.long p1), .second, .val (.long p2), .second, .val (.long st), .second, .val (.int (1 : Int32)), .val (.int (Int32.ofNat sN)), .val (.long (own_pw ⟨(y.toInt - st.toInt).toNat, by omega⟩)), .second] [(.long st)]))
        refine own_go (fun _ kt => XS.iload X107.here hx rfl (hb hby d10_69) rfl kt) ?_
        show own_G p.tables e below _ (T107.setTop (mkF m 71 #[.val (.ref p0), .val (.long p1), .second, .val (.long p2), .second, .val (.long st), .second, .val (.int (1 : Int32)), .val (.int (Int32.ofNat sN)), .val (.long (own_pw ⟨(y.toInt - st.toInt).toNat, by omega⟩)), .second] [(.int (1 : Int32)), (.long st)]))
        refine own_go (fun _ kt => XS.ifNo X107.here hx rfl (hb hby d10_71) rfl ((if0 _ _).trans (feq (by decide : ¬ ((1 : Int32) = (0 : Int32)))).1) kt) ?_
        show own_G p.tables e below _ (T107.setTop (mkF m 74 #[.val (.ref p0), .val (.long p1), .second, .val (.long p2), .second, .val (.long st), .second, .val (.int (1 : Int32)), .val (.int (Int32.ofNat sN)), .val (.long (own_pw ⟨(y.toInt - st.toInt).toNat, by omega⟩)), .second] [(.long st)]))
        refine own_go (fun _ kt => XS.lload X107.here hx rfl (hb hby d10_74) rfl kt) ?_
        show own_G p.tables e below _ (T107.setTop (mkF m 76 #[.val (.ref p0), .val (.long p1), .second, .val (.long p2), .second, .val (.long st), .second, .val (.int (1 : Int32)), .val (.int (Int32.ofNat sN)), .val (.long (own_pw ⟨(y.toInt - st.toInt).toNat, by omega⟩)), .second] [(.long (own_pw ⟨(y.toInt - st.toInt).toNat, by omega⟩)), (.long st)]))
        obtain ⟨_, _, ⟨T108, L108, k108, n108⟩, -, X108, ⟨Lc108, hQ108, l108, y108, z108⟩, st108⟩ := Jvm.LawKit.callS X107 hx (y := (⟨"java/lang/Long", "numberOfTrailingZeros", "(J)I"⟩ : MethodName)) hown (mvT hZ (hw _ (List.mem_of_getElem? (i := 62) rfl))) (mvT hZ (hw _ (List.mem_of_getElem? (i := 63) rfl))) (mvT hZ (hw _ (List.mem_of_getElem? (i := 17) rfl))) (mvT hZ (hw _ (List.mem_of_getElem? (i := 64) rfl))) (by decide) (backOf (W := 2) (rm_ntzL l Z a0 hw [] (own_pw ⟨(y.toInt - st.toInt).toNat, by omega⟩) ⟨(y.toInt - st.toInt).toNat, by omega⟩ h0 n0 Z0 rfl) hZ (hw _ (List.mem_of_getElem? (i := 64) rfl)) (hw _ (List.mem_of_getElem? (i := 17) rfl)) (by decide) (by decide)) (g := (mkF m 76 #[.val (.ref p0), .val (.long p1), .second, .val (.long p2), .second, .val (.long st), .second, .val (.int (1 : Int32)), .val (.int (Int32.ofNat sN)), .val (.long (own_pw ⟨(y.toInt - st.toInt).toNat, by omega⟩)), .second] [(.long (own_pw ⟨(y.toInt - st.toInt).toNat, by omega⟩)), (.long st)])) rfl (by rw [hml]; rfl) (argsL := [(.long (own_pw ⟨(y.toInt - st.toInt).toNat, by omega⟩))]) (rest := [(.long st)]) (lenOf pd__J_I rfl) rfl (by show 2 * 0 + _ ≤ _; exact Nat.le_of_eq rfl) (hb hby d10_76) (fun _ _ => ⟨rfl, e107, (Nat.le_of_ble_eq_true rfl), (Nat.le_of_ble_eq_true rfl)⟩)
        dsimp only [Pt.U, Pt.locs, Pt.cells, Pt.slots] at X108 l108 y108 z108 st108 hQ108
        subst l108 y108 z108
        obtain ⟨rfl, Nq108, eq108⟩ := hQ108
        have N108 := Fr.app N104 Nq108
        refine own_go st108 ?_
        show own_G p.tables e below _ (T108.setTop (mkF m 79 #[.val (.ref p0), .val (.long p1), .second, .val (.long p2), .second, .val (.long st), .second, .val (.int (1 : Int32)), .val (.int (Int32.ofNat sN)), .val (.long (own_pw ⟨(y.toInt - st.toInt).toNat, by omega⟩)), .second] [(.int (Int32.ofNat (y.toInt - st.toInt).toNat)), (.long st)]))
        refine own_go (fun _ kt => XS.i2l X108.here hx rfl (hb hby d10_79) rfl kt) ?_
        show own_G p.tables e below _ (T108.setTop (mkF m 80 #[.val (.ref p0), .val (.long p1), .second, .val (.long p2), .second, .val (.long st), .second, .val (.int (1 : Int32)), .val (.int (Int32.ofNat sN)), .val (.long (own_pw ⟨(y.toInt - st.toInt).toNat, by omega⟩)), .second] [(.long ((Int32.ofNat (y.toInt - st.toInt).toNat).toInt64)), (.long st)]))
        refine own_go (fun _ kt => XS.goto X108.here hx rfl (pc0 := 80) (pc' := 92) rfl (hb hby d10_80) (by decide) (by decide) kt) ?_
        show own_G p.tables e below _ (T108.setTop (mkF m 92 #[.val (.ref p0), .val (.long p1), .second, .val (.long p2), .second, .val (.long st), .second, .val (.int (1 : Int32)), .val (.int (Int32.ofNat sN)), .val (.long (own_pw ⟨(y.toInt - st.toInt).toNat, by omega⟩)), .second] [(.long ((Int32.ofNat (y.toInt - st.toInt).toNat).toInt64)), (.long st)]))
        refine own_go (fun _ kt => XS.ladd X108.here hx rfl (hb hby d10_92) rfl kt) ?_
        show own_G p.tables e below _ (T108.setTop (mkF m 93 #[.val (.ref p0), .val (.long p1), .second, .val (.long p2), .second, .val (.long st), .second, .val (.int (1 : Int32)), .val (.int (Int32.ofNat sN)), .val (.long (own_pw ⟨(y.toInt - st.toInt).toNat, by omega⟩)), .second] [(.long (st + ((Int32.ofNat (y.toInt - st.toInt).toNat).toInt64)))]))
        rw [own_stadd (y := y) (by omega) (by omega)]
        show own_G p.tables e below _ (T108.setTop (mkF m 93 #[.val (.ref p0), .val (.long p1), .second, .val (.long p2), .second, .val (.long st), .second, .val (.int (1 : Int32)), .val (.int (Int32.ofNat sN)), .val (.long (own_pw ⟨(y.toInt - st.toInt).toNat, by omega⟩)), .second] [(.long y)]))
        refine own_go (fun _ kt => XS.lstore X108.here hx rfl (hb hby d10_93) rfl (l' := #[.val (.ref p0), .val (.long p1), .second, .val (.long p2), .second, .val (.long y), .second, .val (.int (1 : Int32)), .val (.int (Int32.ofNat sN)), .val (.long (own_pw ⟨(y.toInt - st.toInt).toNat, by omega⟩)), .second]) rfl kt) ?_
        show own_G p.tables e below _ (T108.setTop (mkF m 95 #[.val (.ref p0), .val (.long p1), .second, .val (.long p2), .second, .val (.long y), .second, .val (.int (1 : Int32)), .val (.int (Int32.ofNat sN)), .val (.long (own_pw ⟨(y.toInt - st.toInt).toNat, by omega⟩)), .second] []))
        refine own_go (fun _ kt => XS.goto X108.here hx rfl (pc0 := 95) (pc' := 6) rfl (hb hby d10_95) (by decide) (by decide) kt) ?_
        show own_G p.tables e below _ (T108.setTop (mkF m 6 #[.val (.ref p0), .val (.long p1), .second, .val (.long p2), .second, .val (.long y), .second, .val (.int (1 : Int32)), .val (.int (Int32.ofNat sN)), .val (.long (own_pw ⟨(y.toInt - st.toInt).toNat, by omega⟩)), .second] []))
        exact jf _ _ _ _ X108 eq108 N108  
      · show own_G p.tables e below _ (T107.setTop (mkF m 51 #[.val (.ref p0), .val (.long p1), .second, .val (.long p2), .second, .val (.long st), .second, .val (.int (0 : Int32)), .val (.int (Int32.ofNat sN)), .val (.long x9), .second] [(.long (((u (sN / 64)).toUInt64 >>> ((Int32.ofNat sN) &&& 0x3f).toInt64.toUInt64).toInt64))]))
        rw [own_later_no U hP (show sN < 2147483648 by omega) hs4 (nr2 hd)]
        show own_G p.tables e below _ (T107.setTop (mkF m 51 #[.val (.ref p0), .val (.long p1), .second, .val (.long p2), .second, .val (.long st), .second, .val (.int (0 : Int32)), .val (.int (Int32.ofNat sN)), .val (.long x9), .second] [(.long (0 : Int64))]))
        refine own_go (fun _ kt => XS.lstore X107.here hx rfl (hb hby d10_51) rfl (l' := #[.val (.ref p0), .val (.long p1), .second, .val (.long p2), .second, .val (.long st), .second, .val (.int (0 : Int32)), .val (.int (Int32.ofNat sN)), .val (.long (0 : Int64)), .second]) rfl kt) ?_
        show own_G p.tables e below _ (T107.setTop (mkF m 53 #[.val (.ref p0), .val (.long p1), .second, .val (.long p2), .second, .val (.long st), .second, .val (.int (0 : Int32)), .val (.int (Int32.ofNat sN)), .val (.long (0 : Int64)), .second] []))
        refine own_go (fun _ kt => XS.lload X107.here hx rfl (hb hby d10_53) rfl kt) ?_
        show own_G p.tables e below _ (T107.setTop (mkF m 55 #[.val (.ref p0), .val (.long p1), .second, .val (.long p2), .second, .val (.long st), .second, .val (.int (0 : Int32)), .val (.int (Int32.ofNat sN)), .val (.long (0 : Int64)), .second] [(.long (0 : Int64))]))
        refine own_go (fun _ kt => XS.lconst X107.here hx rfl (hb hby d10_55) kt) ?_
        show own_G p.tables e below _ (T107.setTop (mkF m 56 #[.val (.ref p0), .val (.long p1), .second, .val (.long p2), .second, .val (.long st), .second, .val (.int (0 : Int32)), .val (.int (Int32.ofNat sN)), .val (.long (0 : Int64)), .second] [(.long (0 : Int64)), (.long (0 : Int64))]))
        refine own_go (fun _ kt => XS.lcmp X107.here hx rfl (hb hby d10_56) rfl kt) ?_
        show own_G p.tables e below _ (T107.setTop (mkF m 57 #[.val (.ref p0), .val (.long p1), .second, .val (.long p2), .second, .val (.long st), .second, .val (.int (0 : Int32)), .val (.int (Int32.ofNat sN)), .val (.long (0 : Int64)), .second] [(.int (lcmpW (0 : Int64) (0 : Int64)))]))
        refine own_go (fun _ kt => XS.ifYes X107.here hx rfl (pc0 := 57) (pc' := 64) rfl (hb hby d10_57) rfl ((if0 _ _).trans (teq (own_lq.mpr rfl : (lcmpW (0 : Int64) (0 : Int64)) = (0 : Int32))).1) (by decide) (by decide) kt) ?_
        show own_G p.tables e below _ (T107.setTop (mkF m 64 #[.val (.ref p0), .val (.long p1), .second, .val (.long p2), .second, .val (.long st), .second, .val (.int (0 : Int32)), .val (.int (Int32.ofNat sN)), .val (.long (0 : Int64)), .second] []))
        refine own_go (fun _ kt => XS.iconst X107.here hx rfl (hb hby d10_64) kt) ?_
        show own_G p.tables e below _ (T107.setTop (mkF m 65 #[.val (.ref p0), .val (.long p1), .second, .val (.long p2), .second, .val (.long st), .second, .val (.int (0 : Int32)), .val (.int (Int32.ofNat sN)), .val (.long (0 : Int64)), .second] [(.int (0 : Int32))]))
        refine own_go (fun _ kt => XS.istore X107.here hx rfl (hb hby d10_65) rfl (l' := #[.val (.ref p0), .val (.long p1), .second, .val (.long p2), .second, .val (.long st), .second, .val (.int (0 : Int32)), .val (.int (Int32.ofNat sN)), .val (.long (0 : Int64)), .second]) rfl kt) ?_
        show own_G p.tables e below _ (T107.setTop (mkF m 67 #[.val (.ref p0), .val (.long p1), .second, .val (.long p2), .second, .val (.long st), .second, .val (.int (0 : Int32)), .val (.int (Int32.ofNat sN)), .val (.long (0 : Int64)), .second] []))
        refine own_go (fun _ kt => XS.lload X107.here hx rfl (hb hby d10_67) rfl kt) ?_
        show own_G p.tables e below _ (T107.setTop (mkF m 69 #[.val (.ref p0), .val (.long p1), .second, .val (.long p2), .second, .val (.long st), .second, .val (.int (0 : Int32)), .val (.int (Int32.ofNat sN)), .val (.long (0 : Int64)), .second] [(.long st)]))
        refine own_go (fun _ kt => XS.iload X107.here hx rfl (hb hby d10_69) rfl kt) ?_
        show own_G p.tables e below _ (T107.setTop (mkF m 71 #[.val (.ref p0), .val (.long p1), .second, .val (.long p2), .second, .val (.long st), .second, .val (.int (0 : Int32)), .val (.int (Int32.ofNat sN)), .val (.long (0 : Int64)), .second] [(.int (0 : Int32)), (.long st)]))
        refine own_go (fun _ kt => XS.ifYes X107.here hx rfl (pc0 := 71) (pc' := 83) rfl (hb hby d10_71) rfl ((if0 _ _).trans (teq (rfl : (0 : Int32) = (0 : Int32))).1) (by decide) (by decide) kt) ?_
        show own_G p.tables e below _ (T107.setTop (mkF m 83 #[.val (.ref p0), .val (.long p1), .second, .val (.long p2), .second, .val (.long st), .second, .val (.int (0 : Int32)), .val (.int (Int32.ofNat sN)), .val (.long (0 : Int64)), .second] [(.long st)]))
        refine own_go (fun _ kt => XS.bipush X107.here hx rfl (hb hby d10_83) kt) ?_
        show own_G p.tables e below _ (T107.setTop (mkF m 85 #[.val (.ref p0), .val (.long p1), .second, .val (.long p2), .second, .val (.long st), .second, .val (.int (0 : Int32)), .val (.int (Int32.ofNat sN)), .val (.long (0 : Int64)), .second] [(.int (64 : Int32)), (.long st)]))
        refine own_go (fun _ kt => XS.iload X107.here hx rfl (hb hby d10_85) rfl kt) ?_
        show own_G p.tables e below _ (T107.setTop (mkF m 87 #[.val (.ref p0), .val (.long p1), .second, .val (.long p2), .second, .val (.long st), .second, .val (.int (0 : Int32)), .val (.int (Int32.ofNat sN)), .val (.long (0 : Int64)), .second] [(.int (Int32.ofNat sN)), (.int (64 : Int32)), (.long st)]))
        refine own_go (fun _ kt => XS.bipush X107.here hx rfl (hb hby d10_87) kt) ?_
        show own_G p.tables e below _ (T107.setTop (mkF m 89 #[.val (.ref p0), .val (.long p1), .second, .val (.long p2), .second, .val (.long st), .second, .val (.int (0 : Int32)), .val (.int (Int32.ofNat sN)), .val (.long (0 : Int64)), .second] [(.int (64 : Int32)), (.int (Int32.ofNat sN)), (.int (64 : Int32)), (.long st)]))
        refine own_go (fun _ kt => XS.irem X107.here hx rfl (hb hby d10_89) rfl (by decide) kt) ?_
        rw [own_irem]
        show own_G p.tables e below _ (T107.setTop (mkF m 90 #[.val (.ref p0), .val (.long p1), .second, .val (.long p2), .second, .val (.long st), .second, .val (.int (0 : Int32)), .val (.int (Int32.ofNat sN)), .val (.long (0 : Int64)), .second] [(.int ((Int32.ofNat sN) % (64 : Int32))), (.int (64 : Int32)), (.long st)]))
        refine own_go (fun _ kt => XS.isub X107.here hx rfl (hb hby d10_90) rfl kt) ?_
        show own_G p.tables e below _ (T107.setTop (mkF m 91 #[.val (.ref p0), .val (.long p1), .second, .val (.long p2), .second, .val (.long st), .second, .val (.int (0 : Int32)), .val (.int (Int32.ofNat sN)), .val (.long (0 : Int64)), .second] [(.int ((64 : Int32) - ((Int32.ofNat sN) % (64 : Int32)))), (.long st)]))
        refine own_go (fun _ kt => XS.i2l X107.here hx rfl (hb hby d10_91) rfl kt) ?_
        show own_G p.tables e below _ (T107.setTop (mkF m 92 #[.val (.ref p0), .val (.long p1), .second, .val (.long p2), .second, .val (.long st), .second, .val (.int (0 : Int32)), .val (.int (Int32.ofNat sN)), .val (.long (0 : Int64)), .second] [(.long (((64 : Int32) - ((Int32.ofNat sN) % (64 : Int32))).toInt64)), (.long st)]))
        refine own_go (fun _ kt => XS.ladd X107.here hx rfl (hb hby d10_92) rfl kt) ?_
        show own_G p.tables e below _ (T107.setTop (mkF m 93 #[.val (.ref p0), .val (.long p1), .second, .val (.long p2), .second, .val (.long st), .second, .val (.int (0 : Int32)), .val (.int (Int32.ofNat sN)), .val (.long (0 : Int64)), .second] [(.long (st + (((64 : Int32) - ((Int32.ofNat sN) % (64 : Int32))).toInt64)))]))
        refine own_go (fun _ kt => XS.lstore X107.here hx rfl (hb hby d10_93) rfl (l' := #[.val (.ref p0), .val (.long p1), .second, .val (.long p2), .second, .val (.long (st + (((64 : Int32) - ((Int32.ofNat sN) % (64 : Int32))).toInt64))), .second, .val (.int (0 : Int32)), .val (.int (Int32.ofNat sN)), .val (.long (0 : Int64)), .second]) rfl kt) ?_
        show own_G p.tables e below _ (T107.setTop (mkF m 95 #[.val (.ref p0), .val (.long p1), .second, .val (.long p2), .second, .val (.long (st + (((64 : Int32) - ((Int32.ofNat sN) % (64 : Int32))).toInt64))), .second, .val (.int (0 : Int32)), .val (.int (Int32.ofNat sN)), .val (.long (0 : Int64)), .second] []))
        refine own_go (fun _ kt => XS.goto X107.here hx rfl (pc0 := 95) (pc' := 6) rfl (hb hby d10_95) (by decide) (by decide) kt) ?_
        have hsk := own_stskip (st := st) (s := sN) (by omega) (by omega)
        show own_G p.tables e below _ (T107.setTop (mkF m 6 #[.val (.ref p0), .val (.long p1), .second, .val (.long p2), .second, .val (.long (st + (((64 : Int32) - ((Int32.ofNat sN) % (64 : Int32))).toInt64))), .second, .val (.int (0 : Int32)), .val (.int (Int32.ofNat sN)), .val (.long (0 : Int64)), .second] []))
        exact ih _ _ _ _ _ X107 e107 N104 (by omega) (by omega) (by omega)
  show own_G p.tables e below _ (s₁.setTop (mkF m 0 #[.val (.ref p0), .val (.long p1), .second, .val (.long p2), .second, .unset, .unset, .unset, .unset, .unset, .unset] []))
  refine own_go (fun _ kt => XS.lloadN X0.here hx rfl (hb hby d10_0) rfl kt) ?_
  show own_G p.tables e below _ (s₁.setTop (mkF m 1 #[.val (.ref p0), .val (.long p1), .second, .val (.long p2), .second, .unset, .unset, .unset, .unset, .unset, .unset] [(.long p1)]))
  refine own_go (fun _ kt => XS.lstore X0.here hx rfl (hb hby d10_1) rfl (l' := #[.val (.ref p0), .val (.long p1), .second, .val (.long p2), .second, .val (.long p1), .second, .unset, .unset, .unset, .unset]) rfl kt) ?_
  show own_G p.tables e below _ (s₁.setTop (mkF m 3 #[.val (.ref p0), .val (.long p1), .second, .val (.long p2), .second, .val (.long p1), .second, .unset, .unset, .unset, .unset] []))
  refine own_go (fun _ kt => XS.iconst X0.here hx rfl (hb hby d10_3) kt) ?_
  show own_G p.tables e below _ (s₁.setTop (mkF m 4 #[.val (.ref p0), .val (.long p1), .second, .val (.long p2), .second, .val (.long p1), .second, .unset, .unset, .unset, .unset] [(.int (0 : Int32))]))
  refine own_go (fun _ kt => XS.istore X0.here hx rfl (hb hby d10_4) rfl (l' := #[.val (.ref p0), .val (.long p1), .second, .val (.long p2), .second, .val (.long p1), .second, .val (.int (0 : Int32)), .unset, .unset, .unset]) rfl kt) ?_
  obtain ⟨st, hst0⟩ : ∃ st : Int64, st = p1 := ⟨_, rfl⟩
  show own_G p.tables e below _ (s₁.setTop (mkF m 6 #[.val (.ref p0), .val (.long p1), .second, .val (.long p2), .second, .val (.long p1), .second, .val (.int (0 : Int32)), .unset, .unset, .unset] []))
  have hst : p1.toInt ≤ y.toInt := hy1
  obtain ⟨sN, hs⟩ : ∃ sN : Nat, (sN : Int) = p1.toInt % (S : Int) := ⟨(p1.toInt % (S : Int)).toNat, by rcases ok with rfl | rfl | rfl | rfl | rfl <;> omega⟩
  obtain ⟨hs1, hs2, hs3, hs4⟩ := own_slt ok hs
  have hc1 := own_clamp (i := sN) (by omega)
  have hc2 := own_clamp (i := sN / 64) (by omega)
  have hi1 := own_nat (i := sN) (by omega)
  have hi2 := own_nat (i := sN / 64) (by omega)
  obtain ⟨nr1, nr2⟩ := own_near ok hs hsy hst (by omega)
  show own_G p.tables e below _ (s₁.setTop (mkF m 6 #[.val (.ref p0), .val (.long p1), .second, .val (.long p2), .second, .val (.long p1), .second, .val (.int (0 : Int32)), .unset, .unset, .unset] []))
  refine own_go (fun _ kt => XS.iload X0.here hx rfl (hb hby d10_6) rfl kt) ?_
  show own_G p.tables e below _ (s₁.setTop (mkF m 8 #[.val (.ref p0), .val (.long p1), .second, .val (.long p2), .second, .val (.long p1), .second, .val (.int (0 : Int32)), .unset, .unset, .unset] [(.int (0 : Int32))]))
  refine own_go (fun _ kt => XS.ifNo X0.here hx rfl (hb hby d10_8) rfl ((if0 _ _).trans (teq (rfl : (0 : Int32) = (0 : Int32))).2) kt) ?_
  show own_G p.tables e below _ (s₁.setTop (mkF m 11 #[.val (.ref p0), .val (.long p1), .second, .val (.long p2), .second, .val (.long p1), .second, .val (.int (0 : Int32)), .unset, .unset, .unset] []))
  refine own_go (fun _ kt => XS.aloadN X0.here hx rfl (hb hby d10_11) rfl rfl kt) ?_
  show own_G p.tables e below _ (s₁.setTop (mkF m 12 #[.val (.ref p0), .val (.long p1), .second, .val (.long p2), .second, .val (.long p1), .second, .val (.int (0 : Int32)), .unset, .unset, .unset] [(.ref p0)]))
  obtain ⟨T109, X109, e109, st109⟩ := getF X0 hx hZ hown (host := "") (Or.inl (hw _ (List.mem_of_getElem? (i := 43) rfl))) Via.refl e0 F_c (g := (mkF m 12 #[.val (.ref p0), .val (.long p1), .second, .val (.long p2), .second, .val (.long p1), .second, .val (.int (0 : Int32)), .unset, .unset, .unset] [(.ref p0)])) rfl rfl (hb hby d10_12)
  refine own_go st109 ?_
  show own_G p.tables e below _ (T109.setTop (mkF m 15 #[.val (.ref p0), .val (.long p1), .second, .val (.long p2), .second, .val (.long p1), .second, .val (.int (0 : Int32)), .unset, .unset, .unset] [(.int (1 : Int32))]))
  refine own_go (fun _ kt => XS.ifNo X109.here hx rfl (hb hby d10_15) rfl ((if0 _ _).trans (tlt (by decide : (0 : Int32) < (1 : Int32))).2.2.2) kt) ?_
  show own_G p.tables e below _ (T109.setTop (mkF m 18 #[.val (.ref p0), .val (.long p1), .second, .val (.long p2), .second, .val (.long p1), .second, .val (.int (0 : Int32)), .unset, .unset, .unset] []))
  refine own_go (fun _ kt => XS.lload X109.here hx rfl (hb hby d10_18) rfl kt) ?_
  show own_G p.tables e below _ (T109.setTop (mkF m 20 #[.val (.ref p0), .val (.long p1), .second, .val (.long p2), .second, .val (.long p1), .second, .val (.int (0 : Int32)), .unset, .unset, .unset] [(.long p1)]))
  refine own_go (fun _ kt => XS.lloadN X109.here hx rfl (hb hby d10_20) rfl kt) ?_
  show own_G p.tables e below _ (T109.setTop (mkF m 21 #[.val (.ref p0), .val (.long p1), .second, .val (.long p2), .second, .val (.long p1), .second, .val (.int (0 : Int32)), .unset, .unset, .unset] [(.long p2), (.long p1)]))
  refine own_go (fun _ kt => XS.lcmp X109.here hx rfl (hb hby d10_21) rfl kt) ?_
  show own_G p.tables e below _ (T109.setTop (mkF m 22 #[.val (.ref p0), .val (.long p1), .second, .val (.long p2), .second, .val (.long p1), .second, .val (.int (0 : Int32)), .unset, .unset, .unset] [(.int (lcmpW p1 p2))]))
  refine own_go (fun _ kt => XS.ifNo X109.here hx rfl (hb hby d10_22) rfl ((if0 _ _).trans (tlt (own_ll.mpr (by omega) : (lcmpW p1 p2) < (0 : Int32))).2.1) kt) ?_
  show own_G p.tables e below _ (T109.setTop (mkF m 25 #[.val (.ref p0), .val (.long p1), .second, .val (.long p2), .second, .val (.long p1), .second, .val (.int (0 : Int32)), .unset, .unset, .unset] []))
  refine own_go (fun _ kt => XS.lload X109.here hx rfl (hb hby d10_25) rfl kt) ?_
  show own_G p.tables e below _ (T109.setTop (mkF m 27 #[.val (.ref p0), .val (.long p1), .second, .val (.long p2), .second, .val (.long p1), .second, .val (.int (0 : Int32)), .unset, .unset, .unset] [(.long p1)]))
  refine own_go (fun _ kt => XS.l2i X109.here hx rfl (hb hby d10_27) rfl kt) ?_
  show own_G p.tables e below _ (T109.setTop (mkF m 28 #[.val (.ref p0), .val (.long p1), .second, .val (.long p2), .second, .val (.long p1), .second, .val (.int (0 : Int32)), .unset, .unset, .unset] [(.int (p1.toInt32))]))
  refine own_go (fun _ kt => XS.aloadN X109.here hx rfl (hb hby d10_28) rfl rfl kt) ?_
  show own_G p.tables e below _ (T109.setTop (mkF m 29 #[.val (.ref p0), .val (.long p1), .second, .val (.long p2), .second, .val (.long p1), .second, .val (.int (0 : Int32)), .unset, .unset, .unset] [(.ref p0), (.int (p1.toInt32))]))
  obtain ⟨T110, X110, e110, st110⟩ := getF X109 hx hZ hown (host := "") (Or.inl (hw _ (List.mem_of_getElem? (i := 35) rfl))) Via.refl e109 F_p (g := (mkF m 29 #[.val (.ref p0), .val (.long p1), .second, .val (.long p2), .second, .val (.long p1), .second, .val (.int (0 : Int32)), .unset, .unset, .unset] [(.ref p0), (.int (p1.toInt32))])) rfl rfl (hb hby d10_29)
  refine own_go st110 ?_
  show own_G p.tables e below _ (T110.setTop (mkF m 32 #[.val (.ref p0), .val (.long p1), .second, .val (.long p2), .second, .val (.long p1), .second, .val (.int (0 : Int32)), .unset, .unset, .unset] [(.ref wp), (.int (p1.toInt32))]))
  refine own_go (own_len X110 hx hZ e110 V_p (z := (Int32.ofNat S)) (own_len32 ok) (g := (mkF m 32 #[.val (.ref p0), .val (.long p1), .second, .val (.long p2), .second, .val (.long p1), .second, .val (.int (0 : Int32)), .unset, .unset, .unset] [(.ref wp), (.int (p1.toInt32))])) rfl rfl (hb hby d10_32)) ?_
  show own_G p.tables e below _ (T110.setTop (mkF m 33 #[.val (.ref p0), .val (.long p1), .second, .val (.long p2), .second, .val (.long p1), .second, .val (.int (0 : Int32)), .unset, .unset, .unset] [(.int (Int32.ofNat S)), (.int (p1.toInt32))]))
  refine own_go (fun _ kt => XS.iconst X110.here hx rfl (hb hby d10_33) kt) ?_
  show own_G p.tables e below _ (T110.setTop (mkF m 34 #[.val (.ref p0), .val (.long p1), .second, .val (.long p2), .second, .val (.long p1), .second, .val (.int (0 : Int32)), .unset, .unset, .unset] [(.int (1 : Int32)), (.int (Int32.ofNat S)), (.int (p1.toInt32))]))
  refine own_go (fun _ kt => XS.isub X110.here hx rfl (hb hby d10_34) rfl kt) ?_
  show own_G p.tables e below _ (T110.setTop (mkF m 35 #[.val (.ref p0), .val (.long p1), .second, .val (.long p2), .second, .val (.long p1), .second, .val (.int (0 : Int32)), .unset, .unset, .unset] [(.int ((Int32.ofNat S) - (1 : Int32))), (.int (p1.toInt32))]))
  refine own_go (fun _ kt => XS.iand X110.here hx rfl (hb hby d10_35) rfl kt) ?_
  show own_G p.tables e below _ (T110.setTop (mkF m 36 #[.val (.ref p0), .val (.long p1), .second, .val (.long p2), .second, .val (.long p1), .second, .val (.int (0 : Int32)), .unset, .unset, .unset] [(.int ((p1.toInt32) &&& ((Int32.ofNat S) - (1 : Int32))))]))
  rw [own_slot ok hs]
  show own_G p.tables e below _ (T110.setTop (mkF m 36 #[.val (.ref p0), .val (.long p1), .second, .val (.long p2), .second, .val (.long p1), .second, .val (.int (0 : Int32)), .unset, .unset, .unset] [(.int (Int32.ofNat sN))]))
  refine own_go (fun _ kt => XS.istore X110.here hx rfl (hb hby d10_36) rfl (l' := #[.val (.ref p0), .val (.long p1), .second, .val (.long p2), .second, .val (.long p1), .second, .val (.int (0 : Int32)), .val (.int (Int32.ofNat sN)), .unset, .unset]) rfl kt) ?_
  show own_G p.tables e below _ (T110.setTop (mkF m 38 #[.val (.ref p0), .val (.long p1), .second, .val (.long p2), .second, .val (.long p1), .second, .val (.int (0 : Int32)), .val (.int (Int32.ofNat sN)), .unset, .unset] []))
  refine own_go (fun _ kt => XS.aloadN X110.here hx rfl (hb hby d10_38) rfl rfl kt) ?_
  show own_G p.tables e below _ (T110.setTop (mkF m 39 #[.val (.ref p0), .val (.long p1), .second, .val (.long p2), .second, .val (.long p1), .second, .val (.int (0 : Int32)), .val (.int (Int32.ofNat sN)), .unset, .unset] [(.ref p0)]))
  obtain ⟨T111, X111, e111, st111⟩ := getF X110 hx hZ hown (host := "") (Or.inl (hw _ (List.mem_of_getElem? (i := 41) rfl))) Via.refl e110 F_u (g := (mkF m 39 #[.val (.ref p0), .val (.long p1), .second, .val (.long p2), .second, .val (.long p1), .second, .val (.int (0 : Int32)), .val (.int (Int32.ofNat sN)), .unset, .unset] [(.ref p0)])) rfl rfl (hb hby d10_39)
  refine own_go st111 ?_
  show own_G p.tables e below _ (T111.setTop (mkF m 42 #[.val (.ref p0), .val (.long p1), .second, .val (.long p2), .second, .val (.long p1), .second, .val (.int (0 : Int32)), .val (.int (Int32.ofNat sN)), .unset, .unset] [(.ref wu)]))
  refine own_go (fun _ kt => XS.iload X111.here hx rfl (hb hby d10_42) rfl kt) ?_
  show own_G p.tables e below _ (T111.setTop (mkF m 44 #[.val (.ref p0), .val (.long p1), .second, .val (.long p2), .second, .val (.long p1), .second, .val (.int (0 : Int32)), .val (.int (Int32.ofNat sN)), .unset, .unset] [(.int (Int32.ofNat sN)), (.ref wu)]))
  refine own_go (fun _ kt => XS.bipush X111.here hx rfl (hb hby d10_44) kt) ?_
  show own_G p.tables e below _ (T111.setTop (mkF m 46 #[.val (.ref p0), .val (.long p1), .second, .val (.long p2), .second, .val (.long p1), .second, .val (.int (0 : Int32)), .val (.int (Int32.ofNat sN)), .unset, .unset] [(.int (6 : Int32)), (.int (Int32.ofNat sN)), (.ref wu)]))
  refine own_go (fun _ kt => XS.iushr X111.here hx rfl (hb hby d10_46) rfl kt) ?_
  show own_G p.tables e below _ (T111.setTop (mkF m 47 #[.val (.ref p0), .val (.long p1), .second, .val (.long p2), .second, .val (.long p1), .second, .val (.int (0 : Int32)), .val (.int (Int32.ofNat sN)), .unset, .unset] [(.int (((Int32.ofNat sN).toUInt32 >>> ((6 : Int32) &&& 31).toUInt32).toInt32)), (.ref wu)]))
  rw [own_shr6 (show sN < 2147483648 by omega)]
  show own_G p.tables e below _ (T111.setTop (mkF m 47 #[.val (.ref p0), .val (.long p1), .second, .val (.long p2), .second, .val (.long p1), .second, .val (.int (0 : Int32)), .val (.int (Int32.ofNat sN)), .unset, .unset] [(.int (Int32.ofNat (sN / 64))), (.ref wu)]))
  refine own_go (own_ldJ X111 hx hZ e111 V_u (j := (Int32.ofNat (sN / 64))) (v := (.long (u (sN / 64)))) (by omega) (by omega) (congrArg (fun j => Value.long (u j)) hc2) (g := (mkF m 47 #[.val (.ref p0), .val (.long p1), .second, .val (.long p2), .second, .val (.long p1), .second, .val (.int (0 : Int32)), .val (.int (Int32.ofNat sN)), .unset, .unset] [(.int (Int32.ofNat (sN / 64))), (.ref wu)])) rfl rfl (hb hby d10_47)) ?_
  show own_G p.tables e below _ (T111.setTop (mkF m 48 #[.val (.ref p0), .val (.long p1), .second, .val (.long p2), .second, .val (.long p1), .second, .val (.int (0 : Int32)), .val (.int (Int32.ofNat sN)), .unset, .unset] [(.long (u (sN / 64)))]))
  refine own_go (fun _ kt => XS.iload X111.here hx rfl (hb hby d10_48) rfl kt) ?_
  show own_G p.tables e below _ (T111.setTop (mkF m 50 #[.val (.ref p0), .val (.long p1), .second, .val (.long p2), .second, .val (.long p1), .second, .val (.int (0 : Int32)), .val (.int (Int32.ofNat sN)), .unset, .unset] [(.int (Int32.ofNat sN)), (.long (u (sN / 64)))]))
  refine own_go (fun _ kt => XS.lushr X111.here hx rfl (hb hby d10_50) rfl kt) ?_
  by_cases hd : sN % 64 + (y.toInt - p1.toInt).toNat < 64
  · show own_G p.tables e below _ (T111.setTop (mkF m 51 #[.val (.ref p0), .val (.long p1), .second, .val (.long p2), .second, .val (.long p1), .second, .val (.int (0 : Int32)), .val (.int (Int32.ofNat sN)), .unset, .unset] [(.long (((u (sN / 64)).toUInt64 >>> ((Int32.ofNat sN) &&& 0x3f).toInt64.toUInt64).toInt64))]))
    rw [own_later_yes U hP (show sN < 2147483648 by omega) hs4 hd (nr1 hd)]
    show own_G p.tables e below _ (T111.setTop (mkF m 51 #[.val (.ref p0), .val (.long p1), .second, .val (.long p2), .second, .val (.long p1), .second, .val (.int (0 : Int32)), .val (.int (Int32.ofNat sN)), .unset, .unset] [(.long (own_pw ⟨(y.toInt - p1.toInt).toNat, by omega⟩))]))
    refine own_go (fun _ kt => XS.lstore X111.here hx rfl (hb hby d10_51) rfl (l' := #[.val (.ref p0), .val (.long p1), .second, .val (.long p2), .second, .val (.long p1), .second, .val (.int (0 : Int32)), .val (.int (Int32.ofNat sN)), .val (.long (own_pw ⟨(y.toInt - p1.toInt).toNat, by omega⟩)), .second]) rfl kt) ?_
    show own_G p.tables e below _ (T111.setTop (mkF m 53 #[.val (.ref p0), .val (.long p1), .second, .val (.long p2), .second, .val (.long p1), .second, .val (.int (0 : Int32)), .val (.int (Int32.ofNat sN)), .val (.long (own_pw ⟨(y.toInt - p1.toInt).toNat, by omega⟩)), .second] []))
    refine own_go (fun _ kt => XS.lload X111.here hx rfl (hb hby d10_53) rfl kt) ?_
    show own_G p.tables e below _ (T111.setTop (mkF m 55 #[.val (.ref p0), .val (.long p1), .second, .val (.long p2), .second, .val (.long p1), .second, .val (.int (0 : Int32)), .val (.int (Int32.ofNat sN)), .val (.long (own_pw ⟨(y.toInt - p1.toInt).toNat, by omega⟩)), .second] [(.long (own_pw ⟨(y.toInt - p1.toInt).toNat, by omega⟩))]))
    refine own_go (fun _ kt => XS.lconst X111.here hx rfl (hb hby d10_55) kt) ?_
    show own_G p.tables e below _ (T111.setTop (mkF m 56 #[.val (.ref p0), .val (.long p1), .second, .val (.long p2), .second, .val (.long p1), .second, .val (.int (0 : Int32)), .val (.int (Int32.ofNat sN)), .val (.long (own_pw ⟨(y.toInt - p1.toInt).toNat, by omega⟩)), .second] [(.long (0 : Int64)), (.long (own_pw ⟨(y.toInt - p1.toInt).toNat, by omega⟩))]))
    refine own_go (fun _ kt => XS.lcmp X111.here hx rfl (hb hby d10_56) rfl kt) ?_
    show own_G p.tables e below _ (T111.setTop (mkF m 57 #[.val (.ref p0), .val (.long p1), .second, .val (.long p2), .second, .val (.long p1), .second, .val (.int (0 : Int32)), .val (.int (Int32.ofNat sN)), .val (.long (own_pw ⟨(y.toInt - p1.toInt).toNat, by omega⟩)), .second] [(.int (lcmpW (own_pw ⟨(y.toInt - p1.toInt).toNat, by omega⟩) (0 : Int64)))]))
    refine own_go (fun _ kt => XS.ifNo X111.here hx rfl (hb hby d10_57) rfl ((if0 _ _).trans (feq (fun q => own_pw_ne _ (own_lq.mp q) : ¬ ((lcmpW (own_pw ⟨(y.toInt - p1.toInt).toNat, by omega⟩) (0 : Int64)) = (0 : Int32)))).1) kt) ?_
    show own_G p.tables e below _ (T111.setTop (mkF m 60 #[.val (.ref p0), .val (.long p1), .second, .val (.long p2), .second, .val (.long p1), .second, .val (.int (0 : Int32)), .val (.int (Int32.ofNat sN)), .val (.long (own_pw ⟨(y.toInt - p1.toInt).toNat, by omega⟩)), .second] []))
    refine own_go (fun _ kt => XS.iconst X111.here hx rfl (hb hby d10_60) kt) ?_
    show own_G p.tables e below _ (T111.setTop (mkF m 61 #[.val (.ref p0), .val (.long p1), .second, .val (.long p2), .second, .val (.long p1), .second, .val (.int (0 : Int32)), .val (.int (Int32.ofNat sN)), .val (.long (own_pw ⟨(y.toInt - p1.toInt).toNat, by omega⟩)), .second] [(.int (1 : Int32))]))
    refine own_go (fun _ kt => XS.goto X111.here hx rfl (pc0 := 61) (pc' := 65) rfl (hb hby d10_61) (by decide) (by decide) kt) ?_
    show own_G p.tables e below _ (T111.setTop (mkF m 65 #[.val (.ref p0), .val (.long p1), .second, .val (.long p2), .second, .val (.long p1), .second, .val (.int (0 : Int32)), .val (.int (Int32.ofNat sN)), .val (.long (own_pw ⟨(y.toInt - p1.toInt).toNat, by omega⟩)), .second] [(.int (1 : Int32))]))
    refine own_go (fun _ kt => XS.istore X111.here hx rfl (hb hby d10_65) rfl (l' := #[.val (.ref p0), .val (.long p1), .second, .val (.long p2), .second, .val (.long p1), .second, .val (.int (1 : Int32)), .val (.int (Int32.ofNat sN)), .val (.long (own_pw ⟨(y.toInt - p1.toInt).toNat, by omega⟩)), .second]) rfl kt) ?_
    show own_G p.tables e below _ (T111.setTop (mkF m 67 #[.val (.ref p0), .val (.long p1), .second, .val (.long p2), .second, .val (.long p1), .second, .val (.int (1 : Int32)), .val (.int (Int32.ofNat sN)), .val (.long (own_pw ⟨(y.toInt - p1.toInt).toNat, by omega⟩)), .second] []))
    refine own_go (fun _ kt => XS.lload X111.here hx rfl (hb hby d10_67) rfl kt) ?_
    show own_G p.tables e below _ (T111.setTop (mkF m 69 #[.val (.ref p0), .val (.long p1), .second, .val (.long p2), .second, .val (.long p1), .second, .val (.int (1 : Int32)), .val (.int (Int32.ofNat sN)), .val (.long (own_pw ⟨(y.toInt - p1.toInt).toNat, by omega⟩)), .second] [(.long p1)]))
    refine own_go (fun _ kt => XS.iload X111.here hx rfl (hb hby d10_69) rfl kt) ?_
    show own_G p.tables e below _ (T111.setTop (mkF m 71 #[.val (.ref p0), .val (.long p1), .second, .val (.long p2), .second, .val (.long p1), .second, .val (.int (1 : Int32)), .val (.int (Int32.ofNat sN)), .val (.long (own_pw ⟨(y.toInt - p1.toInt).toNat, by omega⟩)), .second] [(.int (1 : Int32)), (.long p1)]))
    refine own_go (fun _ kt => XS.ifNo X111.here hx rfl (hb hby d10_71) rfl ((if0 _ _).trans (feq (by decide : ¬ ((1 : Int32) = (0 : Int32)))).1) kt) ?_
    show own_G p.tables e below _ (T111.setTop (mkF m 74 #[.val (.ref p0), .val (.long p1), .second, .val (.long p2), .second, .val (.long p1), .second, .val (.int (1 : Int32)), .val (.int (Int32.ofNat sN)), .val (.long (own_pw ⟨(y.toInt - p1.toInt).toNat, by omega⟩)), .second] [(.long p1)]))
    refine own_go (fun _ kt => XS.lload X111.here hx rfl (hb hby d10_74) rfl kt) ?_
    show own_G p.tables e below _ (T111.setTop (mkF m 76 #[.val (.ref p0), .val (.long p1), .second, .val (.long p2), .second, .val (.long p1), .second, .val (.int (1 : Int32)), .val (.int (Int32.ofNat sN)), .val (.long (own_pw ⟨(y.toInt - p1.toInt).toNat, by omega⟩)), .second] [(.long (own_pw ⟨(y.toInt - p1.toInt).toNat, by omega⟩)), (.long p1)]))
    obtain ⟨_, _, ⟨T112, L112, k112, n112⟩, -, X112, ⟨Lc112, hQ112, l112, y112, z112⟩, st112⟩ := Jvm.LawKit.callS X111 hx (y := (⟨"java/lang/Long", "numberOfTrailingZeros", "(J)I"⟩ : MethodName)) hown (mvT hZ (hw _ (List.mem_of_getElem? (i := 62) rfl))) (mvT hZ (hw _ (List.mem_of_getElem? (i := 63) rfl))) (mvT hZ (hw _ (List.mem_of_getElem? (i := 17) rfl))) (mvT hZ (hw _ (List.mem_of_getElem? (i := 64) rfl))) (by decide) (backOf (W := 2) (rm_ntzL l Z a0 hw [] (own_pw ⟨(y.toInt - p1.toInt).toNat, by omega⟩) ⟨(y.toInt - p1.toInt).toNat, by omega⟩ h0 n0 Z0 rfl) hZ (hw _ (List.mem_of_getElem? (i := 64) rfl)) (hw _ (List.mem_of_getElem? (i := 17) rfl)) (by decide) (by decide)) (g := (mkF m 76 #[.val (.ref p0), .val (.long p1), .second, .val (.long p2), .second, .val (.long p1), .second, .val (.int (1 : Int32)), .val (.int (Int32.ofNat sN)), .val (.long (own_pw ⟨(y.toInt - p1.toInt).toNat, by omega⟩)), .second] [(.long (own_pw ⟨(y.toInt - p1.toInt).toNat, by omega⟩)), (.long p1)])) rfl (by rw [hml]; rfl) (argsL := [(.long (own_pw ⟨(y.toInt - p1.toInt).toNat, by omega⟩))]) (rest := [(.long p1)]) (lenOf pd__J_I rfl) rfl (by show 2 * 0 + _ ≤ _; exact Nat.le_of_eq rfl) (hb hby d10_76) (fun _ _ => ⟨rfl, e111, (Nat.le_of_ble_eq_true rfl), (Nat.le_of_ble_eq_true rfl)⟩)
    dsimp only [Pt.U, Pt.locs, Pt.cells, Pt.slots] at X112 l112 y112 z112 st112 hQ112
    subst l112 y112 z112
    obtain ⟨rfl, Nq112, eq112⟩ := hQ112
    have N112 := Fr.app N0 Nq112
    refine own_go st112 ?_
    show own_G p.tables e below _ (T112.setTop (mkF m 79 #[.val (.ref p0), .val (.long p1), .second, .val (.long p2), .second, .val (.long p1), .second, .val (.int (1 : Int32)), .val (.int (Int32.ofNat sN)), .val (.long (own_pw ⟨(y.toInt - p1.toInt).toNat, by omega⟩)), .second] [(.int (Int32.ofNat (y.toInt - p1.toInt).toNat)), (.long p1)]))
    refine own_go (fun _ kt => XS.i2l X112.here hx rfl (hb hby d10_79) rfl kt) ?_
    show own_G p.tables e below _ (T112.setTop (mkF m 80 #[.val (.ref p0), .val (.long p1), .second, .val (.long p2), .second, .val (.long p1), .second, .val (.int (1 : Int32)), .val (.int (Int32.ofNat sN)), .val (.long (own_pw ⟨(y.toInt - p1.toInt).toNat, by omega⟩)), .second] [(.long ((Int32.ofNat (y.toInt - p1.toInt).toNat).toInt64)), (.long p1)]))
    refine own_go (fun _ kt => XS.goto X112.here hx rfl (pc0 := 80) (pc' := 92) rfl (hb hby d10_80) (by decide) (by decide) kt) ?_
    show own_G p.tables e below _ (T112.setTop (mkF m 92 #[.val (.ref p0), .val (.long p1), .second, .val (.long p2), .second, .val (.long p1), .second, .val (.int (1 : Int32)), .val (.int (Int32.ofNat sN)), .val (.long (own_pw ⟨(y.toInt - p1.toInt).toNat, by omega⟩)), .second] [(.long ((Int32.ofNat (y.toInt - p1.toInt).toNat).toInt64)), (.long p1)]))
    refine own_go (fun _ kt => XS.ladd X112.here hx rfl (hb hby d10_92) rfl kt) ?_
    show own_G p.tables e below _ (T112.setTop (mkF m 93 #[.val (.ref p0), .val (.long p1), .second, .val (.long p2), .second, .val (.long p1), .second, .val (.int (1 : Int32)), .val (.int (Int32.ofNat sN)), .val (.long (own_pw ⟨(y.toInt - p1.toInt).toNat, by omega⟩)), .second] [(.long (p1 + ((Int32.ofNat (y.toInt - p1.toInt).toNat).toInt64)))]))
    rw [own_stadd (y := y) (by omega) (by omega)]
    show own_G p.tables e below _ (T112.setTop (mkF m 93 #[.val (.ref p0), .val (.long p1), .second, .val (.long p2), .second, .val (.long p1), .second, .val (.int (1 : Int32)), .val (.int (Int32.ofNat sN)), .val (.long (own_pw ⟨(y.toInt - p1.toInt).toNat, by omega⟩)), .second] [(.long y)]))
    refine own_go (fun _ kt => XS.lstore X112.here hx rfl (hb hby d10_93) rfl (l' := #[.val (.ref p0), .val (.long p1), .second, .val (.long p2), .second, .val (.long y), .second, .val (.int (1 : Int32)), .val (.int (Int32.ofNat sN)), .val (.long (own_pw ⟨(y.toInt - p1.toInt).toNat, by omega⟩)), .second]) rfl kt) ?_
    show own_G p.tables e below _ (T112.setTop (mkF m 95 #[.val (.ref p0), .val (.long p1), .second, .val (.long p2), .second, .val (.long y), .second, .val (.int (1 : Int32)), .val (.int (Int32.ofNat sN)), .val (.long (own_pw ⟨(y.toInt - p1.toInt).toNat, by omega⟩)), .second] []))
    refine own_go (fun _ kt => XS.goto X112.here hx rfl (pc0 := 95) (pc' := 6) rfl (hb hby d10_95) (by decide) (by decide) kt) ?_
    show own_G p.tables e below _ (T112.setTop (mkF m 6 #[.val (.ref p0), .val (.long p1), .second, .val (.long p2), .second, .val (.long y), .second, .val (.int (1 : Int32)), .val (.int (Int32.ofNat sN)), .val (.long (own_pw ⟨(y.toInt - p1.toInt).toNat, by omega⟩)), .second] []))
    exact jf _ _ _ _ X112 eq112 N112  
  · show own_G p.tables e below _ (T111.setTop (mkF m 51 #[.val (.ref p0), .val (.long p1), .second, .val (.long p2), .second, .val (.long p1), .second, .val (.int (0 : Int32)), .val (.int (Int32.ofNat sN)), .unset, .unset] [(.long (((u (sN / 64)).toUInt64 >>> ((Int32.ofNat sN) &&& 0x3f).toInt64.toUInt64).toInt64))]))
    rw [own_later_no U hP (show sN < 2147483648 by omega) hs4 (nr2 hd)]
    show own_G p.tables e below _ (T111.setTop (mkF m 51 #[.val (.ref p0), .val (.long p1), .second, .val (.long p2), .second, .val (.long p1), .second, .val (.int (0 : Int32)), .val (.int (Int32.ofNat sN)), .unset, .unset] [(.long (0 : Int64))]))
    refine own_go (fun _ kt => XS.lstore X111.here hx rfl (hb hby d10_51) rfl (l' := #[.val (.ref p0), .val (.long p1), .second, .val (.long p2), .second, .val (.long p1), .second, .val (.int (0 : Int32)), .val (.int (Int32.ofNat sN)), .val (.long (0 : Int64)), .second]) rfl kt) ?_
    show own_G p.tables e below _ (T111.setTop (mkF m 53 #[.val (.ref p0), .val (.long p1), .second, .val (.long p2), .second, .val (.long p1), .second, .val (.int (0 : Int32)), .val (.int (Int32.ofNat sN)), .val (.long (0 : Int64)), .second] []))
    refine own_go (fun _ kt => XS.lload X111.here hx rfl (hb hby d10_53) rfl kt) ?_
    show own_G p.tables e below _ (T111.setTop (mkF m 55 #[.val (.ref p0), .val (.long p1), .second, .val (.long p2), .second, .val (.long p1), .second, .val (.int (0 : Int32)), .val (.int (Int32.ofNat sN)), .val (.long (0 : Int64)), .second] [(.long (0 : Int64))]))
    refine own_go (fun _ kt => XS.lconst X111.here hx rfl (hb hby d10_55) kt) ?_
    show own_G p.tables e below _ (T111.setTop (mkF m 56 #[.val (.ref p0), .val (.long p1), .second, .val (.long p2), .second, .val (.long p1), .second, .val (.int (0 : Int32)), .val (.int (Int32.ofNat sN)), .val (.long (0 : Int64)), .second] [(.long (0 : Int64)), (.long (0 : Int64))]))
    refine own_go (fun _ kt => XS.lcmp X111.here hx rfl (hb hby d10_56) rfl kt) ?_
    show own_G p.tables e below _ (T111.setTop (mkF m 57 #[.val (.ref p0), .val (.long p1), .second, .val (.long p2), .second, .val (.long p1), .second, .val (.int (0 : Int32)), .val (.int (Int32.ofNat sN)), .val (.long (0 : Int64)), .second] [(.int (lcmpW (0 : Int64) (0 : Int64)))]))
    refine own_go (fun _ kt => XS.ifYes X111.here hx rfl (pc0 := 57) (pc' := 64) rfl (hb hby d10_57) rfl ((if0 _ _).trans (teq (own_lq.mpr rfl : (lcmpW (0 : Int64) (0 : Int64)) = (0 : Int32))).1) (by decide) (by decide) kt) ?_
    show own_G p.tables e below _ (T111.setTop (mkF m 64 #[.val (.ref p0), .val (.long p1), .second, .val (.long p2), .second, .val (.long p1), .second, .val (.int (0 : Int32)), .val (.int (Int32.ofNat sN)), .val (.long (0 : Int64)), .second] []))
    refine own_go (fun _ kt => XS.iconst X111.here hx rfl (hb hby d10_64) kt) ?_
    show own_G p.tables e below _ (T111.setTop (mkF m 65 #[.val (.ref p0), .val (.long p1), .second, .val (.long p2), .second, .val (.long p1), .second, .val (.int (0 : Int32)), .val (.int (Int32.ofNat sN)), .val (.long (0 : Int64)), .second] [(.int (0 : Int32))]))
    refine own_go (fun _ kt => XS.istore X111.here hx rfl (hb hby d10_65) rfl (l' := #[.val (.ref p0), .val (.long p1), .second, .val (.long p2), .second, .val (.long p1), .second, .val (.int (0 : Int32)), .val (.int (Int32.ofNat sN)), .val (.long (0 : Int64)), .second]) rfl kt) ?_
    show own_G p.tables e below _ (T111.setTop (mkF m 67 #[.val (.ref p0), .val (.long p1), .second, .val (.long p2), .second, .val (.long p1), .second, .val (.int (0 : Int32)), .val (.int (Int32.ofNat sN)), .val (.long (0 : Int64)), .second] []))
    refine own_go (fun _ kt => XS.lload X111.here hx rfl (hb hby d10_67) rfl kt) ?_
    show own_G p.tables e below _ (T111.setTop (mkF m 69 #[.val (.ref p0), .val (.long p1), .second, .val (.long p2), .second, .val (.long p1), .second, .val (.int (0 : Int32)), .val (.int (Int32.ofNat sN)), .val (.long (0 : Int64)), .second] [(.long p1)]))
    refine own_go (fun _ kt => XS.iload X111.here hx rfl (hb hby d10_69) rfl kt) ?_
    show own_G p.tables e below _ (T111.setTop (mkF m 71 #[.val (.ref p0), .val (.long p1), .second, .val (.long p2), .second, .val (.long p1), .second, .val (.int (0 : Int32)), .val (.int (Int32.ofNat sN)), .val (.long (0 : Int64)), .second] [(.int (0 : Int32)), (.long p1)]))
    refine own_go (fun _ kt => XS.ifYes X111.here hx rfl (pc0 := 71) (pc' := 83) rfl (hb hby d10_71) rfl ((if0 _ _).trans (teq (rfl : (0 : Int32) = (0 : Int32))).1) (by decide) (by decide) kt) ?_
    show own_G p.tables e below _ (T111.setTop (mkF m 83 #[.val (.ref p0), .val (.long p1), .second, .val (.long p2), .second, .val (.long p1), .second, .val (.int (0 : Int32)), .val (.int (Int32.ofNat sN)), .val (.long (0 : Int64)), .second] [(.long p1)]))
    refine own_go (fun _ kt => XS.bipush X111.here hx rfl (hb hby d10_83) kt) ?_
    show own_G p.tables e below _ (T111.setTop (mkF m 85 #[.val (.ref p0), .val (.long p1), .second, .val (.long p2), .second, .val (.long p1), .second, .val (.int (0 : Int32)), .val (.int (Int32.ofNat sN)), .val (.long (0 : Int64)), .second] [(.int (64 : Int32)), (.long p1)]))
    refine own_go (fun _ kt => XS.iload X111.here hx rfl (hb hby d10_85) rfl kt) ?_
    show own_G p.tables e below _ (T111.setTop (mkF m 87 #[.val (.ref p0), .val (.long p1), .second, .val (.long p2), .second, .val (.long p1), .second, .val (.int (0 : Int32)), .val (.int (Int32.ofNat sN)), .val (.long (0 : Int64)), .second] [(.int (Int32.ofNat sN)), (.int (64 : Int32)), (.long p1)]))
    refine own_go (fun _ kt => XS.bipush X111.here hx rfl (hb hby d10_87) kt) ?_
    show own_G p.tables e below _ (T111.setTop (mkF m 89 #[.val (.ref p0), .val (.long p1), .second, .val (.long p2), .second, .val (.long p1), .second, .val (.int (0 : Int32)), .val (.int (Int32.ofNat sN)), .val (.long (0 : Int64)), .second] [(.int (64 : Int32)), (.int (Int32.ofNat sN)), (.int (64 : Int32)), (.long p1)]))
    refine own_go (fun _ kt => XS.irem X111.here hx rfl (hb hby d10_89) rfl (by decide) kt) ?_
    rw [own_irem]
    show own_G p.tables e below _ (T111.setTop (mkF m 90 #[.val (.ref p0), .val (.long p1), .second, .val (.long p2), .second, .val (.long p1), .second, .val (.int (0 : Int32)), .val (.int (Int32.ofNat sN)), .val (.long (0 : Int64)), .second] [(.int ((Int32.ofNat sN) % (64 : Int32))), (.int (64 : Int32)), (.long p1)]))
    refine own_go (fun _ kt => XS.isub X111.here hx rfl (hb hby d10_90) rfl kt) ?_
    show own_G p.tables e below _ (T111.setTop (mkF m 91 #[.val (.ref p0), .val (.long p1), .second, .val (.long p2), .second, .val (.long p1), .second, .val (.int (0 : Int32)), .val (.int (Int32.ofNat sN)), .val (.long (0 : Int64)), .second] [(.int ((64 : Int32) - ((Int32.ofNat sN) % (64 : Int32)))), (.long p1)]))
    refine own_go (fun _ kt => XS.i2l X111.here hx rfl (hb hby d10_91) rfl kt) ?_
    show own_G p.tables e below _ (T111.setTop (mkF m 92 #[.val (.ref p0), .val (.long p1), .second, .val (.long p2), .second, .val (.long p1), .second, .val (.int (0 : Int32)), .val (.int (Int32.ofNat sN)), .val (.long (0 : Int64)), .second] [(.long (((64 : Int32) - ((Int32.ofNat sN) % (64 : Int32))).toInt64)), (.long p1)]))
    refine own_go (fun _ kt => XS.ladd X111.here hx rfl (hb hby d10_92) rfl kt) ?_
    show own_G p.tables e below _ (T111.setTop (mkF m 93 #[.val (.ref p0), .val (.long p1), .second, .val (.long p2), .second, .val (.long p1), .second, .val (.int (0 : Int32)), .val (.int (Int32.ofNat sN)), .val (.long (0 : Int64)), .second] [(.long (p1 + (((64 : Int32) - ((Int32.ofNat sN) % (64 : Int32))).toInt64)))]))
    refine own_go (fun _ kt => XS.lstore X111.here hx rfl (hb hby d10_93) rfl (l' := #[.val (.ref p0), .val (.long p1), .second, .val (.long p2), .second, .val (.long (p1 + (((64 : Int32) - ((Int32.ofNat sN) % (64 : Int32))).toInt64))), .second, .val (.int (0 : Int32)), .val (.int (Int32.ofNat sN)), .val (.long (0 : Int64)), .second]) rfl kt) ?_
    show own_G p.tables e below _ (T111.setTop (mkF m 95 #[.val (.ref p0), .val (.long p1), .second, .val (.long p2), .second, .val (.long (p1 + (((64 : Int32) - ((Int32.ofNat sN) % (64 : Int32))).toInt64))), .second, .val (.int (0 : Int32)), .val (.int (Int32.ofNat sN)), .val (.long (0 : Int64)), .second] []))
    refine own_go (fun _ kt => XS.goto X111.here hx rfl (pc0 := 95) (pc' := 6) rfl (hb hby d10_95) (by decide) (by decide) kt) ?_
    have hsk := own_stskip (st := p1) (s := sN) (by omega) (by omega)
    show own_G p.tables e below _ (T111.setTop (mkF m 6 #[.val (.ref p0), .val (.long p1), .second, .val (.long p2), .second, .val (.long (p1 + (((64 : Int32) - ((Int32.ofNat sN) % (64 : Int32))).toInt64))), .second, .val (.int (0 : Int32)), .val (.int (Int32.ofNat sN)), .val (.long (0 : Int64)), .second] []))
    exact loop (y.toInt - p1.toInt).toNat _ _ _ _ _ X111 e111 N0 (by omega) (by omega) (by omega)
theorem own_updI_same (f : Nat → Int32) (i : Nat) (v : Int32) : own_updI f i v i = v := if_pos rfl
theorem own_updI_ne (f : Nat → Int32) {i j : Nat} (v : Int32) (h : ¬ j = i) : own_updI f i v j = f j := if_neg h
theorem own_span (x : Int32) : 1 ≤ ((1 : Int32) + (x &&& (1023 : Int32))).toInt ∧ ((1 : Int32) + (x &&& (1023 : Int32))).toInt ≤ 1024 := by
  have h := c_mask x 1023 10 (by decide) (by decide)
  have a := c_iadd 1 (x &&& (1023 : Int32))
  have r := rng32 ((1 : Int32) + (x &&& (1023 : Int32)))
  have z : (1 : Int32).toInt = 1 := rfl
  omega
theorem own_ddd {x sp : Int32} (h : 1 ≤ sp.toInt) : 0 ≤ ((x &&& (2147483647 : Int32)) % sp).toInt ∧ ((x &&& (2147483647 : Int32)) % sp).toInt < sp.toInt := by
  have a := c_mask x 2147483647 31 (by decide) (by decide)
  have b := (c_iremV (x &&& (2147483647 : Int32)) sp).1 (by omega) (by omega)
  exact ⟨b.1, b.2.1⟩
theorem own_sum {a : Int64} {d : Int32} (h0 : 0 ≤ d.toInt) (h1 : d.toInt ≤ 1024) (h2 : a.toInt ≤ 9223372036854771711) : (a + d.toInt64).toInt = a.toInt + d.toInt := by
  have x := c_ladd a d.toInt64
  have y := c_i2l d
  have r := rng64 (a + d.toInt64)
  have r2 := rng64 a
  omega
theorem own_apart {S sa sb : Nat} {a b d : Int} (ok : own_okS S) (ha : (sa : Int) = a % (S : Int)) (hb : (sb : Int) = b % (S : Int)) (h : b = a + d) (h0 : 0 < d) (h1 : d < S) : ¬ sb = sa := by
  rcases ok with rfl | rfl | rfl | rfl | rfl <;> omega
theorem own_lb {sa sb : Nat} (hne : ¬ sb = sa) (j : Nat) : ((decide (j = sa) || decide (j = sb)) && !decide (j = sb)) = decide (j = sa) := by
  by_cases e1 : j = sa
  · have e2 : ¬ j = sb := fun e => hne (e.symm.trans e1)
    simp [e2]
  · by_cases e2 : j = sb
    · simp [e2, hne]
    · simp [e2]
theorem own_la {sa sb : Nat} (hne : ¬ sb = sa) (j : Nat) : ((decide (j = sa) || decide (j = sb)) && !decide (j = sa)) = decide (j = sb) := by
  by_cases e1 : j = sb
  · have e2 : ¬ j = sa := fun e => hne (e1.symm.trans e)
    simp [e2]
  · by_cases e2 : j = sa
    · have e3 : ¬ sa = sb := fun e => hne e.symm
      simp [e2, e3]
    · simp [e2]
theorem own_less {x : Int64} (h : (9223372036854771711 : Int64).toInt < x.toInt) : (x - (4096 : Int64)).toInt ≤ 9223372036854771711 := by
  have z : (9223372036854771711 : Int64).toInt = 9223372036854771711 := rfl
  have z2 : (4096 : Int64).toInt = 4096 := rfl
  have a := c_lsub x 4096
  have r := rng64 x
  have r2 := rng64 (x - 4096)
  omega
theorem pd__I_V : parseMethodDescriptor "(I)V" = some ⟨[.int], none⟩ := by decide +kernel
theorem pd__JI_V : parseMethodDescriptor "(JI)V" = some ⟨[.long, .int], none⟩ := by decide +kernel
theorem pd___Z : parseMethodDescriptor "()Z" = some ⟨[], some .boolean⟩ := by decide +kernel
theorem pd__JJ_J : parseMethodDescriptor "(JJ)J" = some ⟨[.long, .long], some .long⟩ := by decide +kernel
theorem pn_com_example_brisk_match_briskmatch_search_StartRingTakePinLaw : plainName "com/example/brisk_match/briskmatch/search/StartRingTakePinLaw" = true := by first | (simp [plainName, overriddenIn]; done) | decide +kernel
theorem ef_law (m : MethodId) (p0 : Int32) (p1 : Int64) (p2 : Int32) (p3 : Int32) (p4 : Int32) (p5 : Int32) : entryFrame m #[(.int p0), (.long p1), (.int p2), (.int p3), (.int p4), (.int p5)] maxLocals = mkF m 0 #[.val (.int p0), .val (.long p1), .second, .val (.int p2), .val (.int p3), .val (.int p4), .val (.int p5), .unset, .unset, .unset, .unset, .unset, .unset, .unset, .unset, .unset, .unset, .unset, .unset, .unset, .unset, .unset, .unset, .unset] [] := by first | (simp [entryFrame, mkF, argsToLocals, Value.category, maxLocals]; done) | rfl
def Q_law (Z : State) (p0 : Int32) (p1 : Int64) (p2 : Int32) (p3 : Int32) (p4 : Int32) (p5 : Int32) (h0 : Heap) (n0 : Nat) (v : Option Value) (h : Heap) (L : List Loc) : Prop := v = some (.int (1 : Int32)) ∧ Fr n0 L
set_option maxRecDepth 65536 in
set_option maxHeartbeats 40000000 in
theorem rm_law (l : Launch) (Z : State) (a0 : Array Value) (hw : ∀ d ∈ tables_1, d.before a0 Z = true) (ws : List Jvm.Cond) (p0 : Int32) (p1 : Int64) (p2 : Int32) (p3 : Int32) (p4 : Int32) (p5 : Int32) (h0 : Heap) (n0 : Nat) (Z0 : n0 ≤ h0.size) :
    MetFree l x (head1 (Jvm.Cond.code x code maxLocals ret :: ws) room_1) (fun a U => a = #[(.int p0), (.long p1), (.int p2), (.int p3), (.int p4), (.int p5)] ∧ Z.Warmed39 U.vm ∧ U.heap = h0) (fun _ _ _ _ _ => True) (fun _ U o U' => ∃ v L, o = .returned v ∧ Q_law Z p0 p1 p2 p3 p4 p5 h0 n0 v U'.heap L ∧ FrameEnd U o U' L room_1.cells room_1.slots) := by
  refine MetFree.of_bodySF (plainFor_of_name pn_com_example_brisk_match_briskmatch_search_StartRingTakePinLaw) hisR ?_
  intro p e s m args below meth kc s₁ Bd hml0 hP hK
  obtain ⟨rfl, hZ, hh⟩ := hP
  have hx := Bd.exec
  have hby := Bd.bytes
  have hlk := Bd.notSynchronized
  have hml : kc.maxLocals = 24 := hml0
  have hown : s.vm.findClass "com/example/brisk_match/briskmatch/search/StartRingTakePinLaw" = some m.cls := findClass_of_methodNamed Bd.named
  have hnm := (name_of_methodNamed Bd.named Bd.method).1
  have X0 : Stand p l e room_1 s m #[(.int p0), (.long p1), (.int p2), (.int p3), (.int p4), (.int p5)] below meth kc s₁ [] 0 0 := Stand.of_body Bd
  have e0 : s₁.heap = h0 := by rw [← hh, Bd.state]; rfl
  have N0 := Fr.nil n0
  show own_G p.tables e below (own_E below s room_1.cells room_1.slots (Q_law Z p0 p1 p2 p3 p4 p5 h0 n0)) _
  refine own_go (fun _ k => castTop (ef_law m p0 p1 p2 p3 p4 p5) k) ?_
  have j28 : ∀ (T113 : State) (locs113 : List Loc) (h113 : Heap) (sp : Int32) (a : Int64), Stand p l e room_1 s m #[(.int p0), (.long p1), (.int p2), (.int p3), (.int p4), (.int p5)] below meth kc T113 locs113 0 0 → T113.heap = h113 → Fr n0 locs113 → n0 ≤ h113.size → (1 ≤ sp.toInt ∧ sp.toInt ≤ 1024) → (a.toInt ≤ 9223372036854771711) → own_G p.tables e below (own_E below s room_1.cells room_1.slots (Q_law Z p0 p1 p2 p3 p4 p5 h0 n0)) (T113.setTop (mkF m 28 #[.val (.int p0), .val (.long p1), .second, .val (.int p2), .val (.int p3), .val (.int p4), .val (.int p5), .val (.int sp), .val (.long a), .second, .unset, .unset, .unset, .unset, .unset, .unset, .unset, .unset, .unset, .unset, .unset, .unset, .unset, .unset] [])) := by
    intro T113 locs113 h113 sp a X113 e113 N113 Z113 hsp ha
    have j59 : ∀ (T114 : State) (locs114 : List Loc) (h114 : Heap) (d : Int32) (b : Int64) (tf : Int32), Stand p l e room_1 s m #[(.int p0), (.long p1), (.int p2), (.int p3), (.int p4), (.int p5)] below meth kc T114 locs114 0 0 → T114.heap = h114 → Fr n0 locs114 → n0 ≤ h114.size → (0 ≤ d.toInt ∧ d.toInt < sp.toInt) → (b.toInt = a.toInt + d.toInt) → (tf = 0 ∨ tf = 1) → own_G p.tables e below (own_E below s room_1.cells room_1.slots (Q_law Z p0 p1 p2 p3 p4 p5 h0 n0)) (T114.setTop (mkF m 59 #[.val (.int p0), .val (.long p1), .second, .val (.int p2), .val (.int p3), .val (.int p4), .val (.int p5), .val (.int sp), .val (.long a), .second, .val (.int d), .val (.long b), .second, .val (.int tf), .unset, .unset, .unset, .unset, .unset, .unset, .unset, .unset, .unset, .unset] [])) := by
      intro T114 locs114 h114 d b tf X114 e114 N114 Z114 hd hb0 htf
      show own_G p.tables e below _ (T114.setTop (mkF m 59 #[.val (.int p0), .val (.long p1), .second, .val (.int p2), .val (.int p3), .val (.int p4), .val (.int p5), .val (.int sp), .val (.long a), .second, .val (.int d), .val (.long b), .second, .val (.int tf), .unset, .unset, .unset, .unset, .unset, .unset, .unset, .unset, .unset, .unset] []))
      obtain ⟨T115, h115, X115, e115, E115, A115, D115, -, st115⟩ := newO X114 hx hZ hown (hw _ (List.mem_of_getElem? (i := 2) rfl)) (hw _ (List.mem_of_getElem? (i := 3) rfl)) (hw _ (List.mem_of_getElem? (i := 4) rfl)) e114 (g := (mkF m 59 #[.val (.int p0), .val (.long p1), .second, .val (.int p2), .val (.int p3), .val (.int p4), .val (.int p5), .val (.int sp), .val (.long a), .second, .val (.int d), .val (.long b), .second, .val (.int tf), .unset, .unset, .unset, .unset, .unset, .unset, .unset, .unset, .unset, .unset] [])) rfl (hb hby at_59) (Nat.le_of_ble_eq_true rfl) (Nat.le_of_ble_eq_true rfl)
      obtain ⟨b115, g115⟩ : ∃ z, z = h114.size := ⟨_, rfl⟩
      rw [← g115] at A115 D115 st115
      have g_b115 : n0 ≤ b115 := Nat.le_trans Z114 (Nat.le_of_eq g115.symm)
      refine own_go st115 ?_
      have Z115 : n0 ≤ h115.size := Nat.le_trans Z114 E115.1
      have F_size_b115 : Fld Z h115 b115 "com/example/brisk_match/briskmatch/search/StartRing" "size" "J" (.long (0 : Int64)) := D115 (Or.inr (hw _ (List.mem_of_getElem? (i := 29) rfl))) (ty := .long) (by decide)
      have F_patterns_b115 : Fld Z h115 b115 "com/example/brisk_match/briskmatch/search/StartRing" "patterns" "[I" .null := D115 (Or.inl (hw _ (List.mem_of_getElem? (i := 36) rfl))) (ty := (.array .int)) (by decide)
      have F_used_b115 : Fld Z h115 b115 "com/example/brisk_match/briskmatch/search/StartRing" "used" "[J" .null := D115 (Or.inl (hw _ (List.mem_of_getElem? (i := 42) rfl))) (ty := (.array .long)) (by decide)
      have F_count_b115 : Fld Z h115 b115 "com/example/brisk_match/briskmatch/search/StartRing" "count" "I" (.int (0 : Int32)) := D115 (Or.inl (hw _ (List.mem_of_getElem? (i := 44) rfl))) (ty := .int) (by decide)
      show own_G p.tables e below _ (T115.setTop (mkF m 62 #[.val (.int p0), .val (.long p1), .second, .val (.int p2), .val (.int p3), .val (.int p4), .val (.int p5), .val (.int sp), .val (.long a), .second, .val (.int d), .val (.long b), .second, .val (.int tf), .unset, .unset, .unset, .unset, .unset, .unset, .unset, .unset, .unset, .unset] [(.ref b115)]))
      refine own_go (fun _ kt => XS.dup X115.here hx rfl (hb hby at_62) rfl rfl kt) ?_
      show own_G p.tables e below _ (T115.setTop (mkF m 63 #[.val (.int p0), .val (.long p1), .second, .val (.int p2), .val (.int p3), .val (.int p4), .val (.int p5), .val (.int sp), .val (.long a), .second, .val (.int d), .val (.long b), .second, .val (.int tf), .unset, .unset, .unset, .unset, .unset, .unset, .unset, .unset, .unset, .unset] [(.ref b115), (.ref b115)]))
      refine own_go (fun _ kt => XS.iload X115.here hx rfl (hb hby at_63) rfl kt) ?_
      show own_G p.tables e below _ (T115.setTop (mkF m 65 #[.val (.int p0), .val (.long p1), .second, .val (.int p2), .val (.int p3), .val (.int p4), .val (.int p5), .val (.int sp), .val (.long a), .second, .val (.int d), .val (.long b), .second, .val (.int tf), .unset, .unset, .unset, .unset, .unset, .unset, .unset, .unset, .unset, .unset] [(.int sp), (.ref b115), (.ref b115)]))
      obtain ⟨_, _, ⟨T116, L116, k116, n116⟩, -, X116, ⟨Lc116, hQ116, l116, y116, z116⟩, st116⟩ := X115.specialBack hx (y := (⟨"com/example/brisk_match/briskmatch/search/StartRing", "<init>", "(I)V"⟩ : MethodName)) rfl hown (mvT hZ (hw _ (List.mem_of_getElem? (i := 5) rfl))) (mvT hZ (hw _ (List.mem_of_getElem? (i := 6) rfl))) (mvT hZ (hw _ (List.mem_of_getElem? (i := 7) rfl))) (by decide) (backOf (W := 1) (rm_init l Z a0 hw [] b115 sp  h115 n0 Z115 hsp A115 g_b115 F_size_b115 F_patterns_b115 F_used_b115 F_count_b115) hZ (hw _ (List.mem_of_getElem? (i := 7) rfl)) (hw _ (List.mem_of_getElem? (i := 4) rfl)) (by decide) (by decide)) (g := (mkF m 65 #[.val (.int p0), .val (.long p1), .second, .val (.int p2), .val (.int p3), .val (.int p4), .val (.int p5), .val (.int sp), .val (.long a), .second, .val (.int d), .val (.long b), .second, .val (.int tf), .unset, .unset, .unset, .unset, .unset, .unset, .unset, .unset, .unset, .unset] [(.int sp), (.ref b115), (.ref b115)])) rfl (by rw [hml]; rfl) (Steps.refl _) (a := b115) (argsL := [(.int sp)]) (rest := [(.ref b115)]) (lenOf pd__I_V rfl) rfl (by show 2 * 0 + _ ≤ _; exact Nat.le_of_eq rfl) (hb hby at_65) (fun _ _ => ⟨rfl, e115, (Nat.le_of_ble_eq_true rfl), (Nat.le_of_ble_eq_true rfl)⟩)
      dsimp only [Pt.U, Pt.locs, Pt.cells, Pt.slots] at X116 l116 y116 z116 st116 hQ116
      subst l116 y116 z116
      obtain ⟨rfl, Nq116, Kq116, S, ok, hS, Ei, Fs, Fp, Fu, Fc⟩ := hQ116
      have N116 := Fr.app N114 Nq116
      refine own_tr st116 ?_
      have Z116 : n0 ≤ T116.heap.size := Nat.le_trans Z115 Kq116.1
      have hex : ∀ z : Int, ∃ s : Nat, (s : Int) = z % (S : Int) := fun z => ⟨(z % (S : Int)).toNat, by rcases ok with rfl | rfl | rfl | rfl | rfl <;> omega⟩
      obtain ⟨sa, hsa⟩ := hex a.toInt
      have hS64 : 64 * (S / 64) = S := by rcases ok with rfl | rfl | rfl | rfl | rfl <;> decide
      have hspS := own_sum (a := a) (d := sp) (by omega) hsp.2 ha
      show own_G p.tables e below _ (T116.setTop (mkF m 68 #[.val (.int p0), .val (.long p1), .second, .val (.int p2), .val (.int p3), .val (.int p4), .val (.int p5), .val (.int sp), .val (.long a), .second, .val (.int d), .val (.long b), .second, .val (.int tf), .unset, .unset, .unset, .unset, .unset, .unset, .unset, .unset, .unset, .unset] [(.ref b115)]))
      refine own_go (fun _ kt => XS.astore X116.here hx rfl (hb hby at_68) rfl rfl (l' := #[.val (.int p0), .val (.long p1), .second, .val (.int p2), .val (.int p3), .val (.int p4), .val (.int p5), .val (.int sp), .val (.long a), .second, .val (.int d), .val (.long b), .second, .val (.int tf), .val (.ref b115), .unset, .unset, .unset, .unset, .unset, .unset, .unset, .unset, .unset]) rfl kt) ?_
      show own_G p.tables e below _ (T116.setTop (mkF m 70 #[.val (.int p0), .val (.long p1), .second, .val (.int p2), .val (.int p3), .val (.int p4), .val (.int p5), .val (.int sp), .val (.long a), .second, .val (.int d), .val (.long b), .second, .val (.int tf), .val (.ref b115), .unset, .unset, .unset, .unset, .unset, .unset, .unset, .unset, .unset] []))
      refine own_go (fun _ kt => XS.aload X116.here hx rfl (hb hby at_70) rfl rfl kt) ?_
      show own_G p.tables e below _ (T116.setTop (mkF m 72 #[.val (.int p0), .val (.long p1), .second, .val (.int p2), .val (.int p3), .val (.int p4), .val (.int p5), .val (.int sp), .val (.long a), .second, .val (.int d), .val (.long b), .second, .val (.int tf), .val (.ref b115), .unset, .unset, .unset, .unset, .unset, .unset, .unset, .unset, .unset] [(.ref b115)]))
      refine own_go (fun _ kt => XS.lload X116.here hx rfl (hb hby at_72) rfl kt) ?_
      show own_G p.tables e below _ (T116.setTop (mkF m 74 #[.val (.int p0), .val (.long p1), .second, .val (.int p2), .val (.int p3), .val (.int p4), .val (.int p5), .val (.int sp), .val (.long a), .second, .val (.int d), .val (.long b), .second, .val (.int tf), .val (.ref b115), .unset, .unset, .unset, .unset, .unset, .unset, .unset, .unset, .unset] [(.long a), (.ref b115)]))
      refine own_go (fun _ kt => XS.iload X116.here hx rfl (hb hby at_74) rfl kt) ?_
      show own_G p.tables e below _ (T116.setTop (mkF m 76 #[.val (.int p0), .val (.long p1), .second, .val (.int p2), .val (.int p3), .val (.int p4), .val (.int p5), .val (.int sp), .val (.long a), .second, .val (.int d), .val (.long b), .second, .val (.int tf), .val (.ref b115), .unset, .unset, .unset, .unset, .unset, .unset, .unset, .unset, .unset] [(.int p3), (.long a), (.ref b115)]))
      obtain ⟨cq117, kq117, q117a, q117b, q117c⟩ := isOf hZ rfl Ei
      obtain ⟨_, _, ⟨T117, L117, k117, n117⟩, -, X117, ⟨Lc117, hQ117, l117, y117, z117⟩, st117⟩ := X116.virtualBack hx (y := (⟨"com/example/brisk_match/briskmatch/search/StartRing", "put", "(JI)V"⟩ : MethodName)) (z := (⟨"com/example/brisk_match/briskmatch/search/StartRing", "put", "(JI)V"⟩ : MethodName)) hown (mvT hZ (hw _ (List.mem_of_getElem? (i := 30) rfl))) (mvT hZ (hw _ (List.mem_of_getElem? (i := 31) rfl))) (notFace_of_selects (args := #[]) (mvT hZ (hw _ (List.mem_of_getElem? (i := 33) rfl)))) (mvT hZ (hw _ (List.mem_of_getElem? (i := 33) rfl))) (mvT hZ (hw _ (List.mem_of_getElem? (i := 32) rfl))) (by decide) (backOf (W := 0) (rm_put0 l Z a0 hw [] b115 a p3 S sa T116.heap n0 Z116 ok hsa Ei g_b115 Fs Fp Fu Fc) hZ (hw _ (List.mem_of_getElem? (i := 34) rfl)) (hw _ (List.mem_of_getElem? (i := 4) rfl)) (by decide) (by decide)) q117a q117c (g := (mkF m 76 #[.val (.int p0), .val (.long p1), .second, .val (.int p2), .val (.int p3), .val (.int p4), .val (.int p5), .val (.int sp), .val (.long a), .second, .val (.int d), .val (.long b), .second, .val (.int tf), .val (.ref b115), .unset, .unset, .unset, .unset, .unset, .unset, .unset, .unset, .unset] [(.int p3), (.long a), (.ref b115)])) rfl (by rw [hml]; rfl) (Steps.refl _) (argsL := [(.long a), (.int p3)]) (rest := []) (lenOf pd__JI_V rfl) rfl (by show 2 * 0 + _ ≤ _; exact Nat.le_of_eq rfl) (hb hby at_76) (fun _ _ => ⟨rfl, rfl, (Nat.le_of_ble_eq_true rfl), (Nat.le_of_ble_eq_true rfl)⟩)
      dsimp only [Pt.U, Pt.locs, Pt.cells, Pt.slots] at X117 l117 y117 z117 st117 hQ117
      subst l117 y117 z117
      obtain ⟨rfl, Nq117, Zq117, wp, wu, u1, R1, U1⟩ := hQ117
      have N117 := Fr.app N116 Nq117
      refine own_tr st117 ?_
      show own_G p.tables e below _ (T117.setTop (mkF m 79 #[.val (.int p0), .val (.long p1), .second, .val (.int p2), .val (.int p3), .val (.int p4), .val (.int p5), .val (.int sp), .val (.long a), .second, .val (.int d), .val (.long b), .second, .val (.int tf), .val (.ref b115), .unset, .unset, .unset, .unset, .unset, .unset, .unset, .unset, .unset] []))
      refine own_go (fun _ kt => XS.aload X117.here hx rfl (hb hby at_79) rfl rfl kt) ?_
      show own_G p.tables e below _ (T117.setTop (mkF m 81 #[.val (.int p0), .val (.long p1), .second, .val (.int p2), .val (.int p3), .val (.int p4), .val (.int p5), .val (.int sp), .val (.long a), .second, .val (.int d), .val (.long b), .second, .val (.int tf), .val (.ref b115), .unset, .unset, .unset, .unset, .unset, .unset, .unset, .unset, .unset] [(.ref b115)]))
      refine own_go (fun _ kt => XS.lload X117.here hx rfl (hb hby at_81) rfl kt) ?_
      show own_G p.tables e below _ (T117.setTop (mkF m 83 #[.val (.int p0), .val (.long p1), .second, .val (.int p2), .val (.int p3), .val (.int p4), .val (.int p5), .val (.int sp), .val (.long a), .second, .val (.int d), .val (.long b), .second, .val (.int tf), .val (.ref b115), .unset, .unset, .unset, .unset, .unset, .unset, .unset, .unset, .unset] [(.long b), (.ref b115)]))
      refine own_go (fun _ kt => XS.iload X117.here hx rfl (hb hby at_83) rfl kt) ?_
      by_cases hd0 : (0 : Int32) = d
      · subst hd0
        have hab : a = b := by apply Int64.toInt_inj.mp; have z : (0 : Int32).toInt = 0 := rfl; omega
        subst hab
        show own_G p.tables e below _ (T117.setTop (mkF m 85 #[.val (.int p0), .val (.long p1), .second, .val (.int p2), .val (.int p3), .val (.int p4), .val (.int p5), .val (.int sp), .val (.long a), .second, .val (.int (0 : Int32)), .val (.long a), .second, .val (.int tf), .val (.ref b115), .unset, .unset, .unset, .unset, .unset, .unset, .unset, .unset, .unset] [(.int p4), (.long a), (.ref b115)]))
        obtain ⟨cq118, kq118, q118a, q118b, q118c⟩ := isOf hZ rfl R1.1
        obtain ⟨_, _, ⟨T118, L118, k118, n118⟩, -, X118, ⟨Lc118, hQ118, l118, y118, z118⟩, st118⟩ := X117.virtualBack hx (y := (⟨"com/example/brisk_match/briskmatch/search/StartRing", "put", "(JI)V"⟩ : MethodName)) (z := (⟨"com/example/brisk_match/briskmatch/search/StartRing", "put", "(JI)V"⟩ : MethodName)) hown (mvT hZ (hw _ (List.mem_of_getElem? (i := 30) rfl))) (mvT hZ (hw _ (List.mem_of_getElem? (i := 31) rfl))) (notFace_of_selects (args := #[]) (mvT hZ (hw _ (List.mem_of_getElem? (i := 33) rfl)))) (mvT hZ (hw _ (List.mem_of_getElem? (i := 33) rfl))) (mvT hZ (hw _ (List.mem_of_getElem? (i := 32) rfl))) (by decide) (backOf (W := 0) (rm_putO l Z a0 hw [] b115 a p4 wp wu S _ _ u1 _ sa T117.heap n0 Zq117 R1 ok U1 hsa (by simp)) hZ (hw _ (List.mem_of_getElem? (i := 34) rfl)) (hw _ (List.mem_of_getElem? (i := 4) rfl)) (by decide) (by decide)) q118a q118c (g := (mkF m 85 #[.val (.int p0), .val (.long p1), .second, .val (.int p2), .val (.int p3), .val (.int p4), .val (.int p5), .val (.int sp), .val (.long a), .second, .val (.int (0 : Int32)), .val (.long a), .second, .val (.int tf), .val (.ref b115), .unset, .unset, .unset, .unset, .unset, .unset, .unset, .unset, .unset] [(.int p4), (.long a), (.ref b115)])) rfl (by rw [hml]; rfl) (Steps.refl _) (argsL := [(.long a), (.int p4)]) (rest := []) (lenOf pd__JI_V rfl) rfl (by show 2 * 0 + _ ≤ _; exact Nat.le_of_eq rfl) (hb hby at_85) (fun _ _ => ⟨rfl, rfl, (Nat.le_of_ble_eq_true rfl), (Nat.le_of_ble_eq_true rfl)⟩)
        dsimp only [Pt.U, Pt.locs, Pt.cells, Pt.slots] at X118 l118 y118 z118 st118 hQ118
        subst l118 y118 z118
        obtain ⟨rfl, Nq118, Zq118, R2⟩ := hQ118
        have N118 := Fr.app N117 Nq118
        refine own_tr st118 ?_
        rcases htf with rfl | rfl
        · show own_G p.tables e below _ (T118.setTop (mkF m 88 #[.val (.int p0), .val (.long p1), .second, .val (.int p2), .val (.int p3), .val (.int p4), .val (.int p5), .val (.int sp), .val (.long a), .second, .val (.int (0 : Int32)), .val (.long a), .second, .val (.int (0 : Int32)), .val (.ref b115), .unset, .unset, .unset, .unset, .unset, .unset, .unset, .unset, .unset] []))
          refine own_go (fun _ kt => XS.iload X118.here hx rfl (hb hby at_88) rfl kt) ?_
          show own_G p.tables e below _ (T118.setTop (mkF m 90 #[.val (.int p0), .val (.long p1), .second, .val (.int p2), .val (.int p3), .val (.int p4), .val (.int p5), .val (.int sp), .val (.long a), .second, .val (.int (0 : Int32)), .val (.long a), .second, .val (.int (0 : Int32)), .val (.ref b115), .unset, .unset, .unset, .unset, .unset, .unset, .unset, .unset, .unset] [(.int (0 : Int32))]))
          refine own_go (fun _ kt => XS.ifYes X118.here hx rfl (pc0 := 90) (pc' := 98) rfl (hb hby at_90) rfl ((if0 _ _).trans (teq (rfl : (0 : Int32) = (0 : Int32))).1) (by decide) (by decide) kt) ?_
          show own_G p.tables e below _ (T118.setTop (mkF m 98 #[.val (.int p0), .val (.long p1), .second, .val (.int p2), .val (.int p3), .val (.int p4), .val (.int p5), .val (.int sp), .val (.long a), .second, .val (.int (0 : Int32)), .val (.long a), .second, .val (.int (0 : Int32)), .val (.ref b115), .unset, .unset, .unset, .unset, .unset, .unset, .unset, .unset, .unset] []))
          refine own_go (fun _ kt => XS.lload X118.here hx rfl (hb hby at_98) rfl kt) ?_
          show own_G p.tables e below _ (T118.setTop (mkF m 100 #[.val (.int p0), .val (.long p1), .second, .val (.int p2), .val (.int p3), .val (.int p4), .val (.int p5), .val (.int sp), .val (.long a), .second, .val (.int (0 : Int32)), .val (.long a), .second, .val (.int (0 : Int32)), .val (.ref b115), .unset, .unset, .unset, .unset, .unset, .unset, .unset, .unset, .unset] [(.long a)]))
          refine own_go (fun _ kt => XS.lstore X118.here hx rfl (hb hby at_100) rfl (l' := #[.val (.int p0), .val (.long p1), .second, .val (.int p2), .val (.int p3), .val (.int p4), .val (.int p5), .val (.int sp), .val (.long a), .second, .val (.int (0 : Int32)), .val (.long a), .second, .val (.int (0 : Int32)), .val (.ref b115), .val (.long a), .second, .unset, .unset, .unset, .unset, .unset, .unset, .unset]) rfl kt) ?_
          show own_G p.tables e below _ (T118.setTop (mkF m 102 #[.val (.int p0), .val (.long p1), .second, .val (.int p2), .val (.int p3), .val (.int p4), .val (.int p5), .val (.int sp), .val (.long a), .second, .val (.int (0 : Int32)), .val (.long a), .second, .val (.int (0 : Int32)), .val (.ref b115), .val (.long a), .second, .unset, .unset, .unset, .unset, .unset, .unset, .unset] []))
          refine own_go (fun _ kt => XS.iload X118.here hx rfl (hb hby at_102) rfl kt) ?_
          show own_G p.tables e below _ (T118.setTop (mkF m 104 #[.val (.int p0), .val (.long p1), .second, .val (.int p2), .val (.int p3), .val (.int p4), .val (.int p5), .val (.int sp), .val (.long a), .second, .val (.int (0 : Int32)), .val (.long a), .second, .val (.int (0 : Int32)), .val (.ref b115), .val (.long a), .second, .unset, .unset, .unset, .unset, .unset, .unset, .unset] [(.int (0 : Int32))]))
          refine own_go (fun _ kt => XS.ifYes X118.here hx rfl (pc0 := 104) (pc' := 112) rfl (hb hby at_104) rfl ((if0 _ _).trans (teq (rfl : (0 : Int32) = (0 : Int32))).1) (by decide) (by decide) kt) ?_
          show own_G p.tables e below _ (T118.setTop (mkF m 112 #[.val (.int p0), .val (.long p1), .second, .val (.int p2), .val (.int p3), .val (.int p4), .val (.int p5), .val (.int sp), .val (.long a), .second, .val (.int (0 : Int32)), .val (.long a), .second, .val (.int (0 : Int32)), .val (.ref b115), .val (.long a), .second, .unset, .unset, .unset, .unset, .unset, .unset, .unset] []))
          refine own_go (fun _ kt => XS.lload X118.here hx rfl (hb hby at_112) rfl kt) ?_
          show own_G p.tables e below _ (T118.setTop (mkF m 114 #[.val (.int p0), .val (.long p1), .second, .val (.int p2), .val (.int p3), .val (.int p4), .val (.int p5), .val (.int sp), .val (.long a), .second, .val (.int (0 : Int32)), .val (.long a), .second, .val (.int (0 : Int32)), .val (.ref b115), .val (.long a), .second, .unset, .unset, .unset, .unset, .unset, .unset, .unset] [(.long a)]))
          refine own_go (fun _ kt => XS.lstore X118.here hx rfl (hb hby at_114) rfl (l' := #[.val (.int p0), .val (.long p1), .second, .val (.int p2), .val (.int p3), .val (.int p4), .val (.int p5), .val (.int sp), .val (.long a), .second, .val (.int (0 : Int32)), .val (.long a), .second, .val (.int (0 : Int32)), .val (.ref b115), .val (.long a), .second, .val (.long a), .second, .unset, .unset, .unset, .unset, .unset]) rfl kt) ?_
          show own_G p.tables e below _ (T118.setTop (mkF m 116 #[.val (.int p0), .val (.long p1), .second, .val (.int p2), .val (.int p3), .val (.int p4), .val (.int p5), .val (.int sp), .val (.long a), .second, .val (.int (0 : Int32)), .val (.long a), .second, .val (.int (0 : Int32)), .val (.ref b115), .val (.long a), .second, .val (.long a), .second, .unset, .unset, .unset, .unset, .unset] []))
          refine own_go (fun _ kt => XS.aload X118.here hx rfl (hb hby at_116) rfl rfl kt) ?_
          show own_G p.tables e below _ (T118.setTop (mkF m 118 #[.val (.int p0), .val (.long p1), .second, .val (.int p2), .val (.int p3), .val (.int p4), .val (.int p5), .val (.int sp), .val (.long a), .second, .val (.int (0 : Int32)), .val (.long a), .second, .val (.int (0 : Int32)), .val (.ref b115), .val (.long a), .second, .val (.long a), .second, .unset, .unset, .unset, .unset, .unset] [(.ref b115)]))
          refine own_go (fun _ kt => XS.lload X118.here hx rfl (hb hby at_118) rfl kt) ?_
          show own_G p.tables e below _ (T118.setTop (mkF m 120 #[.val (.int p0), .val (.long p1), .second, .val (.int p2), .val (.int p3), .val (.int p4), .val (.int p5), .val (.int sp), .val (.long a), .second, .val (.int (0 : Int32)), .val (.long a), .second, .val (.int (0 : Int32)), .val (.ref b115), .val (.long a), .second, .val (.long a), .second, .unset, .unset, .unset, .unset, .unset] [(.long a), (.ref b115)]))
          obtain ⟨cq119, kq119, q119a, q119b, q119c⟩ := isOf hZ rfl R2.1
          obtain ⟨_, _, ⟨T119, L119, k119, n119⟩, -, X119, ⟨Lc119, hQ119, l119, y119, z119⟩, st119⟩ := X118.virtualBack hx (y := (⟨"com/example/brisk_match/briskmatch/search/StartRing", "take", "(J)I"⟩ : MethodName)) (z := (⟨"com/example/brisk_match/briskmatch/search/StartRing", "take", "(J)I"⟩ : MethodName)) hown (mvT hZ (hw _ (List.mem_of_getElem? (i := 45) rfl))) (mvT hZ (hw _ (List.mem_of_getElem? (i := 46) rfl))) (notFace_of_selects (args := #[]) (mvT hZ (hw _ (List.mem_of_getElem? (i := 48) rfl)))) (mvT hZ (hw _ (List.mem_of_getElem? (i := 48) rfl))) (mvT hZ (hw _ (List.mem_of_getElem? (i := 47) rfl))) (by decide) (backOf (W := 0) (rm_take l Z a0 hw [] b115 a wp wu S _ _ u1 _ sa T118.heap n0 Zq118 R2 ok U1 hsa) hZ (hw _ (List.mem_of_getElem? (i := 49) rfl)) (hw _ (List.mem_of_getElem? (i := 4) rfl)) (by decide) (by decide)) q119a q119c (g := (mkF m 120 #[.val (.int p0), .val (.long p1), .second, .val (.int p2), .val (.int p3), .val (.int p4), .val (.int p5), .val (.int sp), .val (.long a), .second, .val (.int (0 : Int32)), .val (.long a), .second, .val (.int (0 : Int32)), .val (.ref b115), .val (.long a), .second, .val (.long a), .second, .unset, .unset, .unset, .unset, .unset] [(.long a), (.ref b115)])) rfl (by rw [hml]; rfl) (Steps.refl _) (argsL := [(.long a)]) (rest := []) (lenOf pd__J_I rfl) rfl (by show 2 * 0 + _ ≤ _; exact Nat.le_of_eq rfl) (hb hby at_120) (fun _ _ => ⟨rfl, rfl, (Nat.le_of_ble_eq_true rfl), (Nat.le_of_ble_eq_true rfl)⟩)
          dsimp only [Pt.U, Pt.locs, Pt.cells, Pt.slots] at X119 l119 y119 z119 st119 hQ119
          subst l119 y119 z119
          obtain ⟨rfl, Nq119, Zq119, u3, R3, U3⟩ := hQ119
          have N119 := Fr.app N118 Nq119
          refine own_tr st119 ?_
          show own_G p.tables e below _ (T119.setTop (mkF m 123 #[.val (.int p0), .val (.long p1), .second, .val (.int p2), .val (.int p3), .val (.int p4), .val (.int p5), .val (.int sp), .val (.long a), .second, .val (.int (0 : Int32)), .val (.long a), .second, .val (.int (0 : Int32)), .val (.ref b115), .val (.long a), .second, .val (.long a), .second, .unset, .unset, .unset, .unset, .unset] [(.int ((own_updI (own_updI (fun _ => 0) sa p3) sa p4) sa))]))
          rw [own_updI_same]
          rw [show ((0 : Int32) + 1 - 1) = 0 from by decide] at R3
          show own_G p.tables e below _ (T119.setTop (mkF m 123 #[.val (.int p0), .val (.long p1), .second, .val (.int p2), .val (.int p3), .val (.int p4), .val (.int p5), .val (.int sp), .val (.long a), .second, .val (.int (0 : Int32)), .val (.long a), .second, .val (.int (0 : Int32)), .val (.ref b115), .val (.long a), .second, .val (.long a), .second, .unset, .unset, .unset, .unset, .unset] [(.int p4)]))
          refine own_go (fun _ kt => XS.istore X119.here hx rfl (hb hby at_123) rfl (l' := #[.val (.int p0), .val (.long p1), .second, .val (.int p2), .val (.int p3), .val (.int p4), .val (.int p5), .val (.int sp), .val (.long a), .second, .val (.int (0 : Int32)), .val (.long a), .second, .val (.int (0 : Int32)), .val (.ref b115), .val (.long a), .second, .val (.long a), .second, .val (.int p4), .unset, .unset, .unset, .unset]) rfl kt) ?_
          show own_G p.tables e below _ (T119.setTop (mkF m 125 #[.val (.int p0), .val (.long p1), .second, .val (.int p2), .val (.int p3), .val (.int p4), .val (.int p5), .val (.int sp), .val (.long a), .second, .val (.int (0 : Int32)), .val (.long a), .second, .val (.int (0 : Int32)), .val (.ref b115), .val (.long a), .second, .val (.long a), .second, .val (.int p4), .unset, .unset, .unset, .unset] []))
          refine own_go (fun _ kt => XS.iload X119.here hx rfl (hb hby at_125) rfl kt) ?_
          show own_G p.tables e below _ (T119.setTop (mkF m 127 #[.val (.int p0), .val (.long p1), .second, .val (.int p2), .val (.int p3), .val (.int p4), .val (.int p5), .val (.int sp), .val (.long a), .second, .val (.int (0 : Int32)), .val (.long a), .second, .val (.int (0 : Int32)), .val (.ref b115), .val (.long a), .second, .val (.long a), .second, .val (.int p4), .unset, .unset, .unset, .unset] [(.int (0 : Int32))]))
          refine own_go (fun _ kt => XS.ifNo X119.here hx rfl (hb hby at_127) rfl ((if0 _ _).trans (teq (rfl : (0 : Int32) = (0 : Int32))).2) kt) ?_
          show own_G p.tables e below _ (T119.setTop (mkF m 130 #[.val (.int p0), .val (.long p1), .second, .val (.int p2), .val (.int p3), .val (.int p4), .val (.int p5), .val (.int sp), .val (.long a), .second, .val (.int (0 : Int32)), .val (.long a), .second, .val (.int (0 : Int32)), .val (.ref b115), .val (.long a), .second, .val (.long a), .second, .val (.int p4), .unset, .unset, .unset, .unset] []))
          refine own_go (fun _ kt => XS.iload X119.here hx rfl (hb hby at_130) rfl kt) ?_
          show own_G p.tables e below _ (T119.setTop (mkF m 132 #[.val (.int p0), .val (.long p1), .second, .val (.int p2), .val (.int p3), .val (.int p4), .val (.int p5), .val (.int sp), .val (.long a), .second, .val (.int (0 : Int32)), .val (.long a), .second, .val (.int (0 : Int32)), .val (.ref b115), .val (.long a), .second, .val (.long a), .second, .val (.int p4), .unset, .unset, .unset, .unset] [(.int p4)]))
          refine own_go (fun _ kt => XS.iload X119.here hx rfl (hb hby at_132) rfl kt) ?_
          show own_G p.tables e below _ (T119.setTop (mkF m 134 #[.val (.int p0), .val (.long p1), .second, .val (.int p2), .val (.int p3), .val (.int p4), .val (.int p5), .val (.int sp), .val (.long a), .second, .val (.int (0 : Int32)), .val (.long a), .second, .val (.int (0 : Int32)), .val (.ref b115), .val (.long a), .second, .val (.long a), .second, .val (.int p4), .unset, .unset, .unset, .unset] [(.int p4), (.int p4)]))
          refine own_go (fun _ kt => XS.icmpNo X119.here hx rfl (hb hby at_134) rfl (teq (rfl : p4 = p4)).2 kt) ?_
          show own_G p.tables e below _ (T119.setTop (mkF m 137 #[.val (.int p0), .val (.long p1), .second, .val (.int p2), .val (.int p3), .val (.int p4), .val (.int p5), .val (.int sp), .val (.long a), .second, .val (.int (0 : Int32)), .val (.long a), .second, .val (.int (0 : Int32)), .val (.ref b115), .val (.long a), .second, .val (.long a), .second, .val (.int p4), .unset, .unset, .unset, .unset] []))
          refine own_go (fun _ kt => XS.aload X119.here hx rfl (hb hby at_137) rfl rfl kt) ?_
          show own_G p.tables e below _ (T119.setTop (mkF m 139 #[.val (.int p0), .val (.long p1), .second, .val (.int p2), .val (.int p3), .val (.int p4), .val (.int p5), .val (.int sp), .val (.long a), .second, .val (.int (0 : Int32)), .val (.long a), .second, .val (.int (0 : Int32)), .val (.ref b115), .val (.long a), .second, .val (.long a), .second, .val (.int p4), .unset, .unset, .unset, .unset] [(.ref b115)]))
          obtain ⟨cq120, kq120, q120a, q120b, q120c⟩ := isOf hZ rfl R3.1
          obtain ⟨_, _, ⟨T120, L120, k120, n120⟩, -, X120, ⟨Lc120, hQ120, l120, y120, z120⟩, st120⟩ := X119.virtualBack hx (y := (⟨"com/example/brisk_match/briskmatch/search/StartRing", "isEmpty", "()Z"⟩ : MethodName)) (z := (⟨"com/example/brisk_match/briskmatch/search/StartRing", "isEmpty", "()Z"⟩ : MethodName)) hown (mvT hZ (hw _ (List.mem_of_getElem? (i := 51) rfl))) (mvT hZ (hw _ (List.mem_of_getElem? (i := 52) rfl))) (notFace_of_selects (args := #[]) (mvT hZ (hw _ (List.mem_of_getElem? (i := 54) rfl)))) (mvT hZ (hw _ (List.mem_of_getElem? (i := 54) rfl))) (mvT hZ (hw _ (List.mem_of_getElem? (i := 53) rfl))) (by decide) (backOf (W := 0) (rm_isE l Z a0 hw [] b115 0 T119.heap n0 Zq119 R3.2.2.2.2.1) hZ (hw _ (List.mem_of_getElem? (i := 55) rfl)) (hw _ (List.mem_of_getElem? (i := 4) rfl)) (by decide) (by decide)) q120a q120c (g := (mkF m 139 #[.val (.int p0), .val (.long p1), .second, .val (.int p2), .val (.int p3), .val (.int p4), .val (.int p5), .val (.int sp), .val (.long a), .second, .val (.int (0 : Int32)), .val (.long a), .second, .val (.int (0 : Int32)), .val (.ref b115), .val (.long a), .second, .val (.long a), .second, .val (.int p4), .unset, .unset, .unset, .unset] [(.ref b115)])) rfl (by rw [hml]; rfl) (Steps.refl _) (argsL := []) (rest := []) (lenOf pd___Z rfl) rfl (by show 2 * 0 + _ ≤ _; exact Nat.le_of_eq rfl) (hb hby at_139) (fun _ _ => ⟨rfl, rfl, (Nat.le_of_ble_eq_true rfl), (Nat.le_of_ble_eq_true rfl)⟩)
          dsimp only [Pt.U, Pt.locs, Pt.cells, Pt.slots] at X120 l120 y120 z120 st120 hQ120
          subst l120 y120 z120
          obtain ⟨rfl, Nq120, eq120⟩ := hQ120
          have N120 := Fr.app N119 Nq120
          refine own_tr st120 ?_
          show own_G p.tables e below _ (T120.setTop (mkF m 142 #[.val (.int p0), .val (.long p1), .second, .val (.int p2), .val (.int p3), .val (.int p4), .val (.int p5), .val (.int sp), .val (.long a), .second, .val (.int (0 : Int32)), .val (.long a), .second, .val (.int (0 : Int32)), .val (.ref b115), .val (.long a), .second, .val (.long a), .second, .val (.int p4), .unset, .unset, .unset, .unset] [(.int (if (0 : Int32) = 0 then (1 : Int32) else 0))]))
          rw [if_pos rfl]
          show own_G p.tables e below _ (T120.setTop (mkF m 142 #[.val (.int p0), .val (.long p1), .second, .val (.int p2), .val (.int p3), .val (.int p4), .val (.int p5), .val (.int sp), .val (.long a), .second, .val (.int (0 : Int32)), .val (.long a), .second, .val (.int (0 : Int32)), .val (.ref b115), .val (.long a), .second, .val (.long a), .second, .val (.int p4), .unset, .unset, .unset, .unset] [(.int (1 : Int32))]))
          refine own_go (fun _ kt => XS.ifNo X120.here hx rfl (hb hby at_142) rfl ((if0 _ _).trans (feq (by decide : ¬ ((1 : Int32) = (0 : Int32)))).1) kt) ?_
          show own_G p.tables e below _ (T120.setTop (mkF m 145 #[.val (.int p0), .val (.long p1), .second, .val (.int p2), .val (.int p3), .val (.int p4), .val (.int p5), .val (.int sp), .val (.long a), .second, .val (.int (0 : Int32)), .val (.long a), .second, .val (.int (0 : Int32)), .val (.ref b115), .val (.long a), .second, .val (.long a), .second, .val (.int p4), .unset, .unset, .unset, .unset] []))
          refine own_go (fun _ kt => XS.aload X120.here hx rfl (hb hby at_145) rfl rfl kt) ?_
          show own_G p.tables e below _ (T120.setTop (mkF m 147 #[.val (.int p0), .val (.long p1), .second, .val (.int p2), .val (.int p3), .val (.int p4), .val (.int p5), .val (.int sp), .val (.long a), .second, .val (.int (0 : Int32)), .val (.long a), .second, .val (.int (0 : Int32)), .val (.ref b115), .val (.long a), .second, .val (.long a), .second, .val (.int p4), .unset, .unset, .unset, .unset] [(.ref b115)]))
          refine own_go (fun _ kt => XS.lload X120.here hx rfl (hb hby at_147) rfl kt) ?_
          show own_G p.tables e below _ (T120.setTop (mkF m 149 #[.val (.int p0), .val (.long p1), .second, .val (.int p2), .val (.int p3), .val (.int p4), .val (.int p5), .val (.int sp), .val (.long a), .second, .val (.int (0 : Int32)), .val (.long a), .second, .val (.int (0 : Int32)), .val (.ref b115), .val (.long a), .second, .val (.long a), .second, .val (.int p4), .unset, .unset, .unset, .unset] [(.long a), (.ref b115)]))
          refine own_go (fun _ kt => XS.lload X120.here hx rfl (hb hby at_149) rfl kt) ?_
          show own_G p.tables e below _ (T120.setTop (mkF m 151 #[.val (.int p0), .val (.long p1), .second, .val (.int p2), .val (.int p3), .val (.int p4), .val (.int p5), .val (.int sp), .val (.long a), .second, .val (.int (0 : Int32)), .val (.long a), .second, .val (.int (0 : Int32)), .val (.ref b115), .val (.long a), .second, .val (.long a), .second, .val (.int p4), .unset, .unset, .unset, .unset] [(.long a), (.long a), (.ref b115)]))
          refine own_go (fun _ kt => XS.iload X120.here hx rfl (hb hby at_151) rfl kt) ?_
          show own_G p.tables e below _ (T120.setTop (mkF m 153 #[.val (.int p0), .val (.long p1), .second, .val (.int p2), .val (.int p3), .val (.int p4), .val (.int p5), .val (.int sp), .val (.long a), .second, .val (.int (0 : Int32)), .val (.long a), .second, .val (.int (0 : Int32)), .val (.ref b115), .val (.long a), .second, .val (.long a), .second, .val (.int p4), .unset, .unset, .unset, .unset] [(.int sp), (.long a), (.long a), (.ref b115)]))
          refine own_go (fun _ kt => XS.i2l X120.here hx rfl (hb hby at_153) rfl kt) ?_
          show own_G p.tables e below _ (T120.setTop (mkF m 154 #[.val (.int p0), .val (.long p1), .second, .val (.int p2), .val (.int p3), .val (.int p4), .val (.int p5), .val (.int sp), .val (.long a), .second, .val (.int (0 : Int32)), .val (.long a), .second, .val (.int (0 : Int32)), .val (.ref b115), .val (.long a), .second, .val (.long a), .second, .val (.int p4), .unset, .unset, .unset, .unset] [(.long (sp.toInt64)), (.long a), (.long a), (.ref b115)]))
          refine own_go (fun _ kt => XS.ladd X120.here hx rfl (hb hby at_154) rfl kt) ?_
          show own_G p.tables e below _ (T120.setTop (mkF m 155 #[.val (.int p0), .val (.long p1), .second, .val (.int p2), .val (.int p3), .val (.int p4), .val (.int p5), .val (.int sp), .val (.long a), .second, .val (.int (0 : Int32)), .val (.long a), .second, .val (.int (0 : Int32)), .val (.ref b115), .val (.long a), .second, .val (.long a), .second, .val (.int p4), .unset, .unset, .unset, .unset] [(.long (a + (sp.toInt64))), (.long a), (.ref b115)]))
          obtain ⟨cq121, kq121, q121a, q121b, q121c⟩ := isOf hZ eq120 R3.1
          obtain ⟨_, _, ⟨T121, L121, k121, n121⟩, -, X121, ⟨Lc121, hQ121, l121, y121, z121⟩, st121⟩ := X120.virtualBack hx (y := (⟨"com/example/brisk_match/briskmatch/search/StartRing", "first", "(JJ)J"⟩ : MethodName)) (z := (⟨"com/example/brisk_match/briskmatch/search/StartRing", "first", "(JJ)J"⟩ : MethodName)) hown (mvT hZ (hw _ (List.mem_of_getElem? (i := 56) rfl))) (mvT hZ (hw _ (List.mem_of_getElem? (i := 57) rfl))) (notFace_of_selects (args := #[]) (mvT hZ (hw _ (List.mem_of_getElem? (i := 59) rfl)))) (mvT hZ (hw _ (List.mem_of_getElem? (i := 59) rfl))) (mvT hZ (hw _ (List.mem_of_getElem? (i := 58) rfl))) (by decide) (backOf (W := 0) (rm_first0 l Z a0 hw [] b115 a (a + (sp.toInt64))  T119.heap n0 Zq119 R3.2.2.2.2.1) hZ (hw _ (List.mem_of_getElem? (i := 60) rfl)) (hw _ (List.mem_of_getElem? (i := 4) rfl)) (by decide) (by decide)) q121a q121c (g := (mkF m 155 #[.val (.int p0), .val (.long p1), .second, .val (.int p2), .val (.int p3), .val (.int p4), .val (.int p5), .val (.int sp), .val (.long a), .second, .val (.int (0 : Int32)), .val (.long a), .second, .val (.int (0 : Int32)), .val (.ref b115), .val (.long a), .second, .val (.long a), .second, .val (.int p4), .unset, .unset, .unset, .unset] [(.long (a + (sp.toInt64))), (.long a), (.ref b115)])) rfl (by rw [hml]; rfl) (Steps.refl _) (argsL := [(.long a), (.long (a + (sp.toInt64)))]) (rest := []) (lenOf pd__JJ_J rfl) rfl (by show 2 * 0 + _ ≤ _; exact Nat.le_of_eq rfl) (hb hby at_155) (fun _ _ => ⟨rfl, eq120, (Nat.le_of_ble_eq_true rfl), (Nat.le_of_ble_eq_true rfl)⟩)
          dsimp only [Pt.U, Pt.locs, Pt.cells, Pt.slots] at X121 l121 y121 z121 st121 hQ121
          subst l121 y121 z121
          obtain ⟨rfl, Nq121, eq121⟩ := hQ121
          have N121 := Fr.app N120 Nq121
          refine own_tr st121 ?_
          show own_G p.tables e below _ (T121.setTop (mkF m 158 #[.val (.int p0), .val (.long p1), .second, .val (.int p2), .val (.int p3), .val (.int p4), .val (.int p5), .val (.int sp), .val (.long a), .second, .val (.int (0 : Int32)), .val (.long a), .second, .val (.int (0 : Int32)), .val (.ref b115), .val (.long a), .second, .val (.long a), .second, .val (.int p4), .unset, .unset, .unset, .unset] [(.long (-1 : Int64))]))
          refine own_go (X121.ldc2Long hx hown (mvT hZ (hw _ (List.mem_of_getElem? (i := 61) rfl))) (g := (mkF m 158 #[.val (.int p0), .val (.long p1), .second, .val (.int p2), .val (.int p3), .val (.int p4), .val (.int p5), .val (.int sp), .val (.long a), .second, .val (.int (0 : Int32)), .val (.long a), .second, .val (.int (0 : Int32)), .val (.ref b115), .val (.long a), .second, .val (.long a), .second, .val (.int p4), .unset, .unset, .unset, .unset] [(.long (-1 : Int64))])) rfl (hb hby at_158)) ?_
          show own_G p.tables e below _ (T121.setTop (mkF m 161 #[.val (.int p0), .val (.long p1), .second, .val (.int p2), .val (.int p3), .val (.int p4), .val (.int p5), .val (.int sp), .val (.long a), .second, .val (.int (0 : Int32)), .val (.long a), .second, .val (.int (0 : Int32)), .val (.ref b115), .val (.long a), .second, .val (.long a), .second, .val (.int p4), .unset, .unset, .unset, .unset] [(.long (-1 : Int64)), (.long (-1 : Int64))]))
          refine own_go (fun _ kt => XS.lcmp X121.here hx rfl (hb hby at_161) rfl kt) ?_
          show own_G p.tables e below _ (T121.setTop (mkF m 162 #[.val (.int p0), .val (.long p1), .second, .val (.int p2), .val (.int p3), .val (.int p4), .val (.int p5), .val (.int sp), .val (.long a), .second, .val (.int (0 : Int32)), .val (.long a), .second, .val (.int (0 : Int32)), .val (.ref b115), .val (.long a), .second, .val (.long a), .second, .val (.int p4), .unset, .unset, .unset, .unset] [(.int (lcmpW (-1 : Int64) (-1 : Int64)))]))
          refine own_go (fun _ kt => XS.ifNo X121.here hx rfl (hb hby at_162) rfl ((if0 _ _).trans (teq (own_lq.mpr rfl : (lcmpW (-1 : Int64) (-1 : Int64)) = (0 : Int32))).2) kt) ?_
          show own_G p.tables e below _ (T121.setTop (mkF m 165 #[.val (.int p0), .val (.long p1), .second, .val (.int p2), .val (.int p3), .val (.int p4), .val (.int p5), .val (.int sp), .val (.long a), .second, .val (.int (0 : Int32)), .val (.long a), .second, .val (.int (0 : Int32)), .val (.ref b115), .val (.long a), .second, .val (.long a), .second, .val (.int p4), .unset, .unset, .unset, .unset] []))
          refine own_go (fun _ kt => XS.iconst X121.here hx rfl (hb hby at_165) kt) ?_
          show own_G p.tables e below _ (T121.setTop (mkF m 166 #[.val (.int p0), .val (.long p1), .second, .val (.int p2), .val (.int p3), .val (.int p4), .val (.int p5), .val (.int sp), .val (.long a), .second, .val (.int (0 : Int32)), .val (.long a), .second, .val (.int (0 : Int32)), .val (.ref b115), .val (.long a), .second, .val (.long a), .second, .val (.int p4), .unset, .unset, .unset, .unset] [(.int (1 : Int32))]))
          refine own_go (fun _ kt => XS.goto X121.here hx rfl (pc0 := 166) (pc' := 170) rfl (hb hby at_166) (by decide) (by decide) kt) ?_
          show own_G p.tables e below _ (T121.setTop (mkF m 170 #[.val (.int p0), .val (.long p1), .second, .val (.int p2), .val (.int p3), .val (.int p4), .val (.int p5), .val (.int sp), .val (.long a), .second, .val (.int (0 : Int32)), .val (.long a), .second, .val (.int (0 : Int32)), .val (.ref b115), .val (.long a), .second, .val (.long a), .second, .val (.int p4), .unset, .unset, .unset, .unset] [(.int (1 : Int32))]))
          exact own_retN X121 hx (t := .boolean) Bd.returns (by simp) hlk (hb hby at_170) (Nat.le_of_ble_eq_true rfl) (Nat.le_of_ble_eq_true rfl) eq121 ⟨rfl, N121⟩
        · show own_G p.tables e below _ (T118.setTop (mkF m 88 #[.val (.int p0), .val (.long p1), .second, .val (.int p2), .val (.int p3), .val (.int p4), .val (.int p5), .val (.int sp), .val (.long a), .second, .val (.int (0 : Int32)), .val (.long a), .second, .val (.int (1 : Int32)), .val (.ref b115), .unset, .unset, .unset, .unset, .unset, .unset, .unset, .unset, .unset] []))
          refine own_go (fun _ kt => XS.iload X118.here hx rfl (hb hby at_88) rfl kt) ?_
          show own_G p.tables e below _ (T118.setTop (mkF m 90 #[.val (.int p0), .val (.long p1), .second, .val (.int p2), .val (.int p3), .val (.int p4), .val (.int p5), .val (.int sp), .val (.long a), .second, .val (.int (0 : Int32)), .val (.long a), .second, .val (.int (1 : Int32)), .val (.ref b115), .unset, .unset, .unset, .unset, .unset, .unset, .unset, .unset, .unset] [(.int (1 : Int32))]))
          refine own_go (fun _ kt => XS.ifNo X118.here hx rfl (hb hby at_90) rfl ((if0 _ _).trans (feq (by decide : ¬ ((1 : Int32) = (0 : Int32)))).1) kt) ?_
          show own_G p.tables e below _ (T118.setTop (mkF m 93 #[.val (.int p0), .val (.long p1), .second, .val (.int p2), .val (.int p3), .val (.int p4), .val (.int p5), .val (.int sp), .val (.long a), .second, .val (.int (0 : Int32)), .val (.long a), .second, .val (.int (1 : Int32)), .val (.ref b115), .unset, .unset, .unset, .unset, .unset, .unset, .unset, .unset, .unset] []))
          refine own_go (fun _ kt => XS.lload X118.here hx rfl (hb hby at_93) rfl kt) ?_
          show own_G p.tables e below _ (T118.setTop (mkF m 95 #[.val (.int p0), .val (.long p1), .second, .val (.int p2), .val (.int p3), .val (.int p4), .val (.int p5), .val (.int sp), .val (.long a), .second, .val (.int (0 : Int32)), .val (.long a), .second, .val (.int (1 : Int32)), .val (.ref b115), .unset, .unset, .unset, .unset, .unset, .unset, .unset, .unset, .unset] [(.long a)]))
          refine own_go (fun _ kt => XS.goto X118.here hx rfl (pc0 := 95) (pc' := 100) rfl (hb hby at_95) (by decide) (by decide) kt) ?_
          show own_G p.tables e below _ (T118.setTop (mkF m 100 #[.val (.int p0), .val (.long p1), .second, .val (.int p2), .val (.int p3), .val (.int p4), .val (.int p5), .val (.int sp), .val (.long a), .second, .val (.int (0 : Int32)), .val (.long a), .second, .val (.int (1 : Int32)), .val (.ref b115), .unset, .unset, .unset, .unset, .unset, .unset, .unset, .unset, .unset] [(.long a)]))
          refine own_go (fun _ kt => XS.lstore X118.here hx rfl (hb hby at_100) rfl (l' := #[.val (.int p0), .val (.long p1), .second, .val (.int p2), .val (.int p3), .val (.int p4), .val (.int p5), .val (.int sp), .val (.long a), .second, .val (.int (0 : Int32)), .val (.long a), .second, .val (.int (1 : Int32)), .val (.ref b115), .val (.long a), .second, .unset, .unset, .unset, .unset, .unset, .unset, .unset]) rfl kt) ?_
          show own_G p.tables e below _ (T118.setTop (mkF m 102 #[.val (.int p0), .val (.long p1), .second, .val (.int p2), .val (.int p3), .val (.int p4), .val (.int p5), .val (.int sp), .val (.long a), .second, .val (.int (0 : Int32)), .val (.long a), .second, .val (.int (1 : Int32)), .val (.ref b115), .val (.long a), .second, .unset, .unset, .unset, .unset, .unset, .unset, .unset] []))
          refine own_go (fun _ kt => XS.iload X118.here hx rfl (hb hby at_102) rfl kt) ?_
          show own_G p.tables e below _ (T118.setTop (mkF m 104 #[.val (.int p0), .val (.long p1), .second, .val (.int p2), .val (.int p3), .val (.int p4), .val (.int p5), .val (.int sp), .val (.long a), .second, .val (.int (0 : Int32)), .val (.long a), .second, .val (.int (1 : Int32)), .val (.ref b115), .val (.long a), .second, .unset, .unset, .unset, .unset, .unset, .unset, .unset] [(.int (1 : Int32))]))
          refine own_go (fun _ kt => XS.ifNo X118.here hx rfl (hb hby at_104) rfl ((if0 _ _).trans (feq (by decide : ¬ ((1 : Int32) = (0 : Int32)))).1) kt) ?_
          show own_G p.tables e below _ (T118.setTop (mkF m 107 #[.val (.int p0), .val (.long p1), .second, .val (.int p2), .val (.int p3), .val (.int p4), .val (.int p5), .val (.int sp), .val (.long a), .second, .val (.int (0 : Int32)), .val (.long a), .second, .val (.int (1 : Int32)), .val (.ref b115), .val (.long a), .second, .unset, .unset, .unset, .unset, .unset, .unset, .unset] []))
          refine own_go (fun _ kt => XS.lload X118.here hx rfl (hb hby at_107) rfl kt) ?_
          show own_G p.tables e below _ (T118.setTop (mkF m 109 #[.val (.int p0), .val (.long p1), .second, .val (.int p2), .val (.int p3), .val (.int p4), .val (.int p5), .val (.int sp), .val (.long a), .second, .val (.int (0 : Int32)), .val (.long a), .second, .val (.int (1 : Int32)), .val (.ref b115), .val (.long a), .second, .unset, .unset, .unset, .unset, .unset, .unset, .unset] [(.long a)]))
          refine own_go (fun _ kt => XS.goto X118.here hx rfl (pc0 := 109) (pc' := 114) rfl (hb hby at_109) (by decide) (by decide) kt) ?_
          show own_G p.tables e below _ (T118.setTop (mkF m 114 #[.val (.int p0), .val (.long p1), .second, .val (.int p2), .val (.int p3), .val (.int p4), .val (.int p5), .val (.int sp), .val (.long a), .second, .val (.int (0 : Int32)), .val (.long a), .second, .val (.int (1 : Int32)), .val (.ref b115), .val (.long a), .second, .unset, .unset, .unset, .unset, .unset, .unset, .unset] [(.long a)]))
          refine own_go (fun _ kt => XS.lstore X118.here hx rfl (hb hby at_114) rfl (l' := #[.val (.int p0), .val (.long p1), .second, .val (.int p2), .val (.int p3), .val (.int p4), .val (.int p5), .val (.int sp), .val (.long a), .second, .val (.int (0 : Int32)), .val (.long a), .second, .val (.int (1 : Int32)), .val (.ref b115), .val (.long a), .second, .val (.long a), .second, .unset, .unset, .unset, .unset, .unset]) rfl kt) ?_
          show own_G p.tables e below _ (T118.setTop (mkF m 116 #[.val (.int p0), .val (.long p1), .second, .val (.int p2), .val (.int p3), .val (.int p4), .val (.int p5), .val (.int sp), .val (.long a), .second, .val (.int (0 : Int32)), .val (.long a), .second, .val (.int (1 : Int32)), .val (.ref b115), .val (.long a), .second, .val (.long a), .second, .unset, .unset, .unset, .unset, .unset] []))
          refine own_go (fun _ kt => XS.aload X118.here hx rfl (hb hby at_116) rfl rfl kt) ?_
          show own_G p.tables e below _ (T118.setTop (mkF m 118 #[.val (.int p0), .val (.long p1), .second, .val (.int p2), .val (.int p3), .val (.int p4), .val (.int p5), .val (.int sp), .val (.long a), .second, .val (.int (0 : Int32)), .val (.long a), .second, .val (.int (1 : Int32)), .val (.ref b115), .val (.long a), .second, .val (.long a), .second, .unset, .unset, .unset, .unset, .unset] [(.ref b115)]))
          refine own_go (fun _ kt => XS.lload X118.here hx rfl (hb hby at_118) rfl kt) ?_
          show own_G p.tables e below _ (T118.setTop (mkF m 120 #[.val (.int p0), .val (.long p1), .second, .val (.int p2), .val (.int p3), .val (.int p4), .val (.int p5), .val (.int sp), .val (.long a), .second, .val (.int (0 : Int32)), .val (.long a), .second, .val (.int (1 : Int32)), .val (.ref b115), .val (.long a), .second, .val (.long a), .second, .unset, .unset, .unset, .unset, .unset] [(.long a), (.ref b115)]))
          obtain ⟨cq122, kq122, q122a, q122b, q122c⟩ := isOf hZ rfl R2.1
          obtain ⟨_, _, ⟨T122, L122, k122, n122⟩, -, X122, ⟨Lc122, hQ122, l122, y122, z122⟩, st122⟩ := X118.virtualBack hx (y := (⟨"com/example/brisk_match/briskmatch/search/StartRing", "take", "(J)I"⟩ : MethodName)) (z := (⟨"com/example/brisk_match/briskmatch/search/StartRing", "take", "(J)I"⟩ : MethodName)) hown (mvT hZ (hw _ (List.mem_of_getElem? (i := 45) rfl))) (mvT hZ (hw _ (List.mem_of_getElem? (i := 46) rfl))) (notFace_of_selects (args := #[]) (mvT hZ (hw _ (List.mem_of_getElem? (i := 48) rfl)))) (mvT hZ (hw _ (List.mem_of_getElem? (i := 48) rfl))) (mvT hZ (hw _ (List.mem_of_getElem? (i := 47) rfl))) (by decide) (backOf (W := 0) (rm_take l Z a0 hw [] b115 a wp wu S _ _ u1 _ sa T118.heap n0 Zq118 R2 ok U1 hsa) hZ (hw _ (List.mem_of_getElem? (i := 49) rfl)) (hw _ (List.mem_of_getElem? (i := 4) rfl)) (by decide) (by decide)) q122a q122c (g := (mkF m 120 #[.val (.int p0), .val (.long p1), .second, .val (.int p2), .val (.int p3), .val (.int p4), .val (.int p5), .val (.int sp), .val (.long a), .second, .val (.int (0 : Int32)), .val (.long a), .second, .val (.int (1 : Int32)), .val (.ref b115), .val (.long a), .second, .val (.long a), .second, .unset, .unset, .unset, .unset, .unset] [(.long a), (.ref b115)])) rfl (by rw [hml]; rfl) (Steps.refl _) (argsL := [(.long a)]) (rest := []) (lenOf pd__J_I rfl) rfl (by show 2 * 0 + _ ≤ _; exact Nat.le_of_eq rfl) (hb hby at_120) (fun _ _ => ⟨rfl, rfl, (Nat.le_of_ble_eq_true rfl), (Nat.le_of_ble_eq_true rfl)⟩)
          dsimp only [Pt.U, Pt.locs, Pt.cells, Pt.slots] at X122 l122 y122 z122 st122 hQ122
          subst l122 y122 z122
          obtain ⟨rfl, Nq122, Zq122, u3, R3, U3⟩ := hQ122
          have N122 := Fr.app N118 Nq122
          refine own_tr st122 ?_
          show own_G p.tables e below _ (T122.setTop (mkF m 123 #[.val (.int p0), .val (.long p1), .second, .val (.int p2), .val (.int p3), .val (.int p4), .val (.int p5), .val (.int sp), .val (.long a), .second, .val (.int (0 : Int32)), .val (.long a), .second, .val (.int (1 : Int32)), .val (.ref b115), .val (.long a), .second, .val (.long a), .second, .unset, .unset, .unset, .unset, .unset] [(.int ((own_updI (own_updI (fun _ => 0) sa p3) sa p4) sa))]))
          rw [own_updI_same]
          rw [show ((0 : Int32) + 1 - 1) = 0 from by decide] at R3
          show own_G p.tables e below _ (T122.setTop (mkF m 123 #[.val (.int p0), .val (.long p1), .second, .val (.int p2), .val (.int p3), .val (.int p4), .val (.int p5), .val (.int sp), .val (.long a), .second, .val (.int (0 : Int32)), .val (.long a), .second, .val (.int (1 : Int32)), .val (.ref b115), .val (.long a), .second, .val (.long a), .second, .unset, .unset, .unset, .unset, .unset] [(.int p4)]))
          refine own_go (fun _ kt => XS.istore X122.here hx rfl (hb hby at_123) rfl (l' := #[.val (.int p0), .val (.long p1), .second, .val (.int p2), .val (.int p3), .val (.int p4), .val (.int p5), .val (.int sp), .val (.long a), .second, .val (.int (0 : Int32)), .val (.long a), .second, .val (.int (1 : Int32)), .val (.ref b115), .val (.long a), .second, .val (.long a), .second, .val (.int p4), .unset, .unset, .unset, .unset]) rfl kt) ?_
          show own_G p.tables e below _ (T122.setTop (mkF m 125 #[.val (.int p0), .val (.long p1), .second, .val (.int p2), .val (.int p3), .val (.int p4), .val (.int p5), .val (.int sp), .val (.long a), .second, .val (.int (0 : Int32)), .val (.long a), .second, .val (.int (1 : Int32)), .val (.ref b115), .val (.long a), .second, .val (.long a), .second, .val (.int p4), .unset, .unset, .unset, .unset] []))
          refine own_go (fun _ kt => XS.iload X122.here hx rfl (hb hby at_125) rfl kt) ?_
          show own_G p.tables e below _ (T122.setTop (mkF m 127 #[.val (.int p0), .val (.long p1), .second, .val (.int p2), .val (.int p3), .val (.int p4), .val (.int p5), .val (.int sp), .val (.long a), .second, .val (.int (0 : Int32)), .val (.long a), .second, .val (.int (1 : Int32)), .val (.ref b115), .val (.long a), .second, .val (.long a), .second, .val (.int p4), .unset, .unset, .unset, .unset] [(.int (0 : Int32))]))
          refine own_go (fun _ kt => XS.ifNo X122.here hx rfl (hb hby at_127) rfl ((if0 _ _).trans (teq (rfl : (0 : Int32) = (0 : Int32))).2) kt) ?_
          show own_G p.tables e below _ (T122.setTop (mkF m 130 #[.val (.int p0), .val (.long p1), .second, .val (.int p2), .val (.int p3), .val (.int p4), .val (.int p5), .val (.int sp), .val (.long a), .second, .val (.int (0 : Int32)), .val (.long a), .second, .val (.int (1 : Int32)), .val (.ref b115), .val (.long a), .second, .val (.long a), .second, .val (.int p4), .unset, .unset, .unset, .unset] []))
          refine own_go (fun _ kt => XS.iload X122.here hx rfl (hb hby at_130) rfl kt) ?_
          show own_G p.tables e below _ (T122.setTop (mkF m 132 #[.val (.int p0), .val (.long p1), .second, .val (.int p2), .val (.int p3), .val (.int p4), .val (.int p5), .val (.int sp), .val (.long a), .second, .val (.int (0 : Int32)), .val (.long a), .second, .val (.int (1 : Int32)), .val (.ref b115), .val (.long a), .second, .val (.long a), .second, .val (.int p4), .unset, .unset, .unset, .unset] [(.int p4)]))
          refine own_go (fun _ kt => XS.iload X122.here hx rfl (hb hby at_132) rfl kt) ?_
          show own_G p.tables e below _ (T122.setTop (mkF m 134 #[.val (.int p0), .val (.long p1), .second, .val (.int p2), .val (.int p3), .val (.int p4), .val (.int p5), .val (.int sp), .val (.long a), .second, .val (.int (0 : Int32)), .val (.long a), .second, .val (.int (1 : Int32)), .val (.ref b115), .val (.long a), .second, .val (.long a), .second, .val (.int p4), .unset, .unset, .unset, .unset] [(.int p4), (.int p4)]))
          refine own_go (fun _ kt => XS.icmpNo X122.here hx rfl (hb hby at_134) rfl (teq (rfl : p4 = p4)).2 kt) ?_
          show own_G p.tables e below _ (T122.setTop (mkF m 137 #[.val (.int p0), .val (.long p1), .second, .val (.int p2), .val (.int p3), .val (.int p4), .val (.int p5), .val (.int sp), .val (.long a), .second, .val (.int (0 : Int32)), .val (.long a), .second, .val (.int (1 : Int32)), .val (.ref b115), .val (.long a), .second, .val (.long a), .second, .val (.int p4), .unset, .unset, .unset, .unset] []))
          refine own_go (fun _ kt => XS.aload X122.here hx rfl (hb hby at_137) rfl rfl kt) ?_
          show own_G p.tables e below _ (T122.setTop (mkF m 139 #[.val (.int p0), .val (.long p1), .second, .val (.int p2), .val (.int p3), .val (.int p4), .val (.int p5), .val (.int sp), .val (.long a), .second, .val (.int (0 : Int32)), .val (.long a), .second, .val (.int (1 : Int32)), .val (.ref b115), .val (.long a), .second, .val (.long a), .second, .val (.int p4), .unset, .unset, .unset, .unset] [(.ref b115)]))
          obtain ⟨cq123, kq123, q123a, q123b, q123c⟩ := isOf hZ rfl R3.1
          obtain ⟨_, _, ⟨T123, L123, k123, n123⟩, -, X123, ⟨Lc123, hQ123, l123, y123, z123⟩, st123⟩ := X122.virtualBack hx (y := (⟨"com/example/brisk_match/briskmatch/search/StartRing", "isEmpty", "()Z"⟩ : MethodName)) (z := (⟨"com/example/brisk_match/briskmatch/search/StartRing", "isEmpty", "()Z"⟩ : MethodName)) hown (mvT hZ (hw _ (List.mem_of_getElem? (i := 51) rfl))) (mvT hZ (hw _ (List.mem_of_getElem? (i := 52) rfl))) (notFace_of_selects (args := #[]) (mvT hZ (hw _ (List.mem_of_getElem? (i := 54) rfl)))) (mvT hZ (hw _ (List.mem_of_getElem? (i := 54) rfl))) (mvT hZ (hw _ (List.mem_of_getElem? (i := 53) rfl))) (by decide) (backOf (W := 0) (rm_isE l Z a0 hw [] b115 0 T122.heap n0 Zq122 R3.2.2.2.2.1) hZ (hw _ (List.mem_of_getElem? (i := 55) rfl)) (hw _ (List.mem_of_getElem? (i := 4) rfl)) (by decide) (by decide)) q123a q123c (g := (mkF m 139 #[.val (.int p0), .val (.long p1), .second, .val (.int p2), .val (.int p3), .val (.int p4), .val (.int p5), .val (.int sp), .val (.long a), .second, .val (.int (0 : Int32)), .val (.long a), .second, .val (.int (1 : Int32)), .val (.ref b115), .val (.long a), .second, .val (.long a), .second, .val (.int p4), .unset, .unset, .unset, .unset] [(.ref b115)])) rfl (by rw [hml]; rfl) (Steps.refl _) (argsL := []) (rest := []) (lenOf pd___Z rfl) rfl (by show 2 * 0 + _ ≤ _; exact Nat.le_of_eq rfl) (hb hby at_139) (fun _ _ => ⟨rfl, rfl, (Nat.le_of_ble_eq_true rfl), (Nat.le_of_ble_eq_true rfl)⟩)
          dsimp only [Pt.U, Pt.locs, Pt.cells, Pt.slots] at X123 l123 y123 z123 st123 hQ123
          subst l123 y123 z123
          obtain ⟨rfl, Nq123, eq123⟩ := hQ123
          have N123 := Fr.app N122 Nq123
          refine own_tr st123 ?_
          show own_G p.tables e below _ (T123.setTop (mkF m 142 #[.val (.int p0), .val (.long p1), .second, .val (.int p2), .val (.int p3), .val (.int p4), .val (.int p5), .val (.int sp), .val (.long a), .second, .val (.int (0 : Int32)), .val (.long a), .second, .val (.int (1 : Int32)), .val (.ref b115), .val (.long a), .second, .val (.long a), .second, .val (.int p4), .unset, .unset, .unset, .unset] [(.int (if (0 : Int32) = 0 then (1 : Int32) else 0))]))
          rw [if_pos rfl]
          show own_G p.tables e below _ (T123.setTop (mkF m 142 #[.val (.int p0), .val (.long p1), .second, .val (.int p2), .val (.int p3), .val (.int p4), .val (.int p5), .val (.int sp), .val (.long a), .second, .val (.int (0 : Int32)), .val (.long a), .second, .val (.int (1 : Int32)), .val (.ref b115), .val (.long a), .second, .val (.long a), .second, .val (.int p4), .unset, .unset, .unset, .unset] [(.int (1 : Int32))]))
          refine own_go (fun _ kt => XS.ifNo X123.here hx rfl (hb hby at_142) rfl ((if0 _ _).trans (feq (by decide : ¬ ((1 : Int32) = (0 : Int32)))).1) kt) ?_
          show own_G p.tables e below _ (T123.setTop (mkF m 145 #[.val (.int p0), .val (.long p1), .second, .val (.int p2), .val (.int p3), .val (.int p4), .val (.int p5), .val (.int sp), .val (.long a), .second, .val (.int (0 : Int32)), .val (.long a), .second, .val (.int (1 : Int32)), .val (.ref b115), .val (.long a), .second, .val (.long a), .second, .val (.int p4), .unset, .unset, .unset, .unset] []))
          refine own_go (fun _ kt => XS.aload X123.here hx rfl (hb hby at_145) rfl rfl kt) ?_
          show own_G p.tables e below _ (T123.setTop (mkF m 147 #[.val (.int p0), .val (.long p1), .second, .val (.int p2), .val (.int p3), .val (.int p4), .val (.int p5), .val (.int sp), .val (.long a), .second, .val (.int (0 : Int32)), .val (.long a), .second, .val (.int (1 : Int32)), .val (.ref b115), .val (.long a), .second, .val (.long a), .second, .val (.int p4), .unset, .unset, .unset, .unset] [(.ref b115)]))
          refine own_go (fun _ kt => XS.lload X123.here hx rfl (hb hby at_147) rfl kt) ?_
          show own_G p.tables e below _ (T123.setTop (mkF m 149 #[.val (.int p0), .val (.long p1), .second, .val (.int p2), .val (.int p3), .val (.int p4), .val (.int p5), .val (.int sp), .val (.long a), .second, .val (.int (0 : Int32)), .val (.long a), .second, .val (.int (1 : Int32)), .val (.ref b115), .val (.long a), .second, .val (.long a), .second, .val (.int p4), .unset, .unset, .unset, .unset] [(.long a), (.ref b115)]))
          refine own_go (fun _ kt => XS.lload X123.here hx rfl (hb hby at_149) rfl kt) ?_
          show own_G p.tables e below _ (T123.setTop (mkF m 151 #[.val (.int p0), .val (.long p1), .second, .val (.int p2), .val (.int p3), .val (.int p4), .val (.int p5), .val (.int sp), .val (.long a), .second, .val (.int (0 : Int32)), .val (.long a), .second, .val (.int (1 : Int32)), .val (.ref b115), .val (.long a), .second, .val (.long a), .second, .val (.int p4), .unset, .unset, .unset, .unset] [(.long a), (.long a), (.ref b115)]))
          refine own_go (fun _ kt => XS.iload X123.here hx rfl (hb hby at_151) rfl kt) ?_
          show own_G p.tables e below _ (T123.setTop (mkF m 153 #[.val (.int p0), .val (.long p1), .second, .val (.int p2), .val (.int p3), .val (.int p4), .val (.int p5), .val (.int sp), .val (.long a), .second, .val (.int (0 : Int32)), .val (.long a), .second, .val (.int (1 : Int32)), .val (.ref b115), .val (.long a), .second, .val (.long a), .second, .val (.int p4), .unset, .unset, .unset, .unset] [(.int sp), (.long a), (.long a), (.ref b115)]))
          refine own_go (fun _ kt => XS.i2l X123.here hx rfl (hb hby at_153) rfl kt) ?_
          show own_G p.tables e below _ (T123.setTop (mkF m 154 #[.val (.int p0), .val (.long p1), .second, .val (.int p2), .val (.int p3), .val (.int p4), .val (.int p5), .val (.int sp), .val (.long a), .second, .val (.int (0 : Int32)), .val (.long a), .second, .val (.int (1 : Int32)), .val (.ref b115), .val (.long a), .second, .val (.long a), .second, .val (.int p4), .unset, .unset, .unset, .unset] [(.long (sp.toInt64)), (.long a), (.long a), (.ref b115)]))
          refine own_go (fun _ kt => XS.ladd X123.here hx rfl (hb hby at_154) rfl kt) ?_
          show own_G p.tables e below _ (T123.setTop (mkF m 155 #[.val (.int p0), .val (.long p1), .second, .val (.int p2), .val (.int p3), .val (.int p4), .val (.int p5), .val (.int sp), .val (.long a), .second, .val (.int (0 : Int32)), .val (.long a), .second, .val (.int (1 : Int32)), .val (.ref b115), .val (.long a), .second, .val (.long a), .second, .val (.int p4), .unset, .unset, .unset, .unset] [(.long (a + (sp.toInt64))), (.long a), (.ref b115)]))
          obtain ⟨cq124, kq124, q124a, q124b, q124c⟩ := isOf hZ eq123 R3.1
          obtain ⟨_, _, ⟨T124, L124, k124, n124⟩, -, X124, ⟨Lc124, hQ124, l124, y124, z124⟩, st124⟩ := X123.virtualBack hx (y := (⟨"com/example/brisk_match/briskmatch/search/StartRing", "first", "(JJ)J"⟩ : MethodName)) (z := (⟨"com/example/brisk_match/briskmatch/search/StartRing", "first", "(JJ)J"⟩ : MethodName)) hown (mvT hZ (hw _ (List.mem_of_getElem? (i := 56) rfl))) (mvT hZ (hw _ (List.mem_of_getElem? (i := 57) rfl))) (notFace_of_selects (args := #[]) (mvT hZ (hw _ (List.mem_of_getElem? (i := 59) rfl)))) (mvT hZ (hw _ (List.mem_of_getElem? (i := 59) rfl))) (mvT hZ (hw _ (List.mem_of_getElem? (i := 58) rfl))) (by decide) (backOf (W := 0) (rm_first0 l Z a0 hw [] b115 a (a + (sp.toInt64))  T122.heap n0 Zq122 R3.2.2.2.2.1) hZ (hw _ (List.mem_of_getElem? (i := 60) rfl)) (hw _ (List.mem_of_getElem? (i := 4) rfl)) (by decide) (by decide)) q124a q124c (g := (mkF m 155 #[.val (.int p0), .val (.long p1), .second, .val (.int p2), .val (.int p3), .val (.int p4), .val (.int p5), .val (.int sp), .val (.long a), .second, .val (.int (0 : Int32)), .val (.long a), .second, .val (.int (1 : Int32)), .val (.ref b115), .val (.long a), .second, .val (.long a), .second, .val (.int p4), .unset, .unset, .unset, .unset] [(.long (a + (sp.toInt64))), (.long a), (.ref b115)])) rfl (by rw [hml]; rfl) (Steps.refl _) (argsL := [(.long a), (.long (a + (sp.toInt64)))]) (rest := []) (lenOf pd__JJ_J rfl) rfl (by show 2 * 0 + _ ≤ _; exact Nat.le_of_eq rfl) (hb hby at_155) (fun _ _ => ⟨rfl, eq123, (Nat.le_of_ble_eq_true rfl), (Nat.le_of_ble_eq_true rfl)⟩)
          dsimp only [Pt.U, Pt.locs, Pt.cells, Pt.slots] at X124 l124 y124 z124 st124 hQ124
          subst l124 y124 z124
          obtain ⟨rfl, Nq124, eq124⟩ := hQ124
          have N124 := Fr.app N123 Nq124
          refine own_tr st124 ?_
          show own_G p.tables e below _ (T124.setTop (mkF m 158 #[.val (.int p0), .val (.long p1), .second, .val (.int p2), .val (.int p3), .val (.int p4), .val (.int p5), .val (.int sp), .val (.long a), .second, .val (.int (0 : Int32)), .val (.long a), .second, .val (.int (1 : Int32)), .val (.ref b115), .val (.long a), .second, .val (.long a), .second, .val (.int p4), .unset, .unset, .unset, .unset] [(.long (-1 : Int64))]))
          refine own_go (X124.ldc2Long hx hown (mvT hZ (hw _ (List.mem_of_getElem? (i := 61) rfl))) (g := (mkF m 158 #[.val (.int p0), .val (.long p1), .second, .val (.int p2), .val (.int p3), .val (.int p4), .val (.int p5), .val (.int sp), .val (.long a), .second, .val (.int (0 : Int32)), .val (.long a), .second, .val (.int (1 : Int32)), .val (.ref b115), .val (.long a), .second, .val (.long a), .second, .val (.int p4), .unset, .unset, .unset, .unset] [(.long (-1 : Int64))])) rfl (hb hby at_158)) ?_
          show own_G p.tables e below _ (T124.setTop (mkF m 161 #[.val (.int p0), .val (.long p1), .second, .val (.int p2), .val (.int p3), .val (.int p4), .val (.int p5), .val (.int sp), .val (.long a), .second, .val (.int (0 : Int32)), .val (.long a), .second, .val (.int (1 : Int32)), .val (.ref b115), .val (.long a), .second, .val (.long a), .second, .val (.int p4), .unset, .unset, .unset, .unset] [(.long (-1 : Int64)), (.long (-1 : Int64))]))
          refine own_go (fun _ kt => XS.lcmp X124.here hx rfl (hb hby at_161) rfl kt) ?_
          show own_G p.tables e below _ (T124.setTop (mkF m 162 #[.val (.int p0), .val (.long p1), .second, .val (.int p2), .val (.int p3), .val (.int p4), .val (.int p5), .val (.int sp), .val (.long a), .second, .val (.int (0 : Int32)), .val (.long a), .second, .val (.int (1 : Int32)), .val (.ref b115), .val (.long a), .second, .val (.long a), .second, .val (.int p4), .unset, .unset, .unset, .unset] [(.int (lcmpW (-1 : Int64) (-1 : Int64)))]))
          refine own_go (fun _ kt => XS.ifNo X124.here hx rfl (hb hby at_162) rfl ((if0 _ _).trans (teq (own_lq.mpr rfl : (lcmpW (-1 : Int64) (-1 : Int64)) = (0 : Int32))).2) kt) ?_
          show own_G p.tables e below _ (T124.setTop (mkF m 165 #[.val (.int p0), .val (.long p1), .second, .val (.int p2), .val (.int p3), .val (.int p4), .val (.int p5), .val (.int sp), .val (.long a), .second, .val (.int (0 : Int32)), .val (.long a), .second, .val (.int (1 : Int32)), .val (.ref b115), .val (.long a), .second, .val (.long a), .second, .val (.int p4), .unset, .unset, .unset, .unset] []))
          refine own_go (fun _ kt => XS.iconst X124.here hx rfl (hb hby at_165) kt) ?_
          show own_G p.tables e below _ (T124.setTop (mkF m 166 #[.val (.int p0), .val (.long p1), .second, .val (.int p2), .val (.int p3), .val (.int p4), .val (.int p5), .val (.int sp), .val (.long a), .second, .val (.int (0 : Int32)), .val (.long a), .second, .val (.int (1 : Int32)), .val (.ref b115), .val (.long a), .second, .val (.long a), .second, .val (.int p4), .unset, .unset, .unset, .unset] [(.int (1 : Int32))]))
          refine own_go (fun _ kt => XS.goto X124.here hx rfl (pc0 := 166) (pc' := 170) rfl (hb hby at_166) (by decide) (by decide) kt) ?_
          show own_G p.tables e below _ (T124.setTop (mkF m 170 #[.val (.int p0), .val (.long p1), .second, .val (.int p2), .val (.int p3), .val (.int p4), .val (.int p5), .val (.int sp), .val (.long a), .second, .val (.int (0 : Int32)), .val (.long a), .second, .val (.int (1 : Int32)), .val (.ref b115), .val (.long a), .second, .val (.long a), .second, .val (.int p4), .unset, .unset, .unset, .unset] [(.int (1 : Int32))]))
          exact own_retN X124 hx (t := .boolean) Bd.returns (by simp) hlk (hb hby at_170) (Nat.le_of_ble_eq_true rfl) (Nat.le_of_ble_eq_true rfl) eq124 ⟨rfl, N124⟩
      · obtain ⟨sb, hsb⟩ := hex b.toInt
        have hd1 : ¬ d.toInt = 0 := fun e => hd0 (by apply Int32.toInt_inj.mp; exact e.symm)
        have hdp : 0 < d.toInt := by omega
        have hne : ¬ sb = sa := own_apart ok hsa hsb hb0 hdp (by omega)
        have hdn : ¬ (d = (0 : Int32)) := fun e => hd0 e.symm
        show own_G p.tables e below _ (T117.setTop (mkF m 85 #[.val (.int p0), .val (.long p1), .second, .val (.int p2), .val (.int p3), .val (.int p4), .val (.int p5), .val (.int sp), .val (.long a), .second, .val (.int d), .val (.long b), .second, .val (.int tf), .val (.ref b115), .unset, .unset, .unset, .unset, .unset, .unset, .unset, .unset, .unset] [(.int p4), (.long b), (.ref b115)]))
        obtain ⟨cq125, kq125, q125a, q125b, q125c⟩ := isOf hZ rfl R1.1
        obtain ⟨_, _, ⟨T125, L125, k125, n125⟩, -, X125, ⟨Lc125, hQ125, l125, y125, z125⟩, st125⟩ := X117.virtualBack hx (y := (⟨"com/example/brisk_match/briskmatch/search/StartRing", "put", "(JI)V"⟩ : MethodName)) (z := (⟨"com/example/brisk_match/briskmatch/search/StartRing", "put", "(JI)V"⟩ : MethodName)) hown (mvT hZ (hw _ (List.mem_of_getElem? (i := 30) rfl))) (mvT hZ (hw _ (List.mem_of_getElem? (i := 31) rfl))) (notFace_of_selects (args := #[]) (mvT hZ (hw _ (List.mem_of_getElem? (i := 33) rfl)))) (mvT hZ (hw _ (List.mem_of_getElem? (i := 33) rfl))) (mvT hZ (hw _ (List.mem_of_getElem? (i := 32) rfl))) (by decide) (backOf (W := 0) (rm_putN l Z a0 hw [] b115 b p4 wp wu S _ _ u1 _ sb T117.heap n0 Zq117 R1 ok U1 hsb (by simp [hne])) hZ (hw _ (List.mem_of_getElem? (i := 34) rfl)) (hw _ (List.mem_of_getElem? (i := 4) rfl)) (by decide) (by decide)) q125a q125c (g := (mkF m 85 #[.val (.int p0), .val (.long p1), .second, .val (.int p2), .val (.int p3), .val (.int p4), .val (.int p5), .val (.int sp), .val (.long a), .second, .val (.int d), .val (.long b), .second, .val (.int tf), .val (.ref b115), .unset, .unset, .unset, .unset, .unset, .unset, .unset, .unset, .unset] [(.int p4), (.long b), (.ref b115)])) rfl (by rw [hml]; rfl) (Steps.refl _) (argsL := [(.long b), (.int p4)]) (rest := []) (lenOf pd__JI_V rfl) rfl (by show 2 * 0 + _ ≤ _; exact Nat.le_of_eq rfl) (hb hby at_85) (fun _ _ => ⟨rfl, rfl, (Nat.le_of_ble_eq_true rfl), (Nat.le_of_ble_eq_true rfl)⟩)
        dsimp only [Pt.U, Pt.locs, Pt.cells, Pt.slots] at X125 l125 y125 z125 st125 hQ125
        subst l125 y125 z125
        obtain ⟨rfl, Nq125, Zq125, u2, R2, U2⟩ := hQ125
        have N125 := Fr.app N117 Nq125
        refine own_tr st125 ?_
        have fa : (own_updI (own_updI (fun _ => 0) sa p3) sb p4) sa = p3 := by rw [own_updI_ne _ _ (fun e => hne e.symm), own_updI_same]
        have fb : (own_updI (own_updI (fun _ => 0) sa p3) sb p4) sb = p4 := own_updI_same _ _ _
        rcases htf with rfl | rfl
        · show own_G p.tables e below _ (T125.setTop (mkF m 88 #[.val (.int p0), .val (.long p1), .second, .val (.int p2), .val (.int p3), .val (.int p4), .val (.int p5), .val (.int sp), .val (.long a), .second, .val (.int d), .val (.long b), .second, .val (.int (0 : Int32)), .val (.ref b115), .unset, .unset, .unset, .unset, .unset, .unset, .unset, .unset, .unset] []))
          refine own_go (fun _ kt => XS.iload X125.here hx rfl (hb hby at_88) rfl kt) ?_
          show own_G p.tables e below _ (T125.setTop (mkF m 90 #[.val (.int p0), .val (.long p1), .second, .val (.int p2), .val (.int p3), .val (.int p4), .val (.int p5), .val (.int sp), .val (.long a), .second, .val (.int d), .val (.long b), .second, .val (.int (0 : Int32)), .val (.ref b115), .unset, .unset, .unset, .unset, .unset, .unset, .unset, .unset, .unset] [(.int (0 : Int32))]))
          refine own_go (fun _ kt => XS.ifYes X125.here hx rfl (pc0 := 90) (pc' := 98) rfl (hb hby at_90) rfl ((if0 _ _).trans (teq (rfl : (0 : Int32) = (0 : Int32))).1) (by decide) (by decide) kt) ?_
          show own_G p.tables e below _ (T125.setTop (mkF m 98 #[.val (.int p0), .val (.long p1), .second, .val (.int p2), .val (.int p3), .val (.int p4), .val (.int p5), .val (.int sp), .val (.long a), .second, .val (.int d), .val (.long b), .second, .val (.int (0 : Int32)), .val (.ref b115), .unset, .unset, .unset, .unset, .unset, .unset, .unset, .unset, .unset] []))
          refine own_go (fun _ kt => XS.lload X125.here hx rfl (hb hby at_98) rfl kt) ?_
          show own_G p.tables e below _ (T125.setTop (mkF m 100 #[.val (.int p0), .val (.long p1), .second, .val (.int p2), .val (.int p3), .val (.int p4), .val (.int p5), .val (.int sp), .val (.long a), .second, .val (.int d), .val (.long b), .second, .val (.int (0 : Int32)), .val (.ref b115), .unset, .unset, .unset, .unset, .unset, .unset, .unset, .unset, .unset] [(.long b)]))
          refine own_go (fun _ kt => XS.lstore X125.here hx rfl (hb hby at_100) rfl (l' := #[.val (.int p0), .val (.long p1), .second, .val (.int p2), .val (.int p3), .val (.int p4), .val (.int p5), .val (.int sp), .val (.long a), .second, .val (.int d), .val (.long b), .second, .val (.int (0 : Int32)), .val (.ref b115), .val (.long b), .second, .unset, .unset, .unset, .unset, .unset, .unset, .unset]) rfl kt) ?_
          show own_G p.tables e below _ (T125.setTop (mkF m 102 #[.val (.int p0), .val (.long p1), .second, .val (.int p2), .val (.int p3), .val (.int p4), .val (.int p5), .val (.int sp), .val (.long a), .second, .val (.int d), .val (.long b), .second, .val (.int (0 : Int32)), .val (.ref b115), .val (.long b), .second, .unset, .unset, .unset, .unset, .unset, .unset, .unset] []))
          refine own_go (fun _ kt => XS.iload X125.here hx rfl (hb hby at_102) rfl kt) ?_
          show own_G p.tables e below _ (T125.setTop (mkF m 104 #[.val (.int p0), .val (.long p1), .second, .val (.int p2), .val (.int p3), .val (.int p4), .val (.int p5), .val (.int sp), .val (.long a), .second, .val (.int d), .val (.long b), .second, .val (.int (0 : Int32)), .val (.ref b115), .val (.long b), .second, .unset, .unset, .unset, .unset, .unset, .unset, .unset] [(.int (0 : Int32))]))
          refine own_go (fun _ kt => XS.ifYes X125.here hx rfl (pc0 := 104) (pc' := 112) rfl (hb hby at_104) rfl ((if0 _ _).trans (teq (rfl : (0 : Int32) = (0 : Int32))).1) (by decide) (by decide) kt) ?_
          show own_G p.tables e below _ (T125.setTop (mkF m 112 #[.val (.int p0), .val (.long p1), .second, .val (.int p2), .val (.int p3), .val (.int p4), .val (.int p5), .val (.int sp), .val (.long a), .second, .val (.int d), .val (.long b), .second, .val (.int (0 : Int32)), .val (.ref b115), .val (.long b), .second, .unset, .unset, .unset, .unset, .unset, .unset, .unset] []))
          refine own_go (fun _ kt => XS.lload X125.here hx rfl (hb hby at_112) rfl kt) ?_
          show own_G p.tables e below _ (T125.setTop (mkF m 114 #[.val (.int p0), .val (.long p1), .second, .val (.int p2), .val (.int p3), .val (.int p4), .val (.int p5), .val (.int sp), .val (.long a), .second, .val (.int d), .val (.long b), .second, .val (.int (0 : Int32)), .val (.ref b115), .val (.long b), .second, .unset, .unset, .unset, .unset, .unset, .unset, .unset] [(.long a)]))
          refine own_go (fun _ kt => XS.lstore X125.here hx rfl (hb hby at_114) rfl (l' := #[.val (.int p0), .val (.long p1), .second, .val (.int p2), .val (.int p3), .val (.int p4), .val (.int p5), .val (.int sp), .val (.long a), .second, .val (.int d), .val (.long b), .second, .val (.int (0 : Int32)), .val (.ref b115), .val (.long b), .second, .val (.long a), .second, .unset, .unset, .unset, .unset, .unset]) rfl kt) ?_
          show own_G p.tables e below _ (T125.setTop (mkF m 116 #[.val (.int p0), .val (.long p1), .second, .val (.int p2), .val (.int p3), .val (.int p4), .val (.int p5), .val (.int sp), .val (.long a), .second, .val (.int d), .val (.long b), .second, .val (.int (0 : Int32)), .val (.ref b115), .val (.long b), .second, .val (.long a), .second, .unset, .unset, .unset, .unset, .unset] []))
          refine own_go (fun _ kt => XS.aload X125.here hx rfl (hb hby at_116) rfl rfl kt) ?_
          show own_G p.tables e below _ (T125.setTop (mkF m 118 #[.val (.int p0), .val (.long p1), .second, .val (.int p2), .val (.int p3), .val (.int p4), .val (.int p5), .val (.int sp), .val (.long a), .second, .val (.int d), .val (.long b), .second, .val (.int (0 : Int32)), .val (.ref b115), .val (.long b), .second, .val (.long a), .second, .unset, .unset, .unset, .unset, .unset] [(.ref b115)]))
          refine own_go (fun _ kt => XS.lload X125.here hx rfl (hb hby at_118) rfl kt) ?_
          show own_G p.tables e below _ (T125.setTop (mkF m 120 #[.val (.int p0), .val (.long p1), .second, .val (.int p2), .val (.int p3), .val (.int p4), .val (.int p5), .val (.int sp), .val (.long a), .second, .val (.int d), .val (.long b), .second, .val (.int (0 : Int32)), .val (.ref b115), .val (.long b), .second, .val (.long a), .second, .unset, .unset, .unset, .unset, .unset] [(.long b), (.ref b115)]))
          obtain ⟨cq126, kq126, q126a, q126b, q126c⟩ := isOf hZ rfl R2.1
          obtain ⟨_, _, ⟨T126, L126, k126, n126⟩, -, X126, ⟨Lc126, hQ126, l126, y126, z126⟩, st126⟩ := X125.virtualBack hx (y := (⟨"com/example/brisk_match/briskmatch/search/StartRing", "take", "(J)I"⟩ : MethodName)) (z := (⟨"com/example/brisk_match/briskmatch/search/StartRing", "take", "(J)I"⟩ : MethodName)) hown (mvT hZ (hw _ (List.mem_of_getElem? (i := 45) rfl))) (mvT hZ (hw _ (List.mem_of_getElem? (i := 46) rfl))) (notFace_of_selects (args := #[]) (mvT hZ (hw _ (List.mem_of_getElem? (i := 48) rfl)))) (mvT hZ (hw _ (List.mem_of_getElem? (i := 48) rfl))) (mvT hZ (hw _ (List.mem_of_getElem? (i := 47) rfl))) (by decide) (backOf (W := 0) (rm_take l Z a0 hw [] b115 b wp wu S _ _ u2 _ sb T125.heap n0 Zq125 R2 ok U2 hsb) hZ (hw _ (List.mem_of_getElem? (i := 49) rfl)) (hw _ (List.mem_of_getElem? (i := 4) rfl)) (by decide) (by decide)) q126a q126c (g := (mkF m 120 #[.val (.int p0), .val (.long p1), .second, .val (.int p2), .val (.int p3), .val (.int p4), .val (.int p5), .val (.int sp), .val (.long a), .second, .val (.int d), .val (.long b), .second, .val (.int (0 : Int32)), .val (.ref b115), .val (.long b), .second, .val (.long a), .second, .unset, .unset, .unset, .unset, .unset] [(.long b), (.ref b115)])) rfl (by rw [hml]; rfl) (Steps.refl _) (argsL := [(.long b)]) (rest := []) (lenOf pd__J_I rfl) rfl (by show 2 * 0 + _ ≤ _; exact Nat.le_of_eq rfl) (hb hby at_120) (fun _ _ => ⟨rfl, rfl, (Nat.le_of_ble_eq_true rfl), (Nat.le_of_ble_eq_true rfl)⟩)
          dsimp only [Pt.U, Pt.locs, Pt.cells, Pt.slots] at X126 l126 y126 z126 st126 hQ126
          subst l126 y126 z126
          obtain ⟨rfl, Nq126, Zq126, u3, R3, U3⟩ := hQ126
          have N126 := Fr.app N125 Nq126
          refine own_tr st126 ?_
          show own_G p.tables e below _ (T126.setTop (mkF m 123 #[.val (.int p0), .val (.long p1), .second, .val (.int p2), .val (.int p3), .val (.int p4), .val (.int p5), .val (.int sp), .val (.long a), .second, .val (.int d), .val (.long b), .second, .val (.int (0 : Int32)), .val (.ref b115), .val (.long b), .second, .val (.long a), .second, .unset, .unset, .unset, .unset, .unset] [(.int ((own_updI (own_updI (fun _ => 0) sa p3) sb p4) sb))]))
          rw [fb]
          rw [show ((0 : Int32) + 1 + 1 - 1) = 1 from by decide] at R3
          show own_G p.tables e below _ (T126.setTop (mkF m 123 #[.val (.int p0), .val (.long p1), .second, .val (.int p2), .val (.int p3), .val (.int p4), .val (.int p5), .val (.int sp), .val (.long a), .second, .val (.int d), .val (.long b), .second, .val (.int (0 : Int32)), .val (.ref b115), .val (.long b), .second, .val (.long a), .second, .unset, .unset, .unset, .unset, .unset] [(.int p4)]))
          refine own_go (fun _ kt => XS.istore X126.here hx rfl (hb hby at_123) rfl (l' := #[.val (.int p0), .val (.long p1), .second, .val (.int p2), .val (.int p3), .val (.int p4), .val (.int p5), .val (.int sp), .val (.long a), .second, .val (.int d), .val (.long b), .second, .val (.int (0 : Int32)), .val (.ref b115), .val (.long b), .second, .val (.long a), .second, .val (.int p4), .unset, .unset, .unset, .unset]) rfl kt) ?_
          show own_G p.tables e below _ (T126.setTop (mkF m 125 #[.val (.int p0), .val (.long p1), .second, .val (.int p2), .val (.int p3), .val (.int p4), .val (.int p5), .val (.int sp), .val (.long a), .second, .val (.int d), .val (.long b), .second, .val (.int (0 : Int32)), .val (.ref b115), .val (.long b), .second, .val (.long a), .second, .val (.int p4), .unset, .unset, .unset, .unset] []))
          refine own_go (fun _ kt => XS.iload X126.here hx rfl (hb hby at_125) rfl kt) ?_
          show own_G p.tables e below _ (T126.setTop (mkF m 127 #[.val (.int p0), .val (.long p1), .second, .val (.int p2), .val (.int p3), .val (.int p4), .val (.int p5), .val (.int sp), .val (.long a), .second, .val (.int d), .val (.long b), .second, .val (.int (0 : Int32)), .val (.ref b115), .val (.long b), .second, .val (.long a), .second, .val (.int p4), .unset, .unset, .unset, .unset] [(.int d)]))
          refine own_go (fun _ kt => XS.ifYes X126.here hx rfl (pc0 := 127) (pc' := 171) rfl (hb hby at_127) rfl ((if0 _ _).trans (feq (hdn : ¬ (d = (0 : Int32)))).2) (by decide) (by decide) kt) ?_
          show own_G p.tables e below _ (T126.setTop (mkF m 171 #[.val (.int p0), .val (.long p1), .second, .val (.int p2), .val (.int p3), .val (.int p4), .val (.int p5), .val (.int sp), .val (.long a), .second, .val (.int d), .val (.long b), .second, .val (.int (0 : Int32)), .val (.ref b115), .val (.long b), .second, .val (.long a), .second, .val (.int p4), .unset, .unset, .unset, .unset] []))
          refine own_go (fun _ kt => XS.iload X126.here hx rfl (hb hby at_171) rfl kt) ?_
          show own_G p.tables e below _ (T126.setTop (mkF m 173 #[.val (.int p0), .val (.long p1), .second, .val (.int p2), .val (.int p3), .val (.int p4), .val (.int p5), .val (.int sp), .val (.long a), .second, .val (.int d), .val (.long b), .second, .val (.int (0 : Int32)), .val (.ref b115), .val (.long b), .second, .val (.long a), .second, .val (.int p4), .unset, .unset, .unset, .unset] [(.int (0 : Int32))]))
          refine own_go (fun _ kt => XS.ifYes X126.here hx rfl (pc0 := 173) (pc' := 181) rfl (hb hby at_173) rfl ((if0 _ _).trans (teq (rfl : (0 : Int32) = (0 : Int32))).1) (by decide) (by decide) kt) ?_
          show own_G p.tables e below _ (T126.setTop (mkF m 181 #[.val (.int p0), .val (.long p1), .second, .val (.int p2), .val (.int p3), .val (.int p4), .val (.int p5), .val (.int sp), .val (.long a), .second, .val (.int d), .val (.long b), .second, .val (.int (0 : Int32)), .val (.ref b115), .val (.long b), .second, .val (.long a), .second, .val (.int p4), .unset, .unset, .unset, .unset] []))
          refine own_go (fun _ kt => XS.iload X126.here hx rfl (hb hby at_181) rfl kt) ?_
          show own_G p.tables e below _ (T126.setTop (mkF m 183 #[.val (.int p0), .val (.long p1), .second, .val (.int p2), .val (.int p3), .val (.int p4), .val (.int p5), .val (.int sp), .val (.long a), .second, .val (.int d), .val (.long b), .second, .val (.int (0 : Int32)), .val (.ref b115), .val (.long b), .second, .val (.long a), .second, .val (.int p4), .unset, .unset, .unset, .unset] [(.int p4)]))
          refine own_go (fun _ kt => XS.istore X126.here hx rfl (hb hby at_183) rfl (l' := #[.val (.int p0), .val (.long p1), .second, .val (.int p2), .val (.int p3), .val (.int p4), .val (.int p5), .val (.int sp), .val (.long a), .second, .val (.int d), .val (.long b), .second, .val (.int (0 : Int32)), .val (.ref b115), .val (.long b), .second, .val (.long a), .second, .val (.int p4), .val (.int p4), .unset, .unset, .unset]) rfl kt) ?_
          show own_G p.tables e below _ (T126.setTop (mkF m 185 #[.val (.int p0), .val (.long p1), .second, .val (.int p2), .val (.int p3), .val (.int p4), .val (.int p5), .val (.int sp), .val (.long a), .second, .val (.int d), .val (.long b), .second, .val (.int (0 : Int32)), .val (.ref b115), .val (.long b), .second, .val (.long a), .second, .val (.int p4), .val (.int p4), .unset, .unset, .unset] []))
          refine own_go (fun _ kt => XS.iload X126.here hx rfl (hb hby at_185) rfl kt) ?_
          show own_G p.tables e below _ (T126.setTop (mkF m 187 #[.val (.int p0), .val (.long p1), .second, .val (.int p2), .val (.int p3), .val (.int p4), .val (.int p5), .val (.int sp), .val (.long a), .second, .val (.int d), .val (.long b), .second, .val (.int (0 : Int32)), .val (.ref b115), .val (.long b), .second, .val (.long a), .second, .val (.int p4), .val (.int p4), .unset, .unset, .unset] [(.int (0 : Int32))]))
          refine own_go (fun _ kt => XS.ifYes X126.here hx rfl (pc0 := 187) (pc' := 195) rfl (hb hby at_187) rfl ((if0 _ _).trans (teq (rfl : (0 : Int32) = (0 : Int32))).1) (by decide) (by decide) kt) ?_
          show own_G p.tables e below _ (T126.setTop (mkF m 195 #[.val (.int p0), .val (.long p1), .second, .val (.int p2), .val (.int p3), .val (.int p4), .val (.int p5), .val (.int sp), .val (.long a), .second, .val (.int d), .val (.long b), .second, .val (.int (0 : Int32)), .val (.ref b115), .val (.long b), .second, .val (.long a), .second, .val (.int p4), .val (.int p4), .unset, .unset, .unset] []))
          refine own_go (fun _ kt => XS.iload X126.here hx rfl (hb hby at_195) rfl kt) ?_
          show own_G p.tables e below _ (T126.setTop (mkF m 197 #[.val (.int p0), .val (.long p1), .second, .val (.int p2), .val (.int p3), .val (.int p4), .val (.int p5), .val (.int sp), .val (.long a), .second, .val (.int d), .val (.long b), .second, .val (.int (0 : Int32)), .val (.ref b115), .val (.long b), .second, .val (.long a), .second, .val (.int p4), .val (.int p4), .unset, .unset, .unset] [(.int p3)]))
          refine own_go (fun _ kt => XS.istore X126.here hx rfl (hb hby at_197) rfl (l' := #[.val (.int p0), .val (.long p1), .second, .val (.int p2), .val (.int p3), .val (.int p4), .val (.int p5), .val (.int sp), .val (.long a), .second, .val (.int d), .val (.long b), .second, .val (.int (0 : Int32)), .val (.ref b115), .val (.long b), .second, .val (.long a), .second, .val (.int p4), .val (.int p4), .val (.int p3), .unset, .unset]) rfl kt) ?_
          show own_G p.tables e below _ (T126.setTop (mkF m 199 #[.val (.int p0), .val (.long p1), .second, .val (.int p2), .val (.int p3), .val (.int p4), .val (.int p5), .val (.int sp), .val (.long a), .second, .val (.int d), .val (.long b), .second, .val (.int (0 : Int32)), .val (.ref b115), .val (.long b), .second, .val (.long a), .second, .val (.int p4), .val (.int p4), .val (.int p3), .unset, .unset] []))
          refine own_go (fun _ kt => XS.iload X126.here hx rfl (hb hby at_199) rfl kt) ?_
          show own_G p.tables e below _ (T126.setTop (mkF m 201 #[.val (.int p0), .val (.long p1), .second, .val (.int p2), .val (.int p3), .val (.int p4), .val (.int p5), .val (.int sp), .val (.long a), .second, .val (.int d), .val (.long b), .second, .val (.int (0 : Int32)), .val (.ref b115), .val (.long b), .second, .val (.long a), .second, .val (.int p4), .val (.int p4), .val (.int p3), .unset, .unset] [(.int p4)]))
          refine own_go (fun _ kt => XS.iload X126.here hx rfl (hb hby at_201) rfl kt) ?_
          show own_G p.tables e below _ (T126.setTop (mkF m 203 #[.val (.int p0), .val (.long p1), .second, .val (.int p2), .val (.int p3), .val (.int p4), .val (.int p5), .val (.int sp), .val (.long a), .second, .val (.int d), .val (.long b), .second, .val (.int (0 : Int32)), .val (.ref b115), .val (.long b), .second, .val (.long a), .second, .val (.int p4), .val (.int p4), .val (.int p3), .unset, .unset] [(.int p4), (.int p4)]))
          refine own_go (fun _ kt => XS.icmpNo X126.here hx rfl (hb hby at_203) rfl (teq (rfl : p4 = p4)).2 kt) ?_
          show own_G p.tables e below _ (T126.setTop (mkF m 206 #[.val (.int p0), .val (.long p1), .second, .val (.int p2), .val (.int p3), .val (.int p4), .val (.int p5), .val (.int sp), .val (.long a), .second, .val (.int d), .val (.long b), .second, .val (.int (0 : Int32)), .val (.ref b115), .val (.long b), .second, .val (.long a), .second, .val (.int p4), .val (.int p4), .val (.int p3), .unset, .unset] []))
          refine own_go (fun _ kt => XS.aload X126.here hx rfl (hb hby at_206) rfl rfl kt) ?_
          show own_G p.tables e below _ (T126.setTop (mkF m 208 #[.val (.int p0), .val (.long p1), .second, .val (.int p2), .val (.int p3), .val (.int p4), .val (.int p5), .val (.int sp), .val (.long a), .second, .val (.int d), .val (.long b), .second, .val (.int (0 : Int32)), .val (.ref b115), .val (.long b), .second, .val (.long a), .second, .val (.int p4), .val (.int p4), .val (.int p3), .unset, .unset] [(.ref b115)]))
          obtain ⟨cq127, kq127, q127a, q127b, q127c⟩ := isOf hZ rfl R3.1
          obtain ⟨_, _, ⟨T127, L127, k127, n127⟩, -, X127, ⟨Lc127, hQ127, l127, y127, z127⟩, st127⟩ := X126.virtualBack hx (y := (⟨"com/example/brisk_match/briskmatch/search/StartRing", "isEmpty", "()Z"⟩ : MethodName)) (z := (⟨"com/example/brisk_match/briskmatch/search/StartRing", "isEmpty", "()Z"⟩ : MethodName)) hown (mvT hZ (hw _ (List.mem_of_getElem? (i := 51) rfl))) (mvT hZ (hw _ (List.mem_of_getElem? (i := 52) rfl))) (notFace_of_selects (args := #[]) (mvT hZ (hw _ (List.mem_of_getElem? (i := 54) rfl)))) (mvT hZ (hw _ (List.mem_of_getElem? (i := 54) rfl))) (mvT hZ (hw _ (List.mem_of_getElem? (i := 53) rfl))) (by decide) (backOf (W := 0) (rm_isE l Z a0 hw [] b115 1 T126.heap n0 Zq126 R3.2.2.2.2.1) hZ (hw _ (List.mem_of_getElem? (i := 55) rfl)) (hw _ (List.mem_of_getElem? (i := 4) rfl)) (by decide) (by decide)) q127a q127c (g := (mkF m 208 #[.val (.int p0), .val (.long p1), .second, .val (.int p2), .val (.int p3), .val (.int p4), .val (.int p5), .val (.int sp), .val (.long a), .second, .val (.int d), .val (.long b), .second, .val (.int (0 : Int32)), .val (.ref b115), .val (.long b), .second, .val (.long a), .second, .val (.int p4), .val (.int p4), .val (.int p3), .unset, .unset] [(.ref b115)])) rfl (by rw [hml]; rfl) (Steps.refl _) (argsL := []) (rest := []) (lenOf pd___Z rfl) rfl (by show 2 * 0 + _ ≤ _; exact Nat.le_of_eq rfl) (hb hby at_208) (fun _ _ => ⟨rfl, rfl, (Nat.le_of_ble_eq_true rfl), (Nat.le_of_ble_eq_true rfl)⟩)
          dsimp only [Pt.U, Pt.locs, Pt.cells, Pt.slots] at X127 l127 y127 z127 st127 hQ127
          subst l127 y127 z127
          obtain ⟨rfl, Nq127, eq127⟩ := hQ127
          have N127 := Fr.app N126 Nq127
          refine own_tr st127 ?_
          show own_G p.tables e below _ (T127.setTop (mkF m 211 #[.val (.int p0), .val (.long p1), .second, .val (.int p2), .val (.int p3), .val (.int p4), .val (.int p5), .val (.int sp), .val (.long a), .second, .val (.int d), .val (.long b), .second, .val (.int (0 : Int32)), .val (.ref b115), .val (.long b), .second, .val (.long a), .second, .val (.int p4), .val (.int p4), .val (.int p3), .unset, .unset] [(.int (if (1 : Int32) = 0 then (1 : Int32) else 0))]))
          rw [if_neg (by decide)]
          show own_G p.tables e below _ (T127.setTop (mkF m 211 #[.val (.int p0), .val (.long p1), .second, .val (.int p2), .val (.int p3), .val (.int p4), .val (.int p5), .val (.int sp), .val (.long a), .second, .val (.int d), .val (.long b), .second, .val (.int (0 : Int32)), .val (.ref b115), .val (.long b), .second, .val (.long a), .second, .val (.int p4), .val (.int p4), .val (.int p3), .unset, .unset] [(.int (0 : Int32))]))
          refine own_go (fun _ kt => XS.ifNo X127.here hx rfl (hb hby at_211) rfl ((if0 _ _).trans (teq (rfl : (0 : Int32) = (0 : Int32))).2) kt) ?_
          show own_G p.tables e below _ (T127.setTop (mkF m 214 #[.val (.int p0), .val (.long p1), .second, .val (.int p2), .val (.int p3), .val (.int p4), .val (.int p5), .val (.int sp), .val (.long a), .second, .val (.int d), .val (.long b), .second, .val (.int (0 : Int32)), .val (.ref b115), .val (.long b), .second, .val (.long a), .second, .val (.int p4), .val (.int p4), .val (.int p3), .unset, .unset] []))
          refine own_go (fun _ kt => XS.aload X127.here hx rfl (hb hby at_214) rfl rfl kt) ?_
          show own_G p.tables e below _ (T127.setTop (mkF m 216 #[.val (.int p0), .val (.long p1), .second, .val (.int p2), .val (.int p3), .val (.int p4), .val (.int p5), .val (.int sp), .val (.long a), .second, .val (.int d), .val (.long b), .second, .val (.int (0 : Int32)), .val (.ref b115), .val (.long b), .second, .val (.long a), .second, .val (.int p4), .val (.int p4), .val (.int p3), .unset, .unset] [(.ref b115)]))
          refine own_go (fun _ kt => XS.lload X127.here hx rfl (hb hby at_216) rfl kt) ?_
          show own_G p.tables e below _ (T127.setTop (mkF m 218 #[.val (.int p0), .val (.long p1), .second, .val (.int p2), .val (.int p3), .val (.int p4), .val (.int p5), .val (.int sp), .val (.long a), .second, .val (.int d), .val (.long b), .second, .val (.int (0 : Int32)), .val (.ref b115), .val (.long b), .second, .val (.long a), .second, .val (.int p4), .val (.int p4), .val (.int p3), .unset, .unset] [(.long a), (.ref b115)]))
          refine own_go (fun _ kt => XS.lload X127.here hx rfl (hb hby at_218) rfl kt) ?_
          show own_G p.tables e below _ (T127.setTop (mkF m 220 #[.val (.int p0), .val (.long p1), .second, .val (.int p2), .val (.int p3), .val (.int p4), .val (.int p5), .val (.int sp), .val (.long a), .second, .val (.int d), .val (.long b), .second, .val (.int (0 : Int32)), .val (.ref b115), .val (.long b), .second, .val (.long a), .second, .val (.int p4), .val (.int p4), .val (.int p3), .unset, .unset] [(.long a), (.long a), (.ref b115)]))
          refine own_go (fun _ kt => XS.iload X127.here hx rfl (hb hby at_220) rfl kt) ?_
          show own_G p.tables e below _ (T127.setTop (mkF m 222 #[.val (.int p0), .val (.long p1), .second, .val (.int p2), .val (.int p3), .val (.int p4), .val (.int p5), .val (.int sp), .val (.long a), .second, .val (.int d), .val (.long b), .second, .val (.int (0 : Int32)), .val (.ref b115), .val (.long b), .second, .val (.long a), .second, .val (.int p4), .val (.int p4), .val (.int p3), .unset, .unset] [(.int sp), (.long a), (.long a), (.ref b115)]))
          refine own_go (fun _ kt => XS.i2l X127.here hx rfl (hb hby at_222) rfl kt) ?_
          show own_G p.tables e below _ (T127.setTop (mkF m 223 #[.val (.int p0), .val (.long p1), .second, .val (.int p2), .val (.int p3), .val (.int p4), .val (.int p5), .val (.int sp), .val (.long a), .second, .val (.int d), .val (.long b), .second, .val (.int (0 : Int32)), .val (.ref b115), .val (.long b), .second, .val (.long a), .second, .val (.int p4), .val (.int p4), .val (.int p3), .unset, .unset] [(.long (sp.toInt64)), (.long a), (.long a), (.ref b115)]))
          refine own_go (fun _ kt => XS.ladd X127.here hx rfl (hb hby at_223) rfl kt) ?_
          show own_G p.tables e below _ (T127.setTop (mkF m 224 #[.val (.int p0), .val (.long p1), .second, .val (.int p2), .val (.int p3), .val (.int p4), .val (.int p5), .val (.int sp), .val (.long a), .second, .val (.int d), .val (.long b), .second, .val (.int (0 : Int32)), .val (.ref b115), .val (.long b), .second, .val (.long a), .second, .val (.int p4), .val (.int p4), .val (.int p3), .unset, .unset] [(.long (a + (sp.toInt64))), (.long a), (.ref b115)]))
          obtain ⟨cq128, kq128, q128a, q128b, q128c⟩ := isOf hZ eq127 R3.1
          obtain ⟨_, _, ⟨T128, L128, k128, n128⟩, -, X128, ⟨Lc128, hQ128, l128, y128, z128⟩, st128⟩ := X127.virtualBack hx (y := (⟨"com/example/brisk_match/briskmatch/search/StartRing", "first", "(JJ)J"⟩ : MethodName)) (z := (⟨"com/example/brisk_match/briskmatch/search/StartRing", "first", "(JJ)J"⟩ : MethodName)) hown (mvT hZ (hw _ (List.mem_of_getElem? (i := 56) rfl))) (mvT hZ (hw _ (List.mem_of_getElem? (i := 57) rfl))) (notFace_of_selects (args := #[]) (mvT hZ (hw _ (List.mem_of_getElem? (i := 59) rfl)))) (mvT hZ (hw _ (List.mem_of_getElem? (i := 59) rfl))) (mvT hZ (hw _ (List.mem_of_getElem? (i := 58) rfl))) (by decide) (backOf (W := 0) (rm_first1 l Z a0 hw [] b115 a (a + (sp.toInt64)) wp wu S _ u3 _ a sa T126.heap n0 Zq126 R3 ok U3 (fun j _ => own_lb hne j) hsa (by omega) (by omega) (by omega) (by omega)) hZ (hw _ (List.mem_of_getElem? (i := 60) rfl)) (hw _ (List.mem_of_getElem? (i := 4) rfl)) (by decide) (by decide)) q128a q128c (g := (mkF m 224 #[.val (.int p0), .val (.long p1), .second, .val (.int p2), .val (.int p3), .val (.int p4), .val (.int p5), .val (.int sp), .val (.long a), .second, .val (.int d), .val (.long b), .second, .val (.int (0 : Int32)), .val (.ref b115), .val (.long b), .second, .val (.long a), .second, .val (.int p4), .val (.int p4), .val (.int p3), .unset, .unset] [(.long (a + (sp.toInt64))), (.long a), (.ref b115)])) rfl (by rw [hml]; rfl) (Steps.refl _) (argsL := [(.long a), (.long (a + (sp.toInt64)))]) (rest := []) (lenOf pd__JJ_J rfl) rfl (by show 2 * 0 + _ ≤ _; exact Nat.le_of_eq rfl) (hb hby at_224) (fun _ _ => ⟨rfl, eq127, (Nat.le_of_ble_eq_true rfl), (Nat.le_of_ble_eq_true rfl)⟩)
          dsimp only [Pt.U, Pt.locs, Pt.cells, Pt.slots] at X128 l128 y128 z128 st128 hQ128
          subst l128 y128 z128
          obtain ⟨rfl, Nq128, eq128⟩ := hQ128
          have N128 := Fr.app N127 Nq128
          refine own_tr st128 ?_
          show own_G p.tables e below _ (T128.setTop (mkF m 227 #[.val (.int p0), .val (.long p1), .second, .val (.int p2), .val (.int p3), .val (.int p4), .val (.int p5), .val (.int sp), .val (.long a), .second, .val (.int d), .val (.long b), .second, .val (.int (0 : Int32)), .val (.ref b115), .val (.long b), .second, .val (.long a), .second, .val (.int p4), .val (.int p4), .val (.int p3), .unset, .unset] [(.long a)]))
          refine own_go (fun _ kt => XS.lload X128.here hx rfl (hb hby at_227) rfl kt) ?_
          show own_G p.tables e below _ (T128.setTop (mkF m 229 #[.val (.int p0), .val (.long p1), .second, .val (.int p2), .val (.int p3), .val (.int p4), .val (.int p5), .val (.int sp), .val (.long a), .second, .val (.int d), .val (.long b), .second, .val (.int (0 : Int32)), .val (.ref b115), .val (.long b), .second, .val (.long a), .second, .val (.int p4), .val (.int p4), .val (.int p3), .unset, .unset] [(.long a), (.long a)]))
          refine own_go (fun _ kt => XS.lcmp X128.here hx rfl (hb hby at_229) rfl kt) ?_
          show own_G p.tables e below _ (T128.setTop (mkF m 230 #[.val (.int p0), .val (.long p1), .second, .val (.int p2), .val (.int p3), .val (.int p4), .val (.int p5), .val (.int sp), .val (.long a), .second, .val (.int d), .val (.long b), .second, .val (.int (0 : Int32)), .val (.ref b115), .val (.long b), .second, .val (.long a), .second, .val (.int p4), .val (.int p4), .val (.int p3), .unset, .unset] [(.int (lcmpW a a))]))
          refine own_go (fun _ kt => XS.ifNo X128.here hx rfl (hb hby at_230) rfl ((if0 _ _).trans (teq (own_lq.mpr rfl : (lcmpW a a) = (0 : Int32))).2) kt) ?_
          show own_G p.tables e below _ (T128.setTop (mkF m 233 #[.val (.int p0), .val (.long p1), .second, .val (.int p2), .val (.int p3), .val (.int p4), .val (.int p5), .val (.int sp), .val (.long a), .second, .val (.int d), .val (.long b), .second, .val (.int (0 : Int32)), .val (.ref b115), .val (.long b), .second, .val (.long a), .second, .val (.int p4), .val (.int p4), .val (.int p3), .unset, .unset] []))
          refine own_go (fun _ kt => XS.iconst X128.here hx rfl (hb hby at_233) kt) ?_
          show own_G p.tables e below _ (T128.setTop (mkF m 234 #[.val (.int p0), .val (.long p1), .second, .val (.int p2), .val (.int p3), .val (.int p4), .val (.int p5), .val (.int sp), .val (.long a), .second, .val (.int d), .val (.long b), .second, .val (.int (0 : Int32)), .val (.ref b115), .val (.long b), .second, .val (.long a), .second, .val (.int p4), .val (.int p4), .val (.int p3), .unset, .unset] [(.int (1 : Int32))]))
          refine own_go (fun _ kt => XS.goto X128.here hx rfl (pc0 := 234) (pc' := 238) rfl (hb hby at_234) (by decide) (by decide) kt) ?_
          show own_G p.tables e below _ (T128.setTop (mkF m 238 #[.val (.int p0), .val (.long p1), .second, .val (.int p2), .val (.int p3), .val (.int p4), .val (.int p5), .val (.int sp), .val (.long a), .second, .val (.int d), .val (.long b), .second, .val (.int (0 : Int32)), .val (.ref b115), .val (.long b), .second, .val (.long a), .second, .val (.int p4), .val (.int p4), .val (.int p3), .unset, .unset] [(.int (1 : Int32))]))
          refine own_go (fun _ kt => XS.istore X128.here hx rfl (hb hby at_238) rfl (l' := #[.val (.int p0), .val (.long p1), .second, .val (.int p2), .val (.int p3), .val (.int p4), .val (.int p5), .val (.int sp), .val (.long a), .second, .val (.int d), .val (.long b), .second, .val (.int (0 : Int32)), .val (.ref b115), .val (.long b), .second, .val (.long a), .second, .val (.int p4), .val (.int p4), .val (.int p3), .val (.int (1 : Int32)), .unset]) rfl kt) ?_
          show own_G p.tables e below _ (T128.setTop (mkF m 240 #[.val (.int p0), .val (.long p1), .second, .val (.int p2), .val (.int p3), .val (.int p4), .val (.int p5), .val (.int sp), .val (.long a), .second, .val (.int d), .val (.long b), .second, .val (.int (0 : Int32)), .val (.ref b115), .val (.long b), .second, .val (.long a), .second, .val (.int p4), .val (.int p4), .val (.int p3), .val (.int (1 : Int32)), .unset] []))
          refine own_go (fun _ kt => XS.aload X128.here hx rfl (hb hby at_240) rfl rfl kt) ?_
          show own_G p.tables e below _ (T128.setTop (mkF m 242 #[.val (.int p0), .val (.long p1), .second, .val (.int p2), .val (.int p3), .val (.int p4), .val (.int p5), .val (.int sp), .val (.long a), .second, .val (.int d), .val (.long b), .second, .val (.int (0 : Int32)), .val (.ref b115), .val (.long b), .second, .val (.long a), .second, .val (.int p4), .val (.int p4), .val (.int p3), .val (.int (1 : Int32)), .unset] [(.ref b115)]))
          refine own_go (fun _ kt => XS.lload X128.here hx rfl (hb hby at_242) rfl kt) ?_
          show own_G p.tables e below _ (T128.setTop (mkF m 244 #[.val (.int p0), .val (.long p1), .second, .val (.int p2), .val (.int p3), .val (.int p4), .val (.int p5), .val (.int sp), .val (.long a), .second, .val (.int d), .val (.long b), .second, .val (.int (0 : Int32)), .val (.ref b115), .val (.long b), .second, .val (.long a), .second, .val (.int p4), .val (.int p4), .val (.int p3), .val (.int (1 : Int32)), .unset] [(.long a), (.ref b115)]))
          obtain ⟨cq129, kq129, q129a, q129b, q129c⟩ := isOf hZ eq128 R3.1
          obtain ⟨_, _, ⟨T129, L129, k129, n129⟩, -, X129, ⟨Lc129, hQ129, l129, y129, z129⟩, st129⟩ := X128.virtualBack hx (y := (⟨"com/example/brisk_match/briskmatch/search/StartRing", "take", "(J)I"⟩ : MethodName)) (z := (⟨"com/example/brisk_match/briskmatch/search/StartRing", "take", "(J)I"⟩ : MethodName)) hown (mvT hZ (hw _ (List.mem_of_getElem? (i := 45) rfl))) (mvT hZ (hw _ (List.mem_of_getElem? (i := 46) rfl))) (notFace_of_selects (args := #[]) (mvT hZ (hw _ (List.mem_of_getElem? (i := 48) rfl)))) (mvT hZ (hw _ (List.mem_of_getElem? (i := 48) rfl))) (mvT hZ (hw _ (List.mem_of_getElem? (i := 47) rfl))) (by decide) (backOf (W := 0) (rm_take l Z a0 hw [] b115 a wp wu S _ _ u3 _ sa T126.heap n0 Zq126 R3 ok U3 hsa) hZ (hw _ (List.mem_of_getElem? (i := 49) rfl)) (hw _ (List.mem_of_getElem? (i := 4) rfl)) (by decide) (by decide)) q129a q129c (g := (mkF m 244 #[.val (.int p0), .val (.long p1), .second, .val (.int p2), .val (.int p3), .val (.int p4), .val (.int p5), .val (.int sp), .val (.long a), .second, .val (.int d), .val (.long b), .second, .val (.int (0 : Int32)), .val (.ref b115), .val (.long b), .second, .val (.long a), .second, .val (.int p4), .val (.int p4), .val (.int p3), .val (.int (1 : Int32)), .unset] [(.long a), (.ref b115)])) rfl (by rw [hml]; rfl) (Steps.refl _) (argsL := [(.long a)]) (rest := []) (lenOf pd__J_I rfl) rfl (by show 2 * 0 + _ ≤ _; exact Nat.le_of_eq rfl) (hb hby at_244) (fun _ _ => ⟨rfl, eq128, (Nat.le_of_ble_eq_true rfl), (Nat.le_of_ble_eq_true rfl)⟩)
          dsimp only [Pt.U, Pt.locs, Pt.cells, Pt.slots] at X129 l129 y129 z129 st129 hQ129
          subst l129 y129 z129
          obtain ⟨rfl, Nq129, Zq129, u4, R4, U4⟩ := hQ129
          have N129 := Fr.app N128 Nq129
          refine own_tr st129 ?_
          show own_G p.tables e below _ (T129.setTop (mkF m 247 #[.val (.int p0), .val (.long p1), .second, .val (.int p2), .val (.int p3), .val (.int p4), .val (.int p5), .val (.int sp), .val (.long a), .second, .val (.int d), .val (.long b), .second, .val (.int (0 : Int32)), .val (.ref b115), .val (.long b), .second, .val (.long a), .second, .val (.int p4), .val (.int p4), .val (.int p3), .val (.int (1 : Int32)), .unset] [(.int ((own_updI (own_updI (fun _ => 0) sa p3) sb p4) sa))]))
          rw [fa]
          rw [show ((1 : Int32) - 1) = 0 from by decide] at R4
          show own_G p.tables e below _ (T129.setTop (mkF m 247 #[.val (.int p0), .val (.long p1), .second, .val (.int p2), .val (.int p3), .val (.int p4), .val (.int p5), .val (.int sp), .val (.long a), .second, .val (.int d), .val (.long b), .second, .val (.int (0 : Int32)), .val (.ref b115), .val (.long b), .second, .val (.long a), .second, .val (.int p4), .val (.int p4), .val (.int p3), .val (.int (1 : Int32)), .unset] [(.int p3)]))
          refine own_go (fun _ kt => XS.istore X129.here hx rfl (hb hby at_247) rfl (l' := #[.val (.int p0), .val (.long p1), .second, .val (.int p2), .val (.int p3), .val (.int p4), .val (.int p5), .val (.int sp), .val (.long a), .second, .val (.int d), .val (.long b), .second, .val (.int (0 : Int32)), .val (.ref b115), .val (.long b), .second, .val (.long a), .second, .val (.int p4), .val (.int p4), .val (.int p3), .val (.int (1 : Int32)), .val (.int p3)]) rfl kt) ?_
          show own_G p.tables e below _ (T129.setTop (mkF m 249 #[.val (.int p0), .val (.long p1), .second, .val (.int p2), .val (.int p3), .val (.int p4), .val (.int p5), .val (.int sp), .val (.long a), .second, .val (.int d), .val (.long b), .second, .val (.int (0 : Int32)), .val (.ref b115), .val (.long b), .second, .val (.long a), .second, .val (.int p4), .val (.int p4), .val (.int p3), .val (.int (1 : Int32)), .val (.int p3)] []))
          refine own_go (fun _ kt => XS.iload X129.here hx rfl (hb hby at_249) rfl kt) ?_
          show own_G p.tables e below _ (T129.setTop (mkF m 251 #[.val (.int p0), .val (.long p1), .second, .val (.int p2), .val (.int p3), .val (.int p4), .val (.int p5), .val (.int sp), .val (.long a), .second, .val (.int d), .val (.long b), .second, .val (.int (0 : Int32)), .val (.ref b115), .val (.long b), .second, .val (.long a), .second, .val (.int p4), .val (.int p4), .val (.int p3), .val (.int (1 : Int32)), .val (.int p3)] [(.int (1 : Int32))]))
          refine own_go (fun _ kt => XS.ifNo X129.here hx rfl (hb hby at_251) rfl ((if0 _ _).trans (feq (by decide : ¬ ((1 : Int32) = (0 : Int32)))).1) kt) ?_
          show own_G p.tables e below _ (T129.setTop (mkF m 254 #[.val (.int p0), .val (.long p1), .second, .val (.int p2), .val (.int p3), .val (.int p4), .val (.int p5), .val (.int sp), .val (.long a), .second, .val (.int d), .val (.long b), .second, .val (.int (0 : Int32)), .val (.ref b115), .val (.long b), .second, .val (.long a), .second, .val (.int p4), .val (.int p4), .val (.int p3), .val (.int (1 : Int32)), .val (.int p3)] []))
          refine own_go (fun _ kt => XS.iload X129.here hx rfl (hb hby at_254) rfl kt) ?_
          show own_G p.tables e below _ (T129.setTop (mkF m 256 #[.val (.int p0), .val (.long p1), .second, .val (.int p2), .val (.int p3), .val (.int p4), .val (.int p5), .val (.int sp), .val (.long a), .second, .val (.int d), .val (.long b), .second, .val (.int (0 : Int32)), .val (.ref b115), .val (.long b), .second, .val (.long a), .second, .val (.int p4), .val (.int p4), .val (.int p3), .val (.int (1 : Int32)), .val (.int p3)] [(.int p3)]))
          refine own_go (fun _ kt => XS.iload X129.here hx rfl (hb hby at_256) rfl kt) ?_
          show own_G p.tables e below _ (T129.setTop (mkF m 258 #[.val (.int p0), .val (.long p1), .second, .val (.int p2), .val (.int p3), .val (.int p4), .val (.int p5), .val (.int sp), .val (.long a), .second, .val (.int d), .val (.long b), .second, .val (.int (0 : Int32)), .val (.ref b115), .val (.long b), .second, .val (.long a), .second, .val (.int p4), .val (.int p4), .val (.int p3), .val (.int (1 : Int32)), .val (.int p3)] [(.int p3), (.int p3)]))
          refine own_go (fun _ kt => XS.icmpNo X129.here hx rfl (hb hby at_258) rfl (teq (rfl : p3 = p3)).2 kt) ?_
          show own_G p.tables e below _ (T129.setTop (mkF m 261 #[.val (.int p0), .val (.long p1), .second, .val (.int p2), .val (.int p3), .val (.int p4), .val (.int p5), .val (.int sp), .val (.long a), .second, .val (.int d), .val (.long b), .second, .val (.int (0 : Int32)), .val (.ref b115), .val (.long b), .second, .val (.long a), .second, .val (.int p4), .val (.int p4), .val (.int p3), .val (.int (1 : Int32)), .val (.int p3)] []))
          refine own_go (fun _ kt => XS.aload X129.here hx rfl (hb hby at_261) rfl rfl kt) ?_
          show own_G p.tables e below _ (T129.setTop (mkF m 263 #[.val (.int p0), .val (.long p1), .second, .val (.int p2), .val (.int p3), .val (.int p4), .val (.int p5), .val (.int sp), .val (.long a), .second, .val (.int d), .val (.long b), .second, .val (.int (0 : Int32)), .val (.ref b115), .val (.long b), .second, .val (.long a), .second, .val (.int p4), .val (.int p4), .val (.int p3), .val (.int (1 : Int32)), .val (.int p3)] [(.ref b115)]))
          obtain ⟨cq130, kq130, q130a, q130b, q130c⟩ := isOf hZ rfl R4.1
          obtain ⟨_, _, ⟨T130, L130, k130, n130⟩, -, X130, ⟨Lc130, hQ130, l130, y130, z130⟩, st130⟩ := X129.virtualBack hx (y := (⟨"com/example/brisk_match/briskmatch/search/StartRing", "isEmpty", "()Z"⟩ : MethodName)) (z := (⟨"com/example/brisk_match/briskmatch/search/StartRing", "isEmpty", "()Z"⟩ : MethodName)) hown (mvT hZ (hw _ (List.mem_of_getElem? (i := 51) rfl))) (mvT hZ (hw _ (List.mem_of_getElem? (i := 52) rfl))) (notFace_of_selects (args := #[]) (mvT hZ (hw _ (List.mem_of_getElem? (i := 54) rfl)))) (mvT hZ (hw _ (List.mem_of_getElem? (i := 54) rfl))) (mvT hZ (hw _ (List.mem_of_getElem? (i := 53) rfl))) (by decide) (backOf (W := 0) (rm_isE l Z a0 hw [] b115 0 T129.heap n0 Zq129 R4.2.2.2.2.1) hZ (hw _ (List.mem_of_getElem? (i := 55) rfl)) (hw _ (List.mem_of_getElem? (i := 4) rfl)) (by decide) (by decide)) q130a q130c (g := (mkF m 263 #[.val (.int p0), .val (.long p1), .second, .val (.int p2), .val (.int p3), .val (.int p4), .val (.int p5), .val (.int sp), .val (.long a), .second, .val (.int d), .val (.long b), .second, .val (.int (0 : Int32)), .val (.ref b115), .val (.long b), .second, .val (.long a), .second, .val (.int p4), .val (.int p4), .val (.int p3), .val (.int (1 : Int32)), .val (.int p3)] [(.ref b115)])) rfl (by rw [hml]; rfl) (Steps.refl _) (argsL := []) (rest := []) (lenOf pd___Z rfl) rfl (by show 2 * 0 + _ ≤ _; exact Nat.le_of_eq rfl) (hb hby at_263) (fun _ _ => ⟨rfl, rfl, (Nat.le_of_ble_eq_true rfl), (Nat.le_of_ble_eq_true rfl)⟩)
          dsimp only [Pt.U, Pt.locs, Pt.cells, Pt.slots] at X130 l130 y130 z130 st130 hQ130
          subst l130 y130 z130
          obtain ⟨rfl, Nq130, eq130⟩ := hQ130
          have N130 := Fr.app N129 Nq130
          refine own_tr st130 ?_
          show own_G p.tables e below _ (T130.setTop (mkF m 266 #[.val (.int p0), .val (.long p1), .second, .val (.int p2), .val (.int p3), .val (.int p4), .val (.int p5), .val (.int sp), .val (.long a), .second, .val (.int d), .val (.long b), .second, .val (.int (0 : Int32)), .val (.ref b115), .val (.long b), .second, .val (.long a), .second, .val (.int p4), .val (.int p4), .val (.int p3), .val (.int (1 : Int32)), .val (.int p3)] [(.int (if (0 : Int32) = 0 then (1 : Int32) else 0))]))
          rw [if_pos rfl]
          show own_G p.tables e below _ (T130.setTop (mkF m 266 #[.val (.int p0), .val (.long p1), .second, .val (.int p2), .val (.int p3), .val (.int p4), .val (.int p5), .val (.int sp), .val (.long a), .second, .val (.int d), .val (.long b), .second, .val (.int (0 : Int32)), .val (.ref b115), .val (.long b), .second, .val (.long a), .second, .val (.int p4), .val (.int p4), .val (.int p3), .val (.int (1 : Int32)), .val (.int p3)] [(.int (1 : Int32))]))
          refine own_go (fun _ kt => XS.ifNo X130.here hx rfl (hb hby at_266) rfl ((if0 _ _).trans (feq (by decide : ¬ ((1 : Int32) = (0 : Int32)))).1) kt) ?_
          show own_G p.tables e below _ (T130.setTop (mkF m 269 #[.val (.int p0), .val (.long p1), .second, .val (.int p2), .val (.int p3), .val (.int p4), .val (.int p5), .val (.int sp), .val (.long a), .second, .val (.int d), .val (.long b), .second, .val (.int (0 : Int32)), .val (.ref b115), .val (.long b), .second, .val (.long a), .second, .val (.int p4), .val (.int p4), .val (.int p3), .val (.int (1 : Int32)), .val (.int p3)] []))
          refine own_go (fun _ kt => XS.iconst X130.here hx rfl (hb hby at_269) kt) ?_
          show own_G p.tables e below _ (T130.setTop (mkF m 270 #[.val (.int p0), .val (.long p1), .second, .val (.int p2), .val (.int p3), .val (.int p4), .val (.int p5), .val (.int sp), .val (.long a), .second, .val (.int d), .val (.long b), .second, .val (.int (0 : Int32)), .val (.ref b115), .val (.long b), .second, .val (.long a), .second, .val (.int p4), .val (.int p4), .val (.int p3), .val (.int (1 : Int32)), .val (.int p3)] [(.int (1 : Int32))]))
          refine own_go (fun _ kt => XS.goto X130.here hx rfl (pc0 := 270) (pc' := 274) rfl (hb hby at_270) (by decide) (by decide) kt) ?_
          show own_G p.tables e below _ (T130.setTop (mkF m 274 #[.val (.int p0), .val (.long p1), .second, .val (.int p2), .val (.int p3), .val (.int p4), .val (.int p5), .val (.int sp), .val (.long a), .second, .val (.int d), .val (.long b), .second, .val (.int (0 : Int32)), .val (.ref b115), .val (.long b), .second, .val (.long a), .second, .val (.int p4), .val (.int p4), .val (.int p3), .val (.int (1 : Int32)), .val (.int p3)] [(.int (1 : Int32))]))
          exact own_retN X130 hx (t := .boolean) Bd.returns (by simp) hlk (hb hby at_274) (Nat.le_of_ble_eq_true rfl) (Nat.le_of_ble_eq_true rfl) eq130 ⟨rfl, N130⟩
        · show own_G p.tables e below _ (T125.setTop (mkF m 88 #[.val (.int p0), .val (.long p1), .second, .val (.int p2), .val (.int p3), .val (.int p4), .val (.int p5), .val (.int sp), .val (.long a), .second, .val (.int d), .val (.long b), .second, .val (.int (1 : Int32)), .val (.ref b115), .unset, .unset, .unset, .unset, .unset, .unset, .unset, .unset, .unset] []))
          refine own_go (fun _ kt => XS.iload X125.here hx rfl (hb hby at_88) rfl kt) ?_
          show own_G p.tables e below _ (T125.setTop (mkF m 90 #[.val (.int p0), .val (.long p1), .second, .val (.int p2), .val (.int p3), .val (.int p4), .val (.int p5), .val (.int sp), .val (.long a), .second, .val (.int d), .val (.long b), .second, .val (.int (1 : Int32)), .val (.ref b115), .unset, .unset, .unset, .unset, .unset, .unset, .unset, .unset, .unset] [(.int (1 : Int32))]))
          refine own_go (fun _ kt => XS.ifNo X125.here hx rfl (hb hby at_90) rfl ((if0 _ _).trans (feq (by decide : ¬ ((1 : Int32) = (0 : Int32)))).1) kt) ?_
          show own_G p.tables e below _ (T125.setTop (mkF m 93 #[.val (.int p0), .val (.long p1), .second, .val (.int p2), .val (.int p3), .val (.int p4), .val (.int p5), .val (.int sp), .val (.long a), .second, .val (.int d), .val (.long b), .second, .val (.int (1 : Int32)), .val (.ref b115), .unset, .unset, .unset, .unset, .unset, .unset, .unset, .unset, .unset] []))
          refine own_go (fun _ kt => XS.lload X125.here hx rfl (hb hby at_93) rfl kt) ?_
          show own_G p.tables e below _ (T125.setTop (mkF m 95 #[.val (.int p0), .val (.long p1), .second, .val (.int p2), .val (.int p3), .val (.int p4), .val (.int p5), .val (.int sp), .val (.long a), .second, .val (.int d), .val (.long b), .second, .val (.int (1 : Int32)), .val (.ref b115), .unset, .unset, .unset, .unset, .unset, .unset, .unset, .unset, .unset] [(.long a)]))
          refine own_go (fun _ kt => XS.goto X125.here hx rfl (pc0 := 95) (pc' := 100) rfl (hb hby at_95) (by decide) (by decide) kt) ?_
          show own_G p.tables e below _ (T125.setTop (mkF m 100 #[.val (.int p0), .val (.long p1), .second, .val (.int p2), .val (.int p3), .val (.int p4), .val (.int p5), .val (.int sp), .val (.long a), .second, .val (.int d), .val (.long b), .second, .val (.int (1 : Int32)), .val (.ref b115), .unset, .unset, .unset, .unset, .unset, .unset, .unset, .unset, .unset] [(.long a)]))
          refine own_go (fun _ kt => XS.lstore X125.here hx rfl (hb hby at_100) rfl (l' := #[.val (.int p0), .val (.long p1), .second, .val (.int p2), .val (.int p3), .val (.int p4), .val (.int p5), .val (.int sp), .val (.long a), .second, .val (.int d), .val (.long b), .second, .val (.int (1 : Int32)), .val (.ref b115), .val (.long a), .second, .unset, .unset, .unset, .unset, .unset, .unset, .unset]) rfl kt) ?_
          show own_G p.tables e below _ (T125.setTop (mkF m 102 #[.val (.int p0), .val (.long p1), .second, .val (.int p2), .val (.int p3), .val (.int p4), .val (.int p5), .val (.int sp), .val (.long a), .second, .val (.int d), .val (.long b), .second, .val (.int (1 : Int32)), .val (.ref b115), .val (.long a), .second, .unset, .unset, .unset, .unset, .unset, .unset, .unset] []))
          refine own_go (fun _ kt => XS.iload X125.here hx rfl (hb hby at_102) rfl kt) ?_
          show own_G p.tables e below _ (T125.setTop (mkF m 104 #[.val (.int p0), .val (.long p1), .second, .val (.int p2), .val (.int p3), .val (.int p4), .val (.int p5), .val (.int sp), .val (.long a), .second, .val (.int d), .val (.long b), .second, .val (.int (1 : Int32)), .val (.ref b115), .val (.long a), .second, .unset, .unset, .unset, .unset, .unset, .unset, .unset] [(.int (1 : Int32))]))
          refine own_go (fun _ kt => XS.ifNo X125.here hx rfl (hb hby at_104) rfl ((if0 _ _).trans (feq (by decide : ¬ ((1 : Int32) = (0 : Int32)))).1) kt) ?_
          show own_G p.tables e below _ (T125.setTop (mkF m 107 #[.val (.int p0), .val (.long p1), .second, .val (.int p2), .val (.int p3), .val (.int p4), .val (.int p5), .val (.int sp), .val (.long a), .second, .val (.int d), .val (.long b), .second, .val (.int (1 : Int32)), .val (.ref b115), .val (.long a), .second, .unset, .unset, .unset, .unset, .unset, .unset, .unset] []))
          refine own_go (fun _ kt => XS.lload X125.here hx rfl (hb hby at_107) rfl kt) ?_
          show own_G p.tables e below _ (T125.setTop (mkF m 109 #[.val (.int p0), .val (.long p1), .second, .val (.int p2), .val (.int p3), .val (.int p4), .val (.int p5), .val (.int sp), .val (.long a), .second, .val (.int d), .val (.long b), .second, .val (.int (1 : Int32)), .val (.ref b115), .val (.long a), .second, .unset, .unset, .unset, .unset, .unset, .unset, .unset] [(.long b)]))
          refine own_go (fun _ kt => XS.goto X125.here hx rfl (pc0 := 109) (pc' := 114) rfl (hb hby at_109) (by decide) (by decide) kt) ?_
          show own_G p.tables e below _ (T125.setTop (mkF m 114 #[.val (.int p0), .val (.long p1), .second, .val (.int p2), .val (.int p3), .val (.int p4), .val (.int p5), .val (.int sp), .val (.long a), .second, .val (.int d), .val (.long b), .second, .val (.int (1 : Int32)), .val (.ref b115), .val (.long a), .second, .unset, .unset, .unset, .unset, .unset, .unset, .unset] [(.long b)]))
          refine own_go (fun _ kt => XS.lstore X125.here hx rfl (hb hby at_114) rfl (l' := #[.val (.int p0), .val (.long p1), .second, .val (.int p2), .val (.int p3), .val (.int p4), .val (.int p5), .val (.int sp), .val (.long a), .second, .val (.int d), .val (.long b), .second, .val (.int (1 : Int32)), .val (.ref b115), .val (.long a), .second, .val (.long b), .second, .unset, .unset, .unset, .unset, .unset]) rfl kt) ?_
          show own_G p.tables e below _ (T125.setTop (mkF m 116 #[.val (.int p0), .val (.long p1), .second, .val (.int p2), .val (.int p3), .val (.int p4), .val (.int p5), .val (.int sp), .val (.long a), .second, .val (.int d), .val (.long b), .second, .val (.int (1 : Int32)), .val (.ref b115), .val (.long a), .second, .val (.long b), .second, .unset, .unset, .unset, .unset, .unset] []))
          refine own_go (fun _ kt => XS.aload X125.here hx rfl (hb hby at_116) rfl rfl kt) ?_
          show own_G p.tables e below _ (T125.setTop (mkF m 118 #[.val (.int p0), .val (.long p1), .second, .val (.int p2), .val (.int p3), .val (.int p4), .val (.int p5), .val (.int sp), .val (.long a), .second, .val (.int d), .val (.long b), .second, .val (.int (1 : Int32)), .val (.ref b115), .val (.long a), .second, .val (.long b), .second, .unset, .unset, .unset, .unset, .unset] [(.ref b115)]))
          refine own_go (fun _ kt => XS.lload X125.here hx rfl (hb hby at_118) rfl kt) ?_
          show own_G p.tables e below _ (T125.setTop (mkF m 120 #[.val (.int p0), .val (.long p1), .second, .val (.int p2), .val (.int p3), .val (.int p4), .val (.int p5), .val (.int sp), .val (.long a), .second, .val (.int d), .val (.long b), .second, .val (.int (1 : Int32)), .val (.ref b115), .val (.long a), .second, .val (.long b), .second, .unset, .unset, .unset, .unset, .unset] [(.long a), (.ref b115)]))
          obtain ⟨cq131, kq131, q131a, q131b, q131c⟩ := isOf hZ rfl R2.1
          obtain ⟨_, _, ⟨T131, L131, k131, n131⟩, -, X131, ⟨Lc131, hQ131, l131, y131, z131⟩, st131⟩ := X125.virtualBack hx (y := (⟨"com/example/brisk_match/briskmatch/search/StartRing", "take", "(J)I"⟩ : MethodName)) (z := (⟨"com/example/brisk_match/briskmatch/search/StartRing", "take", "(J)I"⟩ : MethodName)) hown (mvT hZ (hw _ (List.mem_of_getElem? (i := 45) rfl))) (mvT hZ (hw _ (List.mem_of_getElem? (i := 46) rfl))) (notFace_of_selects (args := #[]) (mvT hZ (hw _ (List.mem_of_getElem? (i := 48) rfl)))) (mvT hZ (hw _ (List.mem_of_getElem? (i := 48) rfl))) (mvT hZ (hw _ (List.mem_of_getElem? (i := 47) rfl))) (by decide) (backOf (W := 0) (rm_take l Z a0 hw [] b115 a wp wu S _ _ u2 _ sa T125.heap n0 Zq125 R2 ok U2 hsa) hZ (hw _ (List.mem_of_getElem? (i := 49) rfl)) (hw _ (List.mem_of_getElem? (i := 4) rfl)) (by decide) (by decide)) q131a q131c (g := (mkF m 120 #[.val (.int p0), .val (.long p1), .second, .val (.int p2), .val (.int p3), .val (.int p4), .val (.int p5), .val (.int sp), .val (.long a), .second, .val (.int d), .val (.long b), .second, .val (.int (1 : Int32)), .val (.ref b115), .val (.long a), .second, .val (.long b), .second, .unset, .unset, .unset, .unset, .unset] [(.long a), (.ref b115)])) rfl (by rw [hml]; rfl) (Steps.refl _) (argsL := [(.long a)]) (rest := []) (lenOf pd__J_I rfl) rfl (by show 2 * 0 + _ ≤ _; exact Nat.le_of_eq rfl) (hb hby at_120) (fun _ _ => ⟨rfl, rfl, (Nat.le_of_ble_eq_true rfl), (Nat.le_of_ble_eq_true rfl)⟩)
          dsimp only [Pt.U, Pt.locs, Pt.cells, Pt.slots] at X131 l131 y131 z131 st131 hQ131
          subst l131 y131 z131
          obtain ⟨rfl, Nq131, Zq131, u3, R3, U3⟩ := hQ131
          have N131 := Fr.app N125 Nq131
          refine own_tr st131 ?_
          show own_G p.tables e below _ (T131.setTop (mkF m 123 #[.val (.int p0), .val (.long p1), .second, .val (.int p2), .val (.int p3), .val (.int p4), .val (.int p5), .val (.int sp), .val (.long a), .second, .val (.int d), .val (.long b), .second, .val (.int (1 : Int32)), .val (.ref b115), .val (.long a), .second, .val (.long b), .second, .unset, .unset, .unset, .unset, .unset] [(.int ((own_updI (own_updI (fun _ => 0) sa p3) sb p4) sa))]))
          rw [fa]
          rw [show ((0 : Int32) + 1 + 1 - 1) = 1 from by decide] at R3
          show own_G p.tables e below _ (T131.setTop (mkF m 123 #[.val (.int p0), .val (.long p1), .second, .val (.int p2), .val (.int p3), .val (.int p4), .val (.int p5), .val (.int sp), .val (.long a), .second, .val (.int d), .val (.long b), .second, .val (.int (1 : Int32)), .val (.ref b115), .val (.long a), .second, .val (.long b), .second, .unset, .unset, .unset, .unset, .unset] [(.int p3)]))
          refine own_go (fun _ kt => XS.istore X131.here hx rfl (hb hby at_123) rfl (l' := #[.val (.int p0), .val (.long p1), .second, .val (.int p2), .val (.int p3), .val (.int p4), .val (.int p5), .val (.int sp), .val (.long a), .second, .val (.int d), .val (.long b), .second, .val (.int (1 : Int32)), .val (.ref b115), .val (.long a), .second, .val (.long b), .second, .val (.int p3), .unset, .unset, .unset, .unset]) rfl kt) ?_
          show own_G p.tables e below _ (T131.setTop (mkF m 125 #[.val (.int p0), .val (.long p1), .second, .val (.int p2), .val (.int p3), .val (.int p4), .val (.int p5), .val (.int sp), .val (.long a), .second, .val (.int d), .val (.long b), .second, .val (.int (1 : Int32)), .val (.ref b115), .val (.long a), .second, .val (.long b), .second, .val (.int p3), .unset, .unset, .unset, .unset] []))
          refine own_go (fun _ kt => XS.iload X131.here hx rfl (hb hby at_125) rfl kt) ?_
          show own_G p.tables e below _ (T131.setTop (mkF m 127 #[.val (.int p0), .val (.long p1), .second, .val (.int p2), .val (.int p3), .val (.int p4), .val (.int p5), .val (.int sp), .val (.long a), .second, .val (.int d), .val (.long b), .second, .val (.int (1 : Int32)), .val (.ref b115), .val (.long a), .second, .val (.long b), .second, .val (.int p3), .unset, .unset, .unset, .unset] [(.int d)]))
          refine own_go (fun _ kt => XS.ifYes X131.here hx rfl (pc0 := 127) (pc' := 171) rfl (hb hby at_127) rfl ((if0 _ _).trans (feq (hdn : ¬ (d = (0 : Int32)))).2) (by decide) (by decide) kt) ?_
          show own_G p.tables e below _ (T131.setTop (mkF m 171 #[.val (.int p0), .val (.long p1), .second, .val (.int p2), .val (.int p3), .val (.int p4), .val (.int p5), .val (.int sp), .val (.long a), .second, .val (.int d), .val (.long b), .second, .val (.int (1 : Int32)), .val (.ref b115), .val (.long a), .second, .val (.long b), .second, .val (.int p3), .unset, .unset, .unset, .unset] []))
          refine own_go (fun _ kt => XS.iload X131.here hx rfl (hb hby at_171) rfl kt) ?_
          show own_G p.tables e below _ (T131.setTop (mkF m 173 #[.val (.int p0), .val (.long p1), .second, .val (.int p2), .val (.int p3), .val (.int p4), .val (.int p5), .val (.int sp), .val (.long a), .second, .val (.int d), .val (.long b), .second, .val (.int (1 : Int32)), .val (.ref b115), .val (.long a), .second, .val (.long b), .second, .val (.int p3), .unset, .unset, .unset, .unset] [(.int (1 : Int32))]))
          refine own_go (fun _ kt => XS.ifNo X131.here hx rfl (hb hby at_173) rfl ((if0 _ _).trans (feq (by decide : ¬ ((1 : Int32) = (0 : Int32)))).1) kt) ?_
          show own_G p.tables e below _ (T131.setTop (mkF m 176 #[.val (.int p0), .val (.long p1), .second, .val (.int p2), .val (.int p3), .val (.int p4), .val (.int p5), .val (.int sp), .val (.long a), .second, .val (.int d), .val (.long b), .second, .val (.int (1 : Int32)), .val (.ref b115), .val (.long a), .second, .val (.long b), .second, .val (.int p3), .unset, .unset, .unset, .unset] []))
          refine own_go (fun _ kt => XS.iload X131.here hx rfl (hb hby at_176) rfl kt) ?_
          show own_G p.tables e below _ (T131.setTop (mkF m 178 #[.val (.int p0), .val (.long p1), .second, .val (.int p2), .val (.int p3), .val (.int p4), .val (.int p5), .val (.int sp), .val (.long a), .second, .val (.int d), .val (.long b), .second, .val (.int (1 : Int32)), .val (.ref b115), .val (.long a), .second, .val (.long b), .second, .val (.int p3), .unset, .unset, .unset, .unset] [(.int p3)]))
          refine own_go (fun _ kt => XS.goto X131.here hx rfl (pc0 := 178) (pc' := 183) rfl (hb hby at_178) (by decide) (by decide) kt) ?_
          show own_G p.tables e below _ (T131.setTop (mkF m 183 #[.val (.int p0), .val (.long p1), .second, .val (.int p2), .val (.int p3), .val (.int p4), .val (.int p5), .val (.int sp), .val (.long a), .second, .val (.int d), .val (.long b), .second, .val (.int (1 : Int32)), .val (.ref b115), .val (.long a), .second, .val (.long b), .second, .val (.int p3), .unset, .unset, .unset, .unset] [(.int p3)]))
          refine own_go (fun _ kt => XS.istore X131.here hx rfl (hb hby at_183) rfl (l' := #[.val (.int p0), .val (.long p1), .second, .val (.int p2), .val (.int p3), .val (.int p4), .val (.int p5), .val (.int sp), .val (.long a), .second, .val (.int d), .val (.long b), .second, .val (.int (1 : Int32)), .val (.ref b115), .val (.long a), .second, .val (.long b), .second, .val (.int p3), .val (.int p3), .unset, .unset, .unset]) rfl kt) ?_
          show own_G p.tables e below _ (T131.setTop (mkF m 185 #[.val (.int p0), .val (.long p1), .second, .val (.int p2), .val (.int p3), .val (.int p4), .val (.int p5), .val (.int sp), .val (.long a), .second, .val (.int d), .val (.long b), .second, .val (.int (1 : Int32)), .val (.ref b115), .val (.long a), .second, .val (.long b), .second, .val (.int p3), .val (.int p3), .unset, .unset, .unset] []))
          refine own_go (fun _ kt => XS.iload X131.here hx rfl (hb hby at_185) rfl kt) ?_
          show own_G p.tables e below _ (T131.setTop (mkF m 187 #[.val (.int p0), .val (.long p1), .second, .val (.int p2), .val (.int p3), .val (.int p4), .val (.int p5), .val (.int sp), .val (.long a), .second, .val (.int d), .val (.long b), .second, .val (.int (1 : Int32)), .val (.ref b115), .val (.long a), .second, .val (.long b), .second, .val (.int p3), .val (.int p3), .unset, .unset, .unset] [(.int (1 : Int32))]))
          refine own_go (fun _ kt => XS.ifNo X131.here hx rfl (hb hby at_187) rfl ((if0 _ _).trans (feq (by decide : ¬ ((1 : Int32) = (0 : Int32)))).1) kt) ?_
          show own_G p.tables e below _ (T131.setTop (mkF m 190 #[.val (.int p0), .val (.long p1), .second, .val (.int p2), .val (.int p3), .val (.int p4), .val (.int p5), .val (.int sp), .val (.long a), .second, .val (.int d), .val (.long b), .second, .val (.int (1 : Int32)), .val (.ref b115), .val (.long a), .second, .val (.long b), .second, .val (.int p3), .val (.int p3), .unset, .unset, .unset] []))
          refine own_go (fun _ kt => XS.iload X131.here hx rfl (hb hby at_190) rfl kt) ?_
          show own_G p.tables e below _ (T131.setTop (mkF m 192 #[.val (.int p0), .val (.long p1), .second, .val (.int p2), .val (.int p3), .val (.int p4), .val (.int p5), .val (.int sp), .val (.long a), .second, .val (.int d), .val (.long b), .second, .val (.int (1 : Int32)), .val (.ref b115), .val (.long a), .second, .val (.long b), .second, .val (.int p3), .val (.int p3), .unset, .unset, .unset] [(.int p4)]))
          refine own_go (fun _ kt => XS.goto X131.here hx rfl (pc0 := 192) (pc' := 197) rfl (hb hby at_192) (by decide) (by decide) kt) ?_
          show own_G p.tables e below _ (T131.setTop (mkF m 197 #[.val (.int p0), .val (.long p1), .second, .val (.int p2), .val (.int p3), .val (.int p4), .val (.int p5), .val (.int sp), .val (.long a), .second, .val (.int d), .val (.long b), .second, .val (.int (1 : Int32)), .val (.ref b115), .val (.long a), .second, .val (.long b), .second, .val (.int p3), .val (.int p3), .unset, .unset, .unset] [(.int p4)]))
          refine own_go (fun _ kt => XS.istore X131.here hx rfl (hb hby at_197) rfl (l' := #[.val (.int p0), .val (.long p1), .second, .val (.int p2), .val (.int p3), .val (.int p4), .val (.int p5), .val (.int sp), .val (.long a), .second, .val (.int d), .val (.long b), .second, .val (.int (1 : Int32)), .val (.ref b115), .val (.long a), .second, .val (.long b), .second, .val (.int p3), .val (.int p3), .val (.int p4), .unset, .unset]) rfl kt) ?_
          show own_G p.tables e below _ (T131.setTop (mkF m 199 #[.val (.int p0), .val (.long p1), .second, .val (.int p2), .val (.int p3), .val (.int p4), .val (.int p5), .val (.int sp), .val (.long a), .second, .val (.int d), .val (.long b), .second, .val (.int (1 : Int32)), .val (.ref b115), .val (.long a), .second, .val (.long b), .second, .val (.int p3), .val (.int p3), .val (.int p4), .unset, .unset] []))
          refine own_go (fun _ kt => XS.iload X131.here hx rfl (hb hby at_199) rfl kt) ?_
          show own_G p.tables e below _ (T131.setTop (mkF m 201 #[.val (.int p0), .val (.long p1), .second, .val (.int p2), .val (.int p3), .val (.int p4), .val (.int p5), .val (.int sp), .val (.long a), .second, .val (.int d), .val (.long b), .second, .val (.int (1 : Int32)), .val (.ref b115), .val (.long a), .second, .val (.long b), .second, .val (.int p3), .val (.int p3), .val (.int p4), .unset, .unset] [(.int p3)]))
          refine own_go (fun _ kt => XS.iload X131.here hx rfl (hb hby at_201) rfl kt) ?_
          show own_G p.tables e below _ (T131.setTop (mkF m 203 #[.val (.int p0), .val (.long p1), .second, .val (.int p2), .val (.int p3), .val (.int p4), .val (.int p5), .val (.int sp), .val (.long a), .second, .val (.int d), .val (.long b), .second, .val (.int (1 : Int32)), .val (.ref b115), .val (.long a), .second, .val (.long b), .second, .val (.int p3), .val (.int p3), .val (.int p4), .unset, .unset] [(.int p3), (.int p3)]))
          refine own_go (fun _ kt => XS.icmpNo X131.here hx rfl (hb hby at_203) rfl (teq (rfl : p3 = p3)).2 kt) ?_
          show own_G p.tables e below _ (T131.setTop (mkF m 206 #[.val (.int p0), .val (.long p1), .second, .val (.int p2), .val (.int p3), .val (.int p4), .val (.int p5), .val (.int sp), .val (.long a), .second, .val (.int d), .val (.long b), .second, .val (.int (1 : Int32)), .val (.ref b115), .val (.long a), .second, .val (.long b), .second, .val (.int p3), .val (.int p3), .val (.int p4), .unset, .unset] []))
          refine own_go (fun _ kt => XS.aload X131.here hx rfl (hb hby at_206) rfl rfl kt) ?_
          show own_G p.tables e below _ (T131.setTop (mkF m 208 #[.val (.int p0), .val (.long p1), .second, .val (.int p2), .val (.int p3), .val (.int p4), .val (.int p5), .val (.int sp), .val (.long a), .second, .val (.int d), .val (.long b), .second, .val (.int (1 : Int32)), .val (.ref b115), .val (.long a), .second, .val (.long b), .second, .val (.int p3), .val (.int p3), .val (.int p4), .unset, .unset] [(.ref b115)]))
          obtain ⟨cq132, kq132, q132a, q132b, q132c⟩ := isOf hZ rfl R3.1
          obtain ⟨_, _, ⟨T132, L132, k132, n132⟩, -, X132, ⟨Lc132, hQ132, l132, y132, z132⟩, st132⟩ := X131.virtualBack hx (y := (⟨"com/example/brisk_match/briskmatch/search/StartRing", "isEmpty", "()Z"⟩ : MethodName)) (z := (⟨"com/example/brisk_match/briskmatch/search/StartRing", "isEmpty", "()Z"⟩ : MethodName)) hown (mvT hZ (hw _ (List.mem_of_getElem? (i := 51) rfl))) (mvT hZ (hw _ (List.mem_of_getElem? (i := 52) rfl))) (notFace_of_selects (args := #[]) (mvT hZ (hw _ (List.mem_of_getElem? (i := 54) rfl)))) (mvT hZ (hw _ (List.mem_of_getElem? (i := 54) rfl))) (mvT hZ (hw _ (List.mem_of_getElem? (i := 53) rfl))) (by decide) (backOf (W := 0) (rm_isE l Z a0 hw [] b115 1 T131.heap n0 Zq131 R3.2.2.2.2.1) hZ (hw _ (List.mem_of_getElem? (i := 55) rfl)) (hw _ (List.mem_of_getElem? (i := 4) rfl)) (by decide) (by decide)) q132a q132c (g := (mkF m 208 #[.val (.int p0), .val (.long p1), .second, .val (.int p2), .val (.int p3), .val (.int p4), .val (.int p5), .val (.int sp), .val (.long a), .second, .val (.int d), .val (.long b), .second, .val (.int (1 : Int32)), .val (.ref b115), .val (.long a), .second, .val (.long b), .second, .val (.int p3), .val (.int p3), .val (.int p4), .unset, .unset] [(.ref b115)])) rfl (by rw [hml]; rfl) (Steps.refl _) (argsL := []) (rest := []) (lenOf pd___Z rfl) rfl (by show 2 * 0 + _ ≤ _; exact Nat.le_of_eq rfl) (hb hby at_208) (fun _ _ => ⟨rfl, rfl, (Nat.le_of_ble_eq_true rfl), (Nat.le_of_ble_eq_true rfl)⟩)
          dsimp only [Pt.U, Pt.locs, Pt.cells, Pt.slots] at X132 l132 y132 z132 st132 hQ132
          subst l132 y132 z132
          obtain ⟨rfl, Nq132, eq132⟩ := hQ132
          have N132 := Fr.app N131 Nq132
          refine own_tr st132 ?_
          show own_G p.tables e below _ (T132.setTop (mkF m 211 #[.val (.int p0), .val (.long p1), .second, .val (.int p2), .val (.int p3), .val (.int p4), .val (.int p5), .val (.int sp), .val (.long a), .second, .val (.int d), .val (.long b), .second, .val (.int (1 : Int32)), .val (.ref b115), .val (.long a), .second, .val (.long b), .second, .val (.int p3), .val (.int p3), .val (.int p4), .unset, .unset] [(.int (if (1 : Int32) = 0 then (1 : Int32) else 0))]))
          rw [if_neg (by decide)]
          show own_G p.tables e below _ (T132.setTop (mkF m 211 #[.val (.int p0), .val (.long p1), .second, .val (.int p2), .val (.int p3), .val (.int p4), .val (.int p5), .val (.int sp), .val (.long a), .second, .val (.int d), .val (.long b), .second, .val (.int (1 : Int32)), .val (.ref b115), .val (.long a), .second, .val (.long b), .second, .val (.int p3), .val (.int p3), .val (.int p4), .unset, .unset] [(.int (0 : Int32))]))
          refine own_go (fun _ kt => XS.ifNo X132.here hx rfl (hb hby at_211) rfl ((if0 _ _).trans (teq (rfl : (0 : Int32) = (0 : Int32))).2) kt) ?_
          show own_G p.tables e below _ (T132.setTop (mkF m 214 #[.val (.int p0), .val (.long p1), .second, .val (.int p2), .val (.int p3), .val (.int p4), .val (.int p5), .val (.int sp), .val (.long a), .second, .val (.int d), .val (.long b), .second, .val (.int (1 : Int32)), .val (.ref b115), .val (.long a), .second, .val (.long b), .second, .val (.int p3), .val (.int p3), .val (.int p4), .unset, .unset] []))
          refine own_go (fun _ kt => XS.aload X132.here hx rfl (hb hby at_214) rfl rfl kt) ?_
          show own_G p.tables e below _ (T132.setTop (mkF m 216 #[.val (.int p0), .val (.long p1), .second, .val (.int p2), .val (.int p3), .val (.int p4), .val (.int p5), .val (.int sp), .val (.long a), .second, .val (.int d), .val (.long b), .second, .val (.int (1 : Int32)), .val (.ref b115), .val (.long a), .second, .val (.long b), .second, .val (.int p3), .val (.int p3), .val (.int p4), .unset, .unset] [(.ref b115)]))
          refine own_go (fun _ kt => XS.lload X132.here hx rfl (hb hby at_216) rfl kt) ?_
          show own_G p.tables e below _ (T132.setTop (mkF m 218 #[.val (.int p0), .val (.long p1), .second, .val (.int p2), .val (.int p3), .val (.int p4), .val (.int p5), .val (.int sp), .val (.long a), .second, .val (.int d), .val (.long b), .second, .val (.int (1 : Int32)), .val (.ref b115), .val (.long a), .second, .val (.long b), .second, .val (.int p3), .val (.int p3), .val (.int p4), .unset, .unset] [(.long a), (.ref b115)]))
          refine own_go (fun _ kt => XS.lload X132.here hx rfl (hb hby at_218) rfl kt) ?_
          show own_G p.tables e below _ (T132.setTop (mkF m 220 #[.val (.int p0), .val (.long p1), .second, .val (.int p2), .val (.int p3), .val (.int p4), .val (.int p5), .val (.int sp), .val (.long a), .second, .val (.int d), .val (.long b), .second, .val (.int (1 : Int32)), .val (.ref b115), .val (.long a), .second, .val (.long b), .second, .val (.int p3), .val (.int p3), .val (.int p4), .unset, .unset] [(.long a), (.long a), (.ref b115)]))
          refine own_go (fun _ kt => XS.iload X132.here hx rfl (hb hby at_220) rfl kt) ?_
          show own_G p.tables e below _ (T132.setTop (mkF m 222 #[.val (.int p0), .val (.long p1), .second, .val (.int p2), .val (.int p3), .val (.int p4), .val (.int p5), .val (.int sp), .val (.long a), .second, .val (.int d), .val (.long b), .second, .val (.int (1 : Int32)), .val (.ref b115), .val (.long a), .second, .val (.long b), .second, .val (.int p3), .val (.int p3), .val (.int p4), .unset, .unset] [(.int sp), (.long a), (.long a), (.ref b115)]))
          refine own_go (fun _ kt => XS.i2l X132.here hx rfl (hb hby at_222) rfl kt) ?_
          show own_G p.tables e below _ (T132.setTop (mkF m 223 #[.val (.int p0), .val (.long p1), .second, .val (.int p2), .val (.int p3), .val (.int p4), .val (.int p5), .val (.int sp), .val (.long a), .second, .val (.int d), .val (.long b), .second, .val (.int (1 : Int32)), .val (.ref b115), .val (.long a), .second, .val (.long b), .second, .val (.int p3), .val (.int p3), .val (.int p4), .unset, .unset] [(.long (sp.toInt64)), (.long a), (.long a), (.ref b115)]))
          refine own_go (fun _ kt => XS.ladd X132.here hx rfl (hb hby at_223) rfl kt) ?_
          show own_G p.tables e below _ (T132.setTop (mkF m 224 #[.val (.int p0), .val (.long p1), .second, .val (.int p2), .val (.int p3), .val (.int p4), .val (.int p5), .val (.int sp), .val (.long a), .second, .val (.int d), .val (.long b), .second, .val (.int (1 : Int32)), .val (.ref b115), .val (.long a), .second, .val (.long b), .second, .val (.int p3), .val (.int p3), .val (.int p4), .unset, .unset] [(.long (a + (sp.toInt64))), (.long a), (.ref b115)]))
          obtain ⟨cq133, kq133, q133a, q133b, q133c⟩ := isOf hZ eq132 R3.1
          obtain ⟨_, _, ⟨T133, L133, k133, n133⟩, -, X133, ⟨Lc133, hQ133, l133, y133, z133⟩, st133⟩ := X132.virtualBack hx (y := (⟨"com/example/brisk_match/briskmatch/search/StartRing", "first", "(JJ)J"⟩ : MethodName)) (z := (⟨"com/example/brisk_match/briskmatch/search/StartRing", "first", "(JJ)J"⟩ : MethodName)) hown (mvT hZ (hw _ (List.mem_of_getElem? (i := 56) rfl))) (mvT hZ (hw _ (List.mem_of_getElem? (i := 57) rfl))) (notFace_of_selects (args := #[]) (mvT hZ (hw _ (List.mem_of_getElem? (i := 59) rfl)))) (mvT hZ (hw _ (List.mem_of_getElem? (i := 59) rfl))) (mvT hZ (hw _ (List.mem_of_getElem? (i := 58) rfl))) (by decide) (backOf (W := 0) (rm_first1 l Z a0 hw [] b115 a (a + (sp.toInt64)) wp wu S _ u3 _ b sb T131.heap n0 Zq131 R3 ok U3 (fun j _ => own_la hne j) hsb (by omega) (by omega) (by omega) (by omega)) hZ (hw _ (List.mem_of_getElem? (i := 60) rfl)) (hw _ (List.mem_of_getElem? (i := 4) rfl)) (by decide) (by decide)) q133a q133c (g := (mkF m 224 #[.val (.int p0), .val (.long p1), .second, .val (.int p2), .val (.int p3), .val (.int p4), .val (.int p5), .val (.int sp), .val (.long a), .second, .val (.int d), .val (.long b), .second, .val (.int (1 : Int32)), .val (.ref b115), .val (.long a), .second, .val (.long b), .second, .val (.int p3), .val (.int p3), .val (.int p4), .unset, .unset] [(.long (a + (sp.toInt64))), (.long a), (.ref b115)])) rfl (by rw [hml]; rfl) (Steps.refl _) (argsL := [(.long a), (.long (a + (sp.toInt64)))]) (rest := []) (lenOf pd__JJ_J rfl) rfl (by show 2 * 0 + _ ≤ _; exact Nat.le_of_eq rfl) (hb hby at_224) (fun _ _ => ⟨rfl, eq132, (Nat.le_of_ble_eq_true rfl), (Nat.le_of_ble_eq_true rfl)⟩)
          dsimp only [Pt.U, Pt.locs, Pt.cells, Pt.slots] at X133 l133 y133 z133 st133 hQ133
          subst l133 y133 z133
          obtain ⟨rfl, Nq133, eq133⟩ := hQ133
          have N133 := Fr.app N132 Nq133
          refine own_tr st133 ?_
          show own_G p.tables e below _ (T133.setTop (mkF m 227 #[.val (.int p0), .val (.long p1), .second, .val (.int p2), .val (.int p3), .val (.int p4), .val (.int p5), .val (.int sp), .val (.long a), .second, .val (.int d), .val (.long b), .second, .val (.int (1 : Int32)), .val (.ref b115), .val (.long a), .second, .val (.long b), .second, .val (.int p3), .val (.int p3), .val (.int p4), .unset, .unset] [(.long b)]))
          refine own_go (fun _ kt => XS.lload X133.here hx rfl (hb hby at_227) rfl kt) ?_
          show own_G p.tables e below _ (T133.setTop (mkF m 229 #[.val (.int p0), .val (.long p1), .second, .val (.int p2), .val (.int p3), .val (.int p4), .val (.int p5), .val (.int sp), .val (.long a), .second, .val (.int d), .val (.long b), .second, .val (.int (1 : Int32)), .val (.ref b115), .val (.long a), .second, .val (.long b), .second, .val (.int p3), .val (.int p3), .val (.int p4), .unset, .unset] [(.long b), (.long b)]))
          refine own_go (fun _ kt => XS.lcmp X133.here hx rfl (hb hby at_229) rfl kt) ?_
          show own_G p.tables e below _ (T133.setTop (mkF m 230 #[.val (.int p0), .val (.long p1), .second, .val (.int p2), .val (.int p3), .val (.int p4), .val (.int p5), .val (.int sp), .val (.long a), .second, .val (.int d), .val (.long b), .second, .val (.int (1 : Int32)), .val (.ref b115), .val (.long a), .second, .val (.long b), .second, .val (.int p3), .val (.int p3), .val (.int p4), .unset, .unset] [(.int (lcmpW b b))]))
          refine own_go (fun _ kt => XS.ifNo X133.here hx rfl (hb hby at_230) rfl ((if0 _ _).trans (teq (own_lq.mpr rfl : (lcmpW b b) = (0 : Int32))).2) kt) ?_
          show own_G p.tables e below _ (T133.setTop (mkF m 233 #[.val (.int p0), .val (.long p1), .second, .val (.int p2), .val (.int p3), .val (.int p4), .val (.int p5), .val (.int sp), .val (.long a), .second, .val (.int d), .val (.long b), .second, .val (.int (1 : Int32)), .val (.ref b115), .val (.long a), .second, .val (.long b), .second, .val (.int p3), .val (.int p3), .val (.int p4), .unset, .unset] []))
          refine own_go (fun _ kt => XS.iconst X133.here hx rfl (hb hby at_233) kt) ?_
          show own_G p.tables e below _ (T133.setTop (mkF m 234 #[.val (.int p0), .val (.long p1), .second, .val (.int p2), .val (.int p3), .val (.int p4), .val (.int p5), .val (.int sp), .val (.long a), .second, .val (.int d), .val (.long b), .second, .val (.int (1 : Int32)), .val (.ref b115), .val (.long a), .second, .val (.long b), .second, .val (.int p3), .val (.int p3), .val (.int p4), .unset, .unset] [(.int (1 : Int32))]))
          refine own_go (fun _ kt => XS.goto X133.here hx rfl (pc0 := 234) (pc' := 238) rfl (hb hby at_234) (by decide) (by decide) kt) ?_
          show own_G p.tables e below _ (T133.setTop (mkF m 238 #[.val (.int p0), .val (.long p1), .second, .val (.int p2), .val (.int p3), .val (.int p4), .val (.int p5), .val (.int sp), .val (.long a), .second, .val (.int d), .val (.long b), .second, .val (.int (1 : Int32)), .val (.ref b115), .val (.long a), .second, .val (.long b), .second, .val (.int p3), .val (.int p3), .val (.int p4), .unset, .unset] [(.int (1 : Int32))]))
          refine own_go (fun _ kt => XS.istore X133.here hx rfl (hb hby at_238) rfl (l' := #[.val (.int p0), .val (.long p1), .second, .val (.int p2), .val (.int p3), .val (.int p4), .val (.int p5), .val (.int sp), .val (.long a), .second, .val (.int d), .val (.long b), .second, .val (.int (1 : Int32)), .val (.ref b115), .val (.long a), .second, .val (.long b), .second, .val (.int p3), .val (.int p3), .val (.int p4), .val (.int (1 : Int32)), .unset]) rfl kt) ?_
          show own_G p.tables e below _ (T133.setTop (mkF m 240 #[.val (.int p0), .val (.long p1), .second, .val (.int p2), .val (.int p3), .val (.int p4), .val (.int p5), .val (.int sp), .val (.long a), .second, .val (.int d), .val (.long b), .second, .val (.int (1 : Int32)), .val (.ref b115), .val (.long a), .second, .val (.long b), .second, .val (.int p3), .val (.int p3), .val (.int p4), .val (.int (1 : Int32)), .unset] []))
          refine own_go (fun _ kt => XS.aload X133.here hx rfl (hb hby at_240) rfl rfl kt) ?_
          show own_G p.tables e below _ (T133.setTop (mkF m 242 #[.val (.int p0), .val (.long p1), .second, .val (.int p2), .val (.int p3), .val (.int p4), .val (.int p5), .val (.int sp), .val (.long a), .second, .val (.int d), .val (.long b), .second, .val (.int (1 : Int32)), .val (.ref b115), .val (.long a), .second, .val (.long b), .second, .val (.int p3), .val (.int p3), .val (.int p4), .val (.int (1 : Int32)), .unset] [(.ref b115)]))
          refine own_go (fun _ kt => XS.lload X133.here hx rfl (hb hby at_242) rfl kt) ?_
          show own_G p.tables e below _ (T133.setTop (mkF m 244 #[.val (.int p0), .val (.long p1), .second, .val (.int p2), .val (.int p3), .val (.int p4), .val (.int p5), .val (.int sp), .val (.long a), .second, .val (.int d), .val (.long b), .second, .val (.int (1 : Int32)), .val (.ref b115), .val (.long a), .second, .val (.long b), .second, .val (.int p3), .val (.int p3), .val (.int p4), .val (.int (1 : Int32)), .unset] [(.long b), (.ref b115)]))
          obtain ⟨cq134, kq134, q134a, q134b, q134c⟩ := isOf hZ eq133 R3.1
          obtain ⟨_, _, ⟨T134, L134, k134, n134⟩, -, X134, ⟨Lc134, hQ134, l134, y134, z134⟩, st134⟩ := X133.virtualBack hx (y := (⟨"com/example/brisk_match/briskmatch/search/StartRing", "take", "(J)I"⟩ : MethodName)) (z := (⟨"com/example/brisk_match/briskmatch/search/StartRing", "take", "(J)I"⟩ : MethodName)) hown (mvT hZ (hw _ (List.mem_of_getElem? (i := 45) rfl))) (mvT hZ (hw _ (List.mem_of_getElem? (i := 46) rfl))) (notFace_of_selects (args := #[]) (mvT hZ (hw _ (List.mem_of_getElem? (i := 48) rfl)))) (mvT hZ (hw _ (List.mem_of_getElem? (i := 48) rfl))) (mvT hZ (hw _ (List.mem_of_getElem? (i := 47) rfl))) (by decide) (backOf (W := 0) (rm_take l Z a0 hw [] b115 b wp wu S _ _ u3 _ sb T131.heap n0 Zq131 R3 ok U3 hsb) hZ (hw _ (List.mem_of_getElem? (i := 49) rfl)) (hw _ (List.mem_of_getElem? (i := 4) rfl)) (by decide) (by decide)) q134a q134c (g := (mkF m 244 #[.val (.int p0), .val (.long p1), .second, .val (.int p2), .val (.int p3), .val (.int p4), .val (.int p5), .val (.int sp), .val (.long a), .second, .val (.int d), .val (.long b), .second, .val (.int (1 : Int32)), .val (.ref b115), .val (.long a), .second, .val (.long b), .second, .val (.int p3), .val (.int p3), .val (.int p4), .val (.int (1 : Int32)), .unset] [(.long b), (.ref b115)])) rfl (by rw [hml]; rfl) (Steps.refl _) (argsL := [(.long b)]) (rest := []) (lenOf pd__J_I rfl) rfl (by show 2 * 0 + _ ≤ _; exact Nat.le_of_eq rfl) (hb hby at_244) (fun _ _ => ⟨rfl, eq133, (Nat.le_of_ble_eq_true rfl), (Nat.le_of_ble_eq_true rfl)⟩)
          dsimp only [Pt.U, Pt.locs, Pt.cells, Pt.slots] at X134 l134 y134 z134 st134 hQ134
          subst l134 y134 z134
          obtain ⟨rfl, Nq134, Zq134, u4, R4, U4⟩ := hQ134
          have N134 := Fr.app N133 Nq134
          refine own_tr st134 ?_
          show own_G p.tables e below _ (T134.setTop (mkF m 247 #[.val (.int p0), .val (.long p1), .second, .val (.int p2), .val (.int p3), .val (.int p4), .val (.int p5), .val (.int sp), .val (.long a), .second, .val (.int d), .val (.long b), .second, .val (.int (1 : Int32)), .val (.ref b115), .val (.long a), .second, .val (.long b), .second, .val (.int p3), .val (.int p3), .val (.int p4), .val (.int (1 : Int32)), .unset] [(.int ((own_updI (own_updI (fun _ => 0) sa p3) sb p4) sb))]))
          rw [fb]
          rw [show ((1 : Int32) - 1) = 0 from by decide] at R4
          show own_G p.tables e below _ (T134.setTop (mkF m 247 #[.val (.int p0), .val (.long p1), .second, .val (.int p2), .val (.int p3), .val (.int p4), .val (.int p5), .val (.int sp), .val (.long a), .second, .val (.int d), .val (.long b), .second, .val (.int (1 : Int32)), .val (.ref b115), .val (.long a), .second, .val (.long b), .second, .val (.int p3), .val (.int p3), .val (.int p4), .val (.int (1 : Int32)), .unset] [(.int p4)]))
          refine own_go (fun _ kt => XS.istore X134.here hx rfl (hb hby at_247) rfl (l' := #[.val (.int p0), .val (.long p1), .second, .val (.int p2), .val (.int p3), .val (.int p4), .val (.int p5), .val (.int sp), .val (.long a), .second, .val (.int d), .val (.long b), .second, .val (.int (1 : Int32)), .val (.ref b115), .val (.long a), .second, .val (.long b), .second, .val (.int p3), .val (.int p3), .val (.int p4), .val (.int (1 : Int32)), .val (.int p4)]) rfl kt) ?_
          show own_G p.tables e below _ (T134.setTop (mkF m 249 #[.val (.int p0), .val (.long p1), .second, .val (.int p2), .val (.int p3), .val (.int p4), .val (.int p5), .val (.int sp), .val (.long a), .second, .val (.int d), .val (.long b), .second, .val (.int (1 : Int32)), .val (.ref b115), .val (.long a), .second, .val (.long b), .second, .val (.int p3), .val (.int p3), .val (.int p4), .val (.int (1 : Int32)), .val (.int p4)] []))
          refine own_go (fun _ kt => XS.iload X134.here hx rfl (hb hby at_249) rfl kt) ?_
          show own_G p.tables e below _ (T134.setTop (mkF m 251 #[.val (.int p0), .val (.long p1), .second, .val (.int p2), .val (.int p3), .val (.int p4), .val (.int p5), .val (.int sp), .val (.long a), .second, .val (.int d), .val (.long b), .second, .val (.int (1 : Int32)), .val (.ref b115), .val (.long a), .second, .val (.long b), .second, .val (.int p3), .val (.int p3), .val (.int p4), .val (.int (1 : Int32)), .val (.int p4)] [(.int (1 : Int32))]))
          refine own_go (fun _ kt => XS.ifNo X134.here hx rfl (hb hby at_251) rfl ((if0 _ _).trans (feq (by decide : ¬ ((1 : Int32) = (0 : Int32)))).1) kt) ?_
          show own_G p.tables e below _ (T134.setTop (mkF m 254 #[.val (.int p0), .val (.long p1), .second, .val (.int p2), .val (.int p3), .val (.int p4), .val (.int p5), .val (.int sp), .val (.long a), .second, .val (.int d), .val (.long b), .second, .val (.int (1 : Int32)), .val (.ref b115), .val (.long a), .second, .val (.long b), .second, .val (.int p3), .val (.int p3), .val (.int p4), .val (.int (1 : Int32)), .val (.int p4)] []))
          refine own_go (fun _ kt => XS.iload X134.here hx rfl (hb hby at_254) rfl kt) ?_
          show own_G p.tables e below _ (T134.setTop (mkF m 256 #[.val (.int p0), .val (.long p1), .second, .val (.int p2), .val (.int p3), .val (.int p4), .val (.int p5), .val (.int sp), .val (.long a), .second, .val (.int d), .val (.long b), .second, .val (.int (1 : Int32)), .val (.ref b115), .val (.long a), .second, .val (.long b), .second, .val (.int p3), .val (.int p3), .val (.int p4), .val (.int (1 : Int32)), .val (.int p4)] [(.int p4)]))
          refine own_go (fun _ kt => XS.iload X134.here hx rfl (hb hby at_256) rfl kt) ?_
          show own_G p.tables e below _ (T134.setTop (mkF m 258 #[.val (.int p0), .val (.long p1), .second, .val (.int p2), .val (.int p3), .val (.int p4), .val (.int p5), .val (.int sp), .val (.long a), .second, .val (.int d), .val (.long b), .second, .val (.int (1 : Int32)), .val (.ref b115), .val (.long a), .second, .val (.long b), .second, .val (.int p3), .val (.int p3), .val (.int p4), .val (.int (1 : Int32)), .val (.int p4)] [(.int p4), (.int p4)]))
          refine own_go (fun _ kt => XS.icmpNo X134.here hx rfl (hb hby at_258) rfl (teq (rfl : p4 = p4)).2 kt) ?_
          show own_G p.tables e below _ (T134.setTop (mkF m 261 #[.val (.int p0), .val (.long p1), .second, .val (.int p2), .val (.int p3), .val (.int p4), .val (.int p5), .val (.int sp), .val (.long a), .second, .val (.int d), .val (.long b), .second, .val (.int (1 : Int32)), .val (.ref b115), .val (.long a), .second, .val (.long b), .second, .val (.int p3), .val (.int p3), .val (.int p4), .val (.int (1 : Int32)), .val (.int p4)] []))
          refine own_go (fun _ kt => XS.aload X134.here hx rfl (hb hby at_261) rfl rfl kt) ?_
          show own_G p.tables e below _ (T134.setTop (mkF m 263 #[.val (.int p0), .val (.long p1), .second, .val (.int p2), .val (.int p3), .val (.int p4), .val (.int p5), .val (.int sp), .val (.long a), .second, .val (.int d), .val (.long b), .second, .val (.int (1 : Int32)), .val (.ref b115), .val (.long a), .second, .val (.long b), .second, .val (.int p3), .val (.int p3), .val (.int p4), .val (.int (1 : Int32)), .val (.int p4)] [(.ref b115)]))
          obtain ⟨cq135, kq135, q135a, q135b, q135c⟩ := isOf hZ rfl R4.1
          obtain ⟨_, _, ⟨T135, L135, k135, n135⟩, -, X135, ⟨Lc135, hQ135, l135, y135, z135⟩, st135⟩ := X134.virtualBack hx (y := (⟨"com/example/brisk_match/briskmatch/search/StartRing", "isEmpty", "()Z"⟩ : MethodName)) (z := (⟨"com/example/brisk_match/briskmatch/search/StartRing", "isEmpty", "()Z"⟩ : MethodName)) hown (mvT hZ (hw _ (List.mem_of_getElem? (i := 51) rfl))) (mvT hZ (hw _ (List.mem_of_getElem? (i := 52) rfl))) (notFace_of_selects (args := #[]) (mvT hZ (hw _ (List.mem_of_getElem? (i := 54) rfl)))) (mvT hZ (hw _ (List.mem_of_getElem? (i := 54) rfl))) (mvT hZ (hw _ (List.mem_of_getElem? (i := 53) rfl))) (by decide) (backOf (W := 0) (rm_isE l Z a0 hw [] b115 0 T134.heap n0 Zq134 R4.2.2.2.2.1) hZ (hw _ (List.mem_of_getElem? (i := 55) rfl)) (hw _ (List.mem_of_getElem? (i := 4) rfl)) (by decide) (by decide)) q135a q135c (g := (mkF m 263 #[.val (.int p0), .val (.long p1), .second, .val (.int p2), .val (.int p3), .val (.int p4), .val (.int p5), .val (.int sp), .val (.long a), .second, .val (.int d), .val (.long b), .second, .val (.int (1 : Int32)), .val (.ref b115), .val (.long a), .second, .val (.long b), .second, .val (.int p3), .val (.int p3), .val (.int p4), .val (.int (1 : Int32)), .val (.int p4)] [(.ref b115)])) rfl (by rw [hml]; rfl) (Steps.refl _) (argsL := []) (rest := []) (lenOf pd___Z rfl) rfl (by show 2 * 0 + _ ≤ _; exact Nat.le_of_eq rfl) (hb hby at_263) (fun _ _ => ⟨rfl, rfl, (Nat.le_of_ble_eq_true rfl), (Nat.le_of_ble_eq_true rfl)⟩)
          dsimp only [Pt.U, Pt.locs, Pt.cells, Pt.slots] at X135 l135 y135 z135 st135 hQ135
          subst l135 y135 z135
          obtain ⟨rfl, Nq135, eq135⟩ := hQ135
          have N135 := Fr.app N134 Nq135
          refine own_tr st135 ?_
          show own_G p.tables e below _ (T135.setTop (mkF m 266 #[.val (.int p0), .val (.long p1), .second, .val (.int p2), .val (.int p3), .val (.int p4), .val (.int p5), .val (.int sp), .val (.long a), .second, .val (.int d), .val (.long b), .second, .val (.int (1 : Int32)), .val (.ref b115), .val (.long a), .second, .val (.long b), .second, .val (.int p3), .val (.int p3), .val (.int p4), .val (.int (1 : Int32)), .val (.int p4)] [(.int (if (0 : Int32) = 0 then (1 : Int32) else 0))]))
          rw [if_pos rfl]
          show own_G p.tables e below _ (T135.setTop (mkF m 266 #[.val (.int p0), .val (.long p1), .second, .val (.int p2), .val (.int p3), .val (.int p4), .val (.int p5), .val (.int sp), .val (.long a), .second, .val (.int d), .val (.long b), .second, .val (.int (1 : Int32)), .val (.ref b115), .val (.long a), .second, .val (.long b), .second, .val (.int p3), .val (.int p3), .val (.int p4), .val (.int (1 : Int32)), .val (.int p4)] [(.int (1 : Int32))]))
          refine own_go (fun _ kt => XS.ifNo X135.here hx rfl (hb hby at_266) rfl ((if0 _ _).trans (feq (by decide : ¬ ((1 : Int32) = (0 : Int32)))).1) kt) ?_
          show own_G p.tables e below _ (T135.setTop (mkF m 269 #[.val (.int p0), .val (.long p1), .second, .val (.int p2), .val (.int p3), .val (.int p4), .val (.int p5), .val (.int sp), .val (.long a), .second, .val (.int d), .val (.long b), .second, .val (.int (1 : Int32)), .val (.ref b115), .val (.long a), .second, .val (.long b), .second, .val (.int p3), .val (.int p3), .val (.int p4), .val (.int (1 : Int32)), .val (.int p4)] []))
          refine own_go (fun _ kt => XS.iconst X135.here hx rfl (hb hby at_269) kt) ?_
          show own_G p.tables e below _ (T135.setTop (mkF m 270 #[.val (.int p0), .val (.long p1), .second, .val (.int p2), .val (.int p3), .val (.int p4), .val (.int p5), .val (.int sp), .val (.long a), .second, .val (.int d), .val (.long b), .second, .val (.int (1 : Int32)), .val (.ref b115), .val (.long a), .second, .val (.long b), .second, .val (.int p3), .val (.int p3), .val (.int p4), .val (.int (1 : Int32)), .val (.int p4)] [(.int (1 : Int32))]))
          refine own_go (fun _ kt => XS.goto X135.here hx rfl (pc0 := 270) (pc' := 274) rfl (hb hby at_270) (by decide) (by decide) kt) ?_
          show own_G p.tables e below _ (T135.setTop (mkF m 274 #[.val (.int p0), .val (.long p1), .second, .val (.int p2), .val (.int p3), .val (.int p4), .val (.int p5), .val (.int sp), .val (.long a), .second, .val (.int d), .val (.long b), .second, .val (.int (1 : Int32)), .val (.ref b115), .val (.long a), .second, .val (.long b), .second, .val (.int p3), .val (.int p3), .val (.int p4), .val (.int (1 : Int32)), .val (.int p4)] [(.int (1 : Int32))]))
          exact own_retN X135 hx (t := .boolean) Bd.returns (by simp) hlk (hb hby at_274) (Nat.le_of_ble_eq_true rfl) (Nat.le_of_ble_eq_true rfl) eq135 ⟨rfl, N135⟩
    show own_G p.tables e below _ (T113.setTop (mkF m 28 #[.val (.int p0), .val (.long p1), .second, .val (.int p2), .val (.int p3), .val (.int p4), .val (.int p5), .val (.int sp), .val (.long a), .second, .unset, .unset, .unset, .unset, .unset, .unset, .unset, .unset, .unset, .unset, .unset, .unset, .unset, .unset] []))
    refine own_go (fun _ kt => XS.iloadN X113.here hx rfl (hb hby at_28) rfl kt) ?_
    show own_G p.tables e below _ (T113.setTop (mkF m 29 #[.val (.int p0), .val (.long p1), .second, .val (.int p2), .val (.int p3), .val (.int p4), .val (.int p5), .val (.int sp), .val (.long a), .second, .unset, .unset, .unset, .unset, .unset, .unset, .unset, .unset, .unset, .unset, .unset, .unset, .unset, .unset] [(.int p2)]))
    refine own_go (X113.ldcInt hx hown (mvT hZ (hw _ (List.mem_of_getElem? (i := 1) rfl))) (g := (mkF m 29 #[.val (.int p0), .val (.long p1), .second, .val (.int p2), .val (.int p3), .val (.int p4), .val (.int p5), .val (.int sp), .val (.long a), .second, .unset, .unset, .unset, .unset, .unset, .unset, .unset, .unset, .unset, .unset, .unset, .unset, .unset, .unset] [(.int p2)])) rfl (hb hby at_29)) ?_
    show own_G p.tables e below _ (T113.setTop (mkF m 31 #[.val (.int p0), .val (.long p1), .second, .val (.int p2), .val (.int p3), .val (.int p4), .val (.int p5), .val (.int sp), .val (.long a), .second, .unset, .unset, .unset, .unset, .unset, .unset, .unset, .unset, .unset, .unset, .unset, .unset, .unset, .unset] [(.int (2147483647 : Int32)), (.int p2)]))
    refine own_go (fun _ kt => XS.iand X113.here hx rfl (hb hby at_31) rfl kt) ?_
    show own_G p.tables e below _ (T113.setTop (mkF m 32 #[.val (.int p0), .val (.long p1), .second, .val (.int p2), .val (.int p3), .val (.int p4), .val (.int p5), .val (.int sp), .val (.long a), .second, .unset, .unset, .unset, .unset, .unset, .unset, .unset, .unset, .unset, .unset, .unset, .unset, .unset, .unset] [(.int (p2 &&& (2147483647 : Int32)))]))
    refine own_go (fun _ kt => XS.iload X113.here hx rfl (hb hby at_32) rfl kt) ?_
    have hd := own_ddd (x := p2) hsp.1
    show own_G p.tables e below _ (T113.setTop (mkF m 34 #[.val (.int p0), .val (.long p1), .second, .val (.int p2), .val (.int p3), .val (.int p4), .val (.int p5), .val (.int sp), .val (.long a), .second, .unset, .unset, .unset, .unset, .unset, .unset, .unset, .unset, .unset, .unset, .unset, .unset, .unset, .unset] [(.int sp), (.int (p2 &&& (2147483647 : Int32)))]))
    refine own_go (fun _ kt => XS.irem X113.here hx rfl (hb hby at_34) rfl (fun e => by have e' := congrArg Int32.toInt e; have z : (0 : Int32).toInt = 0 := rfl; omega) kt) ?_
    rw [own_irem]
    have hb0 := own_sum (a := a) (d := ((p2 &&& (2147483647 : Int32)) % sp)) hd.1 (by omega) ha
    show own_G p.tables e below _ (T113.setTop (mkF m 35 #[.val (.int p0), .val (.long p1), .second, .val (.int p2), .val (.int p3), .val (.int p4), .val (.int p5), .val (.int sp), .val (.long a), .second, .unset, .unset, .unset, .unset, .unset, .unset, .unset, .unset, .unset, .unset, .unset, .unset, .unset, .unset] [(.int ((p2 &&& (2147483647 : Int32)) % sp))]))
    refine own_go (fun _ kt => XS.istore X113.here hx rfl (hb hby at_35) rfl (l' := #[.val (.int p0), .val (.long p1), .second, .val (.int p2), .val (.int p3), .val (.int p4), .val (.int p5), .val (.int sp), .val (.long a), .second, .val (.int ((p2 &&& (2147483647 : Int32)) % sp)), .unset, .unset, .unset, .unset, .unset, .unset, .unset, .unset, .unset, .unset, .unset, .unset, .unset]) rfl kt) ?_
    show own_G p.tables e below _ (T113.setTop (mkF m 37 #[.val (.int p0), .val (.long p1), .second, .val (.int p2), .val (.int p3), .val (.int p4), .val (.int p5), .val (.int sp), .val (.long a), .second, .val (.int ((p2 &&& (2147483647 : Int32)) % sp)), .unset, .unset, .unset, .unset, .unset, .unset, .unset, .unset, .unset, .unset, .unset, .unset, .unset] []))
    refine own_go (fun _ kt => XS.lload X113.here hx rfl (hb hby at_37) rfl kt) ?_
    show own_G p.tables e below _ (T113.setTop (mkF m 39 #[.val (.int p0), .val (.long p1), .second, .val (.int p2), .val (.int p3), .val (.int p4), .val (.int p5), .val (.int sp), .val (.long a), .second, .val (.int ((p2 &&& (2147483647 : Int32)) % sp)), .unset, .unset, .unset, .unset, .unset, .unset, .unset, .unset, .unset, .unset, .unset, .unset, .unset] [(.long a)]))
    refine own_go (fun _ kt => XS.iload X113.here hx rfl (hb hby at_39) rfl kt) ?_
    show own_G p.tables e below _ (T113.setTop (mkF m 41 #[.val (.int p0), .val (.long p1), .second, .val (.int p2), .val (.int p3), .val (.int p4), .val (.int p5), .val (.int sp), .val (.long a), .second, .val (.int ((p2 &&& (2147483647 : Int32)) % sp)), .unset, .unset, .unset, .unset, .unset, .unset, .unset, .unset, .unset, .unset, .unset, .unset, .unset] [(.int ((p2 &&& (2147483647 : Int32)) % sp)), (.long a)]))
    refine own_go (fun _ kt => XS.i2l X113.here hx rfl (hb hby at_41) rfl kt) ?_
    show own_G p.tables e below _ (T113.setTop (mkF m 42 #[.val (.int p0), .val (.long p1), .second, .val (.int p2), .val (.int p3), .val (.int p4), .val (.int p5), .val (.int sp), .val (.long a), .second, .val (.int ((p2 &&& (2147483647 : Int32)) % sp)), .unset, .unset, .unset, .unset, .unset, .unset, .unset, .unset, .unset, .unset, .unset, .unset, .unset] [(.long (((p2 &&& (2147483647 : Int32)) % sp).toInt64)), (.long a)]))
    refine own_go (fun _ kt => XS.ladd X113.here hx rfl (hb hby at_42) rfl kt) ?_
    show own_G p.tables e below _ (T113.setTop (mkF m 43 #[.val (.int p0), .val (.long p1), .second, .val (.int p2), .val (.int p3), .val (.int p4), .val (.int p5), .val (.int sp), .val (.long a), .second, .val (.int ((p2 &&& (2147483647 : Int32)) % sp)), .unset, .unset, .unset, .unset, .unset, .unset, .unset, .unset, .unset, .unset, .unset, .unset, .unset] [(.long (a + (((p2 &&& (2147483647 : Int32)) % sp).toInt64)))]))
    refine own_go (fun _ kt => XS.lstore X113.here hx rfl (hb hby at_43) rfl (l' := #[.val (.int p0), .val (.long p1), .second, .val (.int p2), .val (.int p3), .val (.int p4), .val (.int p5), .val (.int sp), .val (.long a), .second, .val (.int ((p2 &&& (2147483647 : Int32)) % sp)), .val (.long (a + (((p2 &&& (2147483647 : Int32)) % sp).toInt64))), .second, .unset, .unset, .unset, .unset, .unset, .unset, .unset, .unset, .unset, .unset, .unset]) rfl kt) ?_
    show own_G p.tables e below _ (T113.setTop (mkF m 45 #[.val (.int p0), .val (.long p1), .second, .val (.int p2), .val (.int p3), .val (.int p4), .val (.int p5), .val (.int sp), .val (.long a), .second, .val (.int ((p2 &&& (2147483647 : Int32)) % sp)), .val (.long (a + (((p2 &&& (2147483647 : Int32)) % sp).toInt64))), .second, .unset, .unset, .unset, .unset, .unset, .unset, .unset, .unset, .unset, .unset, .unset] []))
    refine own_go (fun _ kt => XS.iload X113.here hx rfl (hb hby at_45) rfl kt) ?_
    show own_G p.tables e below _ (T113.setTop (mkF m 47 #[.val (.int p0), .val (.long p1), .second, .val (.int p2), .val (.int p3), .val (.int p4), .val (.int p5), .val (.int sp), .val (.long a), .second, .val (.int ((p2 &&& (2147483647 : Int32)) % sp)), .val (.long (a + (((p2 &&& (2147483647 : Int32)) % sp).toInt64))), .second, .unset, .unset, .unset, .unset, .unset, .unset, .unset, .unset, .unset, .unset, .unset] [(.int p5)]))
    refine own_go (fun _ kt => XS.iconst X113.here hx rfl (hb hby at_47) kt) ?_
    show own_G p.tables e below _ (T113.setTop (mkF m 48 #[.val (.int p0), .val (.long p1), .second, .val (.int p2), .val (.int p3), .val (.int p4), .val (.int p5), .val (.int sp), .val (.long a), .second, .val (.int ((p2 &&& (2147483647 : Int32)) % sp)), .val (.long (a + (((p2 &&& (2147483647 : Int32)) % sp).toInt64))), .second, .unset, .unset, .unset, .unset, .unset, .unset, .unset, .unset, .unset, .unset, .unset] [(.int (1 : Int32)), (.int p5)]))
    refine own_go (fun _ kt => XS.iand X113.here hx rfl (hb hby at_48) rfl kt) ?_
    by_cases hf : (p5 &&& (1 : Int32)) = (0 : Int32)
    · show own_G p.tables e below _ (T113.setTop (mkF m 49 #[.val (.int p0), .val (.long p1), .second, .val (.int p2), .val (.int p3), .val (.int p4), .val (.int p5), .val (.int sp), .val (.long a), .second, .val (.int ((p2 &&& (2147483647 : Int32)) % sp)), .val (.long (a + (((p2 &&& (2147483647 : Int32)) % sp).toInt64))), .second, .unset, .unset, .unset, .unset, .unset, .unset, .unset, .unset, .unset, .unset, .unset] [(.int (p5 &&& (1 : Int32)))]))
      refine own_go (fun _ kt => XS.ifYes X113.here hx rfl (pc0 := 49) (pc' := 56) rfl (hb hby at_49) rfl ((if0 _ _).trans (teq (hf : (p5 &&& (1 : Int32)) = (0 : Int32))).1) (by decide) (by decide) kt) ?_
      show own_G p.tables e below _ (T113.setTop (mkF m 56 #[.val (.int p0), .val (.long p1), .second, .val (.int p2), .val (.int p3), .val (.int p4), .val (.int p5), .val (.int sp), .val (.long a), .second, .val (.int ((p2 &&& (2147483647 : Int32)) % sp)), .val (.long (a + (((p2 &&& (2147483647 : Int32)) % sp).toInt64))), .second, .unset, .unset, .unset, .unset, .unset, .unset, .unset, .unset, .unset, .unset, .unset] []))
      refine own_go (fun _ kt => XS.iconst X113.here hx rfl (hb hby at_56) kt) ?_
      show own_G p.tables e below _ (T113.setTop (mkF m 57 #[.val (.int p0), .val (.long p1), .second, .val (.int p2), .val (.int p3), .val (.int p4), .val (.int p5), .val (.int sp), .val (.long a), .second, .val (.int ((p2 &&& (2147483647 : Int32)) % sp)), .val (.long (a + (((p2 &&& (2147483647 : Int32)) % sp).toInt64))), .second, .unset, .unset, .unset, .unset, .unset, .unset, .unset, .unset, .unset, .unset, .unset] [(.int (0 : Int32))]))
      refine own_go (fun _ kt => XS.istore X113.here hx rfl (hb hby at_57) rfl (l' := #[.val (.int p0), .val (.long p1), .second, .val (.int p2), .val (.int p3), .val (.int p4), .val (.int p5), .val (.int sp), .val (.long a), .second, .val (.int ((p2 &&& (2147483647 : Int32)) % sp)), .val (.long (a + (((p2 &&& (2147483647 : Int32)) % sp).toInt64))), .second, .val (.int (0 : Int32)), .unset, .unset, .unset, .unset, .unset, .unset, .unset, .unset, .unset, .unset]) rfl kt) ?_
      show own_G p.tables e below _ (T113.setTop (mkF m 59 #[.val (.int p0), .val (.long p1), .second, .val (.int p2), .val (.int p3), .val (.int p4), .val (.int p5), .val (.int sp), .val (.long a), .second, .val (.int ((p2 &&& (2147483647 : Int32)) % sp)), .val (.long (a + (((p2 &&& (2147483647 : Int32)) % sp).toInt64))), .second, .val (.int (0 : Int32)), .unset, .unset, .unset, .unset, .unset, .unset, .unset, .unset, .unset, .unset] []))
      exact j59 _ _ _ _ _ _ X113 e113 N113 Z113 hd hb0 (Or.inl rfl)
    · show own_G p.tables e below _ (T113.setTop (mkF m 49 #[.val (.int p0), .val (.long p1), .second, .val (.int p2), .val (.int p3), .val (.int p4), .val (.int p5), .val (.int sp), .val (.long a), .second, .val (.int ((p2 &&& (2147483647 : Int32)) % sp)), .val (.long (a + (((p2 &&& (2147483647 : Int32)) % sp).toInt64))), .second, .unset, .unset, .unset, .unset, .unset, .unset, .unset, .unset, .unset, .unset, .unset] [(.int (p5 &&& (1 : Int32)))]))
      refine own_go (fun _ kt => XS.ifNo X113.here hx rfl (hb hby at_49) rfl ((if0 _ _).trans (feq (hf : ¬ ((p5 &&& (1 : Int32)) = (0 : Int32)))).1) kt) ?_
      show own_G p.tables e below _ (T113.setTop (mkF m 52 #[.val (.int p0), .val (.long p1), .second, .val (.int p2), .val (.int p3), .val (.int p4), .val (.int p5), .val (.int sp), .val (.long a), .second, .val (.int ((p2 &&& (2147483647 : Int32)) % sp)), .val (.long (a + (((p2 &&& (2147483647 : Int32)) % sp).toInt64))), .second, .unset, .unset, .unset, .unset, .unset, .unset, .unset, .unset, .unset, .unset, .unset] []))
      refine own_go (fun _ kt => XS.iconst X113.here hx rfl (hb hby at_52) kt) ?_
      show own_G p.tables e below _ (T113.setTop (mkF m 53 #[.val (.int p0), .val (.long p1), .second, .val (.int p2), .val (.int p3), .val (.int p4), .val (.int p5), .val (.int sp), .val (.long a), .second, .val (.int ((p2 &&& (2147483647 : Int32)) % sp)), .val (.long (a + (((p2 &&& (2147483647 : Int32)) % sp).toInt64))), .second, .unset, .unset, .unset, .unset, .unset, .unset, .unset, .unset, .unset, .unset, .unset] [(.int (1 : Int32))]))
      refine own_go (fun _ kt => XS.goto X113.here hx rfl (pc0 := 53) (pc' := 57) rfl (hb hby at_53) (by decide) (by decide) kt) ?_
      show own_G p.tables e below _ (T113.setTop (mkF m 57 #[.val (.int p0), .val (.long p1), .second, .val (.int p2), .val (.int p3), .val (.int p4), .val (.int p5), .val (.int sp), .val (.long a), .second, .val (.int ((p2 &&& (2147483647 : Int32)) % sp)), .val (.long (a + (((p2 &&& (2147483647 : Int32)) % sp).toInt64))), .second, .unset, .unset, .unset, .unset, .unset, .unset, .unset, .unset, .unset, .unset, .unset] [(.int (1 : Int32))]))
      refine own_go (fun _ kt => XS.istore X113.here hx rfl (hb hby at_57) rfl (l' := #[.val (.int p0), .val (.long p1), .second, .val (.int p2), .val (.int p3), .val (.int p4), .val (.int p5), .val (.int sp), .val (.long a), .second, .val (.int ((p2 &&& (2147483647 : Int32)) % sp)), .val (.long (a + (((p2 &&& (2147483647 : Int32)) % sp).toInt64))), .second, .val (.int (1 : Int32)), .unset, .unset, .unset, .unset, .unset, .unset, .unset, .unset, .unset, .unset]) rfl kt) ?_
      show own_G p.tables e below _ (T113.setTop (mkF m 59 #[.val (.int p0), .val (.long p1), .second, .val (.int p2), .val (.int p3), .val (.int p4), .val (.int p5), .val (.int sp), .val (.long a), .second, .val (.int ((p2 &&& (2147483647 : Int32)) % sp)), .val (.long (a + (((p2 &&& (2147483647 : Int32)) % sp).toInt64))), .second, .val (.int (1 : Int32)), .unset, .unset, .unset, .unset, .unset, .unset, .unset, .unset, .unset, .unset] []))
      exact j59 _ _ _ _ _ _ X113 e113 N113 Z113 hd hb0 (Or.inr rfl)
  show own_G p.tables e below _ (s₁.setTop (mkF m 0 #[.val (.int p0), .val (.long p1), .second, .val (.int p2), .val (.int p3), .val (.int p4), .val (.int p5), .unset, .unset, .unset, .unset, .unset, .unset, .unset, .unset, .unset, .unset, .unset, .unset, .unset, .unset, .unset, .unset, .unset] []))
  refine own_go (fun _ kt => XS.iconst X0.here hx rfl (hb hby at_0) kt) ?_
  show own_G p.tables e below _ (s₁.setTop (mkF m 1 #[.val (.int p0), .val (.long p1), .second, .val (.int p2), .val (.int p3), .val (.int p4), .val (.int p5), .unset, .unset, .unset, .unset, .unset, .unset, .unset, .unset, .unset, .unset, .unset, .unset, .unset, .unset, .unset, .unset, .unset] [(.int (1 : Int32))]))
  refine own_go (fun _ kt => XS.iloadN X0.here hx rfl (hb hby at_1) rfl kt) ?_
  show own_G p.tables e below _ (s₁.setTop (mkF m 2 #[.val (.int p0), .val (.long p1), .second, .val (.int p2), .val (.int p3), .val (.int p4), .val (.int p5), .unset, .unset, .unset, .unset, .unset, .unset, .unset, .unset, .unset, .unset, .unset, .unset, .unset, .unset, .unset, .unset, .unset] [(.int p0), (.int (1 : Int32))]))
  refine own_go (fun _ kt => XS.sipush X0.here hx rfl (hb hby at_2) kt) ?_
  show own_G p.tables e below _ (s₁.setTop (mkF m 5 #[.val (.int p0), .val (.long p1), .second, .val (.int p2), .val (.int p3), .val (.int p4), .val (.int p5), .unset, .unset, .unset, .unset, .unset, .unset, .unset, .unset, .unset, .unset, .unset, .unset, .unset, .unset, .unset, .unset, .unset] [(.int (1023 : Int32)), (.int p0), (.int (1 : Int32))]))
  refine own_go (fun _ kt => XS.iand X0.here hx rfl (hb hby at_5) rfl kt) ?_
  show own_G p.tables e below _ (s₁.setTop (mkF m 6 #[.val (.int p0), .val (.long p1), .second, .val (.int p2), .val (.int p3), .val (.int p4), .val (.int p5), .unset, .unset, .unset, .unset, .unset, .unset, .unset, .unset, .unset, .unset, .unset, .unset, .unset, .unset, .unset, .unset, .unset] [(.int (p0 &&& (1023 : Int32))), (.int (1 : Int32))]))
  refine own_go (fun _ kt => XS.iadd X0.here hx rfl (hb hby at_6) rfl kt) ?_
  show own_G p.tables e below _ (s₁.setTop (mkF m 7 #[.val (.int p0), .val (.long p1), .second, .val (.int p2), .val (.int p3), .val (.int p4), .val (.int p5), .unset, .unset, .unset, .unset, .unset, .unset, .unset, .unset, .unset, .unset, .unset, .unset, .unset, .unset, .unset, .unset, .unset] [(.int ((1 : Int32) + (p0 &&& (1023 : Int32))))]))
  refine own_go (fun _ kt => XS.istore X0.here hx rfl (hb hby at_7) rfl (l' := #[.val (.int p0), .val (.long p1), .second, .val (.int p2), .val (.int p3), .val (.int p4), .val (.int p5), .val (.int ((1 : Int32) + (p0 &&& (1023 : Int32)))), .unset, .unset, .unset, .unset, .unset, .unset, .unset, .unset, .unset, .unset, .unset, .unset, .unset, .unset, .unset, .unset]) rfl kt) ?_
  show own_G p.tables e below _ (s₁.setTop (mkF m 9 #[.val (.int p0), .val (.long p1), .second, .val (.int p2), .val (.int p3), .val (.int p4), .val (.int p5), .val (.int ((1 : Int32) + (p0 &&& (1023 : Int32)))), .unset, .unset, .unset, .unset, .unset, .unset, .unset, .unset, .unset, .unset, .unset, .unset, .unset, .unset, .unset, .unset] []))
  refine own_go (fun _ kt => XS.lloadN X0.here hx rfl (hb hby at_9) rfl kt) ?_
  show own_G p.tables e below _ (s₁.setTop (mkF m 10 #[.val (.int p0), .val (.long p1), .second, .val (.int p2), .val (.int p3), .val (.int p4), .val (.int p5), .val (.int ((1 : Int32) + (p0 &&& (1023 : Int32)))), .unset, .unset, .unset, .unset, .unset, .unset, .unset, .unset, .unset, .unset, .unset, .unset, .unset, .unset, .unset, .unset] [(.long p1)]))
  refine own_go (X0.ldc2Long hx hown (mvT hZ (hw _ (List.mem_of_getElem? (i := 0) rfl))) (g := (mkF m 10 #[.val (.int p0), .val (.long p1), .second, .val (.int p2), .val (.int p3), .val (.int p4), .val (.int p5), .val (.int ((1 : Int32) + (p0 &&& (1023 : Int32)))), .unset, .unset, .unset, .unset, .unset, .unset, .unset, .unset, .unset, .unset, .unset, .unset, .unset, .unset, .unset, .unset] [(.long p1)])) rfl (hb hby at_10)) ?_
  show own_G p.tables e below _ (s₁.setTop (mkF m 13 #[.val (.int p0), .val (.long p1), .second, .val (.int p2), .val (.int p3), .val (.int p4), .val (.int p5), .val (.int ((1 : Int32) + (p0 &&& (1023 : Int32)))), .unset, .unset, .unset, .unset, .unset, .unset, .unset, .unset, .unset, .unset, .unset, .unset, .unset, .unset, .unset, .unset] [(.long (9223372036854771711 : Int64)), (.long p1)]))
  refine own_go (fun _ kt => XS.lcmp X0.here hx rfl (hb hby at_13) rfl kt) ?_
  by_cases hr : (0 : Int32) < (lcmpW p1 (9223372036854771711 : Int64))
  · show own_G p.tables e below _ (s₁.setTop (mkF m 14 #[.val (.int p0), .val (.long p1), .second, .val (.int p2), .val (.int p3), .val (.int p4), .val (.int p5), .val (.int ((1 : Int32) + (p0 &&& (1023 : Int32)))), .unset, .unset, .unset, .unset, .unset, .unset, .unset, .unset, .unset, .unset, .unset, .unset, .unset, .unset, .unset, .unset] [(.int (lcmpW p1 (9223372036854771711 : Int64)))]))
    refine own_go (fun _ kt => XS.ifNo X0.here hx rfl (hb hby at_14) rfl ((if0 _ _).trans (tlt (hr : (0 : Int32) < (lcmpW p1 (9223372036854771711 : Int64)))).2.2.2) kt) ?_
    show own_G p.tables e below _ (s₁.setTop (mkF m 17 #[.val (.int p0), .val (.long p1), .second, .val (.int p2), .val (.int p3), .val (.int p4), .val (.int p5), .val (.int ((1 : Int32) + (p0 &&& (1023 : Int32)))), .unset, .unset, .unset, .unset, .unset, .unset, .unset, .unset, .unset, .unset, .unset, .unset, .unset, .unset, .unset, .unset] []))
    refine own_go (fun _ kt => XS.lloadN X0.here hx rfl (hb hby at_17) rfl kt) ?_
    show own_G p.tables e below _ (s₁.setTop (mkF m 18 #[.val (.int p0), .val (.long p1), .second, .val (.int p2), .val (.int p3), .val (.int p4), .val (.int p5), .val (.int ((1 : Int32) + (p0 &&& (1023 : Int32)))), .unset, .unset, .unset, .unset, .unset, .unset, .unset, .unset, .unset, .unset, .unset, .unset, .unset, .unset, .unset, .unset] [(.long p1)]))
    refine own_go (X0.ldc2Long hx hown (mvT hZ (hw _ (List.mem_of_getElem? (i := 68) rfl))) (g := (mkF m 18 #[.val (.int p0), .val (.long p1), .second, .val (.int p2), .val (.int p3), .val (.int p4), .val (.int p5), .val (.int ((1 : Int32) + (p0 &&& (1023 : Int32)))), .unset, .unset, .unset, .unset, .unset, .unset, .unset, .unset, .unset, .unset, .unset, .unset, .unset, .unset, .unset, .unset] [(.long p1)])) rfl (hb hby at_18)) ?_
    show own_G p.tables e below _ (s₁.setTop (mkF m 21 #[.val (.int p0), .val (.long p1), .second, .val (.int p2), .val (.int p3), .val (.int p4), .val (.int p5), .val (.int ((1 : Int32) + (p0 &&& (1023 : Int32)))), .unset, .unset, .unset, .unset, .unset, .unset, .unset, .unset, .unset, .unset, .unset, .unset, .unset, .unset, .unset, .unset] [(.long (4096 : Int64)), (.long p1)]))
    refine own_go (fun _ kt => XS.lsub X0.here hx rfl (hb hby at_21) rfl kt) ?_
    show own_G p.tables e below _ (s₁.setTop (mkF m 22 #[.val (.int p0), .val (.long p1), .second, .val (.int p2), .val (.int p3), .val (.int p4), .val (.int p5), .val (.int ((1 : Int32) + (p0 &&& (1023 : Int32)))), .unset, .unset, .unset, .unset, .unset, .unset, .unset, .unset, .unset, .unset, .unset, .unset, .unset, .unset, .unset, .unset] [(.long (p1 - (4096 : Int64)))]))
    refine own_go (fun _ kt => XS.goto X0.here hx rfl (pc0 := 22) (pc' := 26) rfl (hb hby at_22) (by decide) (by decide) kt) ?_
    show own_G p.tables e below _ (s₁.setTop (mkF m 26 #[.val (.int p0), .val (.long p1), .second, .val (.int p2), .val (.int p3), .val (.int p4), .val (.int p5), .val (.int ((1 : Int32) + (p0 &&& (1023 : Int32)))), .unset, .unset, .unset, .unset, .unset, .unset, .unset, .unset, .unset, .unset, .unset, .unset, .unset, .unset, .unset, .unset] [(.long (p1 - (4096 : Int64)))]))
    refine own_go (fun _ kt => XS.lstore X0.here hx rfl (hb hby at_26) rfl (l' := #[.val (.int p0), .val (.long p1), .second, .val (.int p2), .val (.int p3), .val (.int p4), .val (.int p5), .val (.int ((1 : Int32) + (p0 &&& (1023 : Int32)))), .val (.long (p1 - (4096 : Int64))), .second, .unset, .unset, .unset, .unset, .unset, .unset, .unset, .unset, .unset, .unset, .unset, .unset, .unset, .unset]) rfl kt) ?_
    show own_G p.tables e below _ (s₁.setTop (mkF m 28 #[.val (.int p0), .val (.long p1), .second, .val (.int p2), .val (.int p3), .val (.int p4), .val (.int p5), .val (.int ((1 : Int32) + (p0 &&& (1023 : Int32)))), .val (.long (p1 - (4096 : Int64))), .second, .unset, .unset, .unset, .unset, .unset, .unset, .unset, .unset, .unset, .unset, .unset, .unset, .unset, .unset] []))
    exact j28 _ _ _ _ _ X0 e0 N0 Z0 (own_span _) (own_less (own_lg.mp hr))
  · show own_G p.tables e below _ (s₁.setTop (mkF m 14 #[.val (.int p0), .val (.long p1), .second, .val (.int p2), .val (.int p3), .val (.int p4), .val (.int p5), .val (.int ((1 : Int32) + (p0 &&& (1023 : Int32)))), .unset, .unset, .unset, .unset, .unset, .unset, .unset, .unset, .unset, .unset, .unset, .unset, .unset, .unset, .unset, .unset] [(.int (lcmpW p1 (9223372036854771711 : Int64)))]))
    refine own_go (fun _ kt => XS.ifYes X0.here hx rfl (pc0 := 14) (pc' := 25) rfl (hb hby at_14) rfl ((if0 _ _).trans (flt (hr : ¬ ((0 : Int32) < (lcmpW p1 (9223372036854771711 : Int64))))).2.2.2) (by decide) (by decide) kt) ?_
    show own_G p.tables e below _ (s₁.setTop (mkF m 25 #[.val (.int p0), .val (.long p1), .second, .val (.int p2), .val (.int p3), .val (.int p4), .val (.int p5), .val (.int ((1 : Int32) + (p0 &&& (1023 : Int32)))), .unset, .unset, .unset, .unset, .unset, .unset, .unset, .unset, .unset, .unset, .unset, .unset, .unset, .unset, .unset, .unset] []))
    refine own_go (fun _ kt => XS.lloadN X0.here hx rfl (hb hby at_25) rfl kt) ?_
    show own_G p.tables e below _ (s₁.setTop (mkF m 26 #[.val (.int p0), .val (.long p1), .second, .val (.int p2), .val (.int p3), .val (.int p4), .val (.int p5), .val (.int ((1 : Int32) + (p0 &&& (1023 : Int32)))), .unset, .unset, .unset, .unset, .unset, .unset, .unset, .unset, .unset, .unset, .unset, .unset, .unset, .unset, .unset, .unset] [(.long p1)]))
    refine own_go (fun _ kt => XS.lstore X0.here hx rfl (hb hby at_26) rfl (l' := #[.val (.int p0), .val (.long p1), .second, .val (.int p2), .val (.int p3), .val (.int p4), .val (.int p5), .val (.int ((1 : Int32) + (p0 &&& (1023 : Int32)))), .val (.long p1), .second, .unset, .unset, .unset, .unset, .unset, .unset, .unset, .unset, .unset, .unset, .unset, .unset, .unset, .unset]) rfl kt) ?_
    show own_G p.tables e below _ (s₁.setTop (mkF m 28 #[.val (.int p0), .val (.long p1), .second, .val (.int p2), .val (.int p3), .val (.int p4), .val (.int p5), .val (.int ((1 : Int32) + (p0 &&& (1023 : Int32)))), .val (.long p1), .second, .unset, .unset, .unset, .unset, .unset, .unset, .unset, .unset, .unset, .unset, .unset, .unset, .unset, .unset] []))
    exact j28 _ _ _ _ _ X0 e0 N0 Z0 (own_span _) (by have q := own_nlg hr; have z : (9223372036854771711 : Int64).toInt = 9223372036854771711 := rfl; omega)
set_option maxRecDepth 65536 in
set_option maxHeartbeats 40000000 in
theorem comes_1 {Post : Tables → Env → Array Value → State → Outcome → State → Prop} (hpost : ∀ tb e args s v u, (limb_1_1.after args s (.returned v) u = true ∧ limb_1_2.after args s (.returned v) u = true ∧ True) → FrameEnd s (.returned v) u (Jvm.fieldLocs frame_1_writes args s ++ Jvm.arrayLocs frame_1_arrays args s ++ Jvm.staticLocs frame_1_statics s) 16 2176 → Post tb e args s (.returned v) u) :
    ArmFor flags0 classFile x code maxLocals ret World_1 tables_1 room_1 Calls_1 rest_1 Pre_1 Post := by
  intro l hfl _ _ p e ha hc hk s m args below hf hA hF happ hP
  obtain ⟨hcalls, hrest, hpre⟩ := hP
  obtain ⟨-, -, -, hnamed, -, -, -, hat⟩ := (Spec.applies_iff hf).mp happ
  obtain ⟨hg, hn⟩ := and_e (Cond.before_iff.mp (show (Jvm.Cond.and given_1 narrow_1).before args s = true from hpre))
  obtain ⟨a0, b0⟩ := and_e hg
  obtain ⟨a1, b1⟩ := and_e b0
  obtain ⟨a2, b2⟩ := and_e b1
  obtain ⟨a3, b3⟩ := and_e b2
  obtain ⟨a4, b4⟩ := and_e b3
  obtain ⟨a5, b5⟩ := and_e b4
  obtain ⟨w0, w1, w2, w3, w4, w5, rfl⟩ : ∃ w0 w1 w2 w3 w4 w5 : Value, args = #[w0, w1, w2, w3, w4, w5] := by
    have hs : args.size = 6 := by simpa [Cond.value, given_1] using a0
    obtain ⟨L⟩ := args
    match L, hs with
    | [w0, w1, w2, w3, w4, w5], _ => exact ⟨w0, w1, w2, w3, w4, w5, rfl⟩
  have hw := fun d (hd : d ∈ tables_1) => atoms_spec (ws := Jvm.Cond.code x code maxLocals ret :: tables_1) hat d (List.mem_cons_of_mem _ hd)
  obtain ⟨i0, ei0⟩ := is_v a1
  obtain rfl : w0 = (.int i0) := Option.some.inj ei0
  obtain ⟨i1, ei1⟩ := isL_v a2
  obtain rfl : w1 = (.long i1) := Option.some.inj ei1
  obtain ⟨i2, ei2⟩ := is_v a3
  obtain rfl : w2 = (.int i2) := Option.some.inj ei2
  obtain ⟨i3, ei3⟩ := is_v a4
  obtain rfl : w3 = (.int i3) := Option.some.inj ei3
  obtain ⟨i4, ei4⟩ := is_v a5
  obtain rfl : w4 = (.int i4) := Option.some.inj ei4
  obtain ⟨i5, ei5⟩ := is_v b5
  obtain rfl : w5 = (.int i5) := Option.some.inj ei5
  obtain ⟨n, o, h1, h2, h3, _, L, rfl, ⟨rfl, N⟩, hq⟩ := rm_law l s _ hw tables_1 i0 i1 i2 i3 i4 i5 s.heap s.heap.size (Nat.le_refl _) p e ha hc hk s m _ below hf ((Spec.applies_iff_loose hf).mp happ).1 ⟨rfl, State.Warmed39.refl s, rfl⟩ trivial
  refine ⟨n, _, h1, h2, h3, hpost _ _ _ _ _ _ ⟨Cond.after_iff.mpr rfl, Cond.after_iff.mpr (eq_i res_at (Term.int_eval (1)) rfl), trivial⟩ ⟨hq.1, hq.2.1, (hq.2.2.sift fun y hy => Or.inr (N y hy)).mono (by decide) (by decide)⟩⟩
theorem main_1_1 : Claimed_1_1 := comes_1 fun _ _ _ _ _ _ h hF => ⟨h.1, hF⟩
theorem main_1_2 : Claimed_1_2 := comes_1 fun _ _ _ _ _ _ h hF => ⟨h.2.1, hF⟩
end Jvm.Pilot.@@N@@
namespace Jvm.Pilot.@@N@@
open Jvm Jvm.ClassFile Sem Op Lib Jvm.Free Jvm.Stand Jvm.Pilot.@@N@@.Jvm.D
/-! MADE BY PROGRAM (witnessworld.py) out of the Statement's table words and the real class files: 18 classes; the members and pool entries that the words name. The judged class is class 1, her method 1. -/
namespace start1
open Jvm.ClassFile
def u (s : String) : CpInfo := .utf8 (stringToUtf16 s)
/-- a pool by its gaps: so many unusable entries, then the entry; so many at the end -/
def gap : Nat → List CpInfo → List CpInfo
  | 0, r => r
  | n + 1, r => .unusable :: gap n r
def poolList (es : List (Nat × CpInfo)) (last : Nat) : List CpInfo := es.foldr (fun e r => gap e.1 (e.2 :: r)) (gap last [])
def pool (es : List (Nat × CpInfo)) (last : Nat) : Array CpInfo := ⟨poolList es last⟩
def fileOf (pool : Array CpInfo) (this : Nat) (attrs : Array Attribute := #[]) (ms : Array MethodInfo := #[]) (fl : Nat := 33) (sup : Nat := 0) (ifs : Array Nat := #[]) (fds : Array FieldInfo := #[]) : ClassFile where
  minorVersion := 0
  majorVersion := 65
  constantPool := pool
  accessFlags := fl
  thisClass := this
  superClass := sup
  interfaces := ifs
  fields := fds
  methods := ms
  attributes := attrs
def plain (name : String) (sup : Option ClassId) : Class where
  name := name
  kind := .ordinary
  loader := none
  accessFlags := 33
  super := sup
  interfaces := #[]
  cf := none
  fields := #[]
  methods := #[]
  instanceTypes := #[]
  staticTypes := #[]
  resolved := #[]
  callSites := []
  init := .initialized
  statics := none
  mirror := none

def pool0 : Array CpInfo := pool [(5, u "<init>"), (0, u "()V"), (1, .class_ 10), (1, u "java/lang/Object")] 113

def k0c0 : Code := { maxStack := 0, maxLocals := 1, code := object_method_1_code, exceptionTable := #[], attributes := #[] }
def k0m0 : Method := { name := "<init>", desc := "()V", sig := { parameters := [], returnType := none }, accessFlags := 1, code := some k0c0 }
/-- java/lang/Object -/
def k0 : Class := { plain "java/lang/Object" none with
  accessFlags := 33
  interfaces := #[]
  cf := some (fileOf pool0 8 #[] #[{ accessFlags := 1, nameIndex := 5, descriptorIndex := 6, attributes := #[] }] 33 0 #[] #[])
  fields := #[]
  methods := #[k0m0]
  instanceTypes := #[]
  staticTypes := #[]
  resolved := Array.replicate 124 none
  statics := none }

def pool1 : Array CpInfo := pool [(2, .class_ 4), (1, u "java/lang/Object"), (0, u "<init>"), (0, u "()V"), (2, .long 9223372036854771711), (1, .long 4096), (1, .integer 2147483647), (0, .class_ 15), (0, u "com/example/brisk_match/briskmatch/search/StartRing"), (0, .methodref 14 17), (0, .nameAndType 5 18), (0, u "(I)V"), (0, .methodref 14 20), (0, .nameAndType 21 22), (0, u "put"), (0, u "(JI)V"), (0, .methodref 14 24), (0, .nameAndType 25 26), (0, u "take"), (0, u "(J)I"), (0, .methodref 14 28), (0, .nameAndType 29 30), (0, u "isEmpty"), (0, u "()Z"), (0, .methodref 14 32), (0, .nameAndType 33 34), (0, u "first"), (0, u "(JJ)J"), (0, .long 18446744073709551615), (1, .class_ 38), (0, u "com/example/brisk_match/briskmatch/search/StartRingTakePinLaw"), (2, u "law"), (0, u "(IJIIII)Z")] 3

def k1m0 : Method := { name := "<init>", desc := "()V", sig := { parameters := [], returnType := none }, accessFlags := 1, code := none }
def k1c1 : Code := { maxStack := 7, maxLocals := 24, code := code, exceptionTable := #[], attributes := #[] }
def k1m1 : Method := { name := "law", desc := "(IJIIII)Z", sig := { parameters := [.int, .long, .int, .int, .int, .int], returnType := some .boolean }, accessFlags := 9, code := some k1c1 }
/-- com/example/brisk_match/briskmatch/search/StartRingTakePinLaw -/
def k1 : Class := { plain "com/example/brisk_match/briskmatch/search/StartRingTakePinLaw" (some 0) with
  accessFlags := 49
  interfaces := #[]
  cf := some (fileOf pool1 37 #[] #[{ accessFlags := 1, nameIndex := 5, descriptorIndex := 6, attributes := #[] }, { accessFlags := 9, nameIndex := 41, descriptorIndex := 42, attributes := #[] }] 49 2 #[] #[])
  fields := #[]
  methods := #[k1m0, k1m1]
  instanceTypes := #[]
  staticTypes := #[]
  resolved := Array.replicate 46 none
  statics := none }

def pool2 : Array CpInfo := pool [(1, .methodref 2 3), (0, .class_ 4), (0, .nameAndType 5 6), (0, u "java/lang/Object"), (0, u "<init>"), (0, u "()V"), (0, .class_ 8), (0, u "java/lang/Long"), (0, .methodref 10 11), (0, .class_ 12), (0, .nameAndType 13 14), (0, u "java/lang/Math"), (0, u "max"), (0, u "(II)I"), (0, .methodref 7 16), (0, .nameAndType 17 18), (0, u "highestOneBit"), (0, u "(J)J"), (0, .fieldref 20 21), (0, .class_ 22), (0, .nameAndType 23 24), (0, u "com/example/brisk_match/briskmatch/search/StartRing"), (0, u "size"), (0, u "J"), (0, .fieldref 20 26), (0, .nameAndType 27 28), (0, u "count"), (0, u "I"), (0, .fieldref 20 30), (0, .nameAndType 31 32), (0, u "patterns"), (0, u "[I"), (0, .long 1073741824), (8, .long 64), (1, .fieldref 20 45), (0, .nameAndType 46 47), (0, u "used"), (0, u "[J"), (0, .methodref 7 49), (0, .nameAndType 50 51), (0, u "numberOfTrailingZeros"), (0, u "(J)I"), (0, .long 18446744073709551615), (1, u "MAX_SIZE"), (1, u "(I)V"), (2, u "isEmpty"), (0, u "()Z"), (1, u "put"), (0, u "(JI)V"), (0, u "first"), (0, u "(JJ)J"), (0, u "take")] 2

def k2c0 : Code := { maxStack := 5, maxLocals := 2, code := prog_76_method_1_code, exceptionTable := #[], attributes := #[] }
def k2m0 : Method := { name := "<init>", desc := "(I)V", sig := { parameters := [.int], returnType := none }, accessFlags := 0, code := some k2c0 }
def k2c1 : Code := { maxStack := 1, maxLocals := 1, code := prog_76_method_2_code, exceptionTable := #[], attributes := #[] }
def k2m1 : Method := { name := "isEmpty", desc := "()Z", sig := { parameters := [], returnType := some .boolean }, accessFlags := 0, code := some k2c1 }
def k2c2 : Code := { maxStack := 7, maxLocals := 5, code := prog_76_method_3_code, exceptionTable := #[], attributes := #[] }
def k2m2 : Method := { name := "put", desc := "(JI)V", sig := { parameters := [.long, .int], returnType := none }, accessFlags := 0, code := some k2c2 }
def k2c3 : Code := { maxStack := 5, maxLocals := 11, code := prog_76_method_4_code, exceptionTable := #[], attributes := #[] }
def k2m3 : Method := { name := "first", desc := "(JJ)J", sig := { parameters := [.long, .long], returnType := some .long }, accessFlags := 0, code := some k2c3 }
def k2c4 : Code := { maxStack := 8, maxLocals := 4, code := prog_76_method_5_code, exceptionTable := #[], attributes := #[] }
def k2m4 : Method := { name := "take", desc := "(J)I", sig := { parameters := [.long], returnType := some .int }, accessFlags := 0, code := some k2c4 }
/-- com/example/brisk_match/briskmatch/search/StartRing -/
def k2 : Class := { plain "com/example/brisk_match/briskmatch/search/StartRing" (some 0) with
  accessFlags := 48
  interfaces := #[]
  cf := some (fileOf pool2 20 #[] #[{ accessFlags := 0, nameIndex := 5, descriptorIndex := 56, attributes := #[] }, { accessFlags := 0, nameIndex := 59, descriptorIndex := 60, attributes := #[] }, { accessFlags := 0, nameIndex := 62, descriptorIndex := 63, attributes := #[] }, { accessFlags := 0, nameIndex := 64, descriptorIndex := 65, attributes := #[] }, { accessFlags := 0, nameIndex := 66, descriptorIndex := 51, attributes := #[] }] 48 2 #[] #[{ accessFlags := 26, nameIndex := 54, descriptorIndex := 24, attributes := #[] }, { accessFlags := 18, nameIndex := 23, descriptorIndex := 24, attributes := #[] }, { accessFlags := 2, nameIndex := 31, descriptorIndex := 32, attributes := #[] }, { accessFlags := 2, nameIndex := 46, descriptorIndex := 47, attributes := #[] }, { accessFlags := 2, nameIndex := 27, descriptorIndex := 28, attributes := #[] }])
  fields := #[{ name := "MAX_SIZE", type := .long, accessFlags := 26, slot := 0, constantValue := 0 }, { name := "size", type := .long, accessFlags := 18, slot := 0, constantValue := 0 }, { name := "patterns", type := (.array .int), accessFlags := 2, slot := 1, constantValue := 0 }, { name := "used", type := (.array .long), accessFlags := 2, slot := 2, constantValue := 0 }, { name := "count", type := .int, accessFlags := 2, slot := 3, constantValue := 0 }]
  methods := #[k2m0, k2m1, k2m2, k2m3, k2m4]
  instanceTypes := #[.long, (.array .int), (.array .long), .int]
  staticTypes := #[.long]
  resolved := Array.replicate 69 none
  statics := none }

def pool3 : Array CpInfo := pool [(1, .class_ 2), (0, u "java/lang/Math"), (1, .class_ 6), (1, u "java/lang/Object"), (0, u "<init>"), (0, u "()V"), (89, .class_ 100), (1, u "java/lang/Math$RandomNumberGeneratorHolder"), (71, u "negativeZeroFloatBits"), (0, u "J"), (2, u "negativeZeroDoubleBits"), (21, u "max"), (46, u "$assertionsDisabled"), (0, u "Z"), (88, u "(II)I"), (2, u "twoToTheDoubleScaleDown"), (0, u "D"), (4, u "twoToTheDoubleScaleUp"), (9, u "E"), (3, u "PI"), (2, u "TAU"), (2, u "DEGREES_TO_RADIANS"), (0, u "RADIANS_TO_DEGREES")] 94

def k3m0 : Method := { name := "<init>", desc := "()V", sig := { parameters := [], returnType := none }, accessFlags := 2, code := none }
def k3c1 : Code := { maxStack := 2, maxLocals := 2, code := jdk_29_method_65_code, exceptionTable := #[], attributes := #[] }
def k3m1 : Method := { name := "max", desc := "(II)I", sig := { parameters := [.int, .int], returnType := some .int }, accessFlags := 9, code := some k3c1 }
/-- java/lang/Math -/
def k3 : Class := { plain "java/lang/Math" (some 0) with
  accessFlags := 49
  interfaces := #[]
  cf := some (fileOf pool3 1 #[.nestMembers #[98]] #[{ accessFlags := 2, nameIndex := 7, descriptorIndex := 8, attributes := #[] }, { accessFlags := 9, nameIndex := 198, descriptorIndex := 335, attributes := #[] }] 49 4 #[] #[{ accessFlags := 25, nameIndex := 354, descriptorIndex := 339, attributes := #[] }, { accessFlags := 25, nameIndex := 358, descriptorIndex := 339, attributes := #[] }, { accessFlags := 25, nameIndex := 361, descriptorIndex := 339, attributes := #[] }, { accessFlags := 26, nameIndex := 364, descriptorIndex := 339, attributes := #[] }, { accessFlags := 26, nameIndex := 365, descriptorIndex := 339, attributes := #[] }, { accessFlags := 26, nameIndex := 172, descriptorIndex := 173, attributes := #[] }, { accessFlags := 26, nameIndex := 176, descriptorIndex := 173, attributes := #[] }, { accessFlags := 8, nameIndex := 344, descriptorIndex := 339, attributes := #[] }, { accessFlags := 8, nameIndex := 338, descriptorIndex := 339, attributes := #[] }, { accessFlags := 4120, nameIndex := 245, descriptorIndex := 246, attributes := #[] }])
  fields := #[{ name := "E", type := .double, accessFlags := 25, slot := 0, constantValue := 0 }, { name := "PI", type := .double, accessFlags := 25, slot := 1, constantValue := 0 }, { name := "TAU", type := .double, accessFlags := 25, slot := 2, constantValue := 0 }, { name := "DEGREES_TO_RADIANS", type := .double, accessFlags := 26, slot := 3, constantValue := 0 }, { name := "RADIANS_TO_DEGREES", type := .double, accessFlags := 26, slot := 4, constantValue := 0 }, { name := "negativeZeroFloatBits", type := .long, accessFlags := 26, slot := 5, constantValue := 0 }, { name := "negativeZeroDoubleBits", type := .long, accessFlags := 26, slot := 6, constantValue := 0 }, { name := "twoToTheDoubleScaleUp", type := .double, accessFlags := 8, slot := 7, constantValue := 0 }, { name := "twoToTheDoubleScaleDown", type := .double, accessFlags := 8, slot := 8, constantValue := 0 }, { name := "$assertionsDisabled", type := .boolean, accessFlags := 4120, slot := 9, constantValue := 0 }]
  methods := #[k3m0, k3m1]
  instanceTypes := #[]
  staticTypes := #[.double, .double, .double, .double, .double, .long, .long, .double, .double, .boolean]
  resolved := Array.replicate 460 none
  statics := none }

def pool4 : Array CpInfo := pool [(1, .class_ 2), (0, u "java/io/Serializable"), (0, .class_ 4), (0, u "java/lang/Object")] 2

/-- java/io/Serializable -/
def k4 : Class := { plain "java/io/Serializable" (some 0) with
  accessFlags := 1537
  interfaces := #[]
  cf := some (fileOf pool4 1 #[] #[] 1537 3 #[] #[])
  fields := #[]
  methods := #[]
  instanceTypes := #[]
  staticTypes := #[]
  resolved := Array.replicate 7 none
  statics := none }

def pool5 : Array CpInfo := pool [(2, .class_ 4), (1, u "java/lang/Object"), (0, u "<init>"), (0, u "()V"), (1, .class_ 10), (1, u "java/lang/Number"), (2, .class_ 14), (0, u "java/io/Serializable"), (0, u "serialVersionUID"), (0, u "J")] 20

def k5m0 : Method := { name := "<init>", desc := "()V", sig := { parameters := [], returnType := none }, accessFlags := 1, code := none }
/-- java/lang/Number -/
def k5 : Class := { plain "java/lang/Number" (some 0) with
  accessFlags := 1057
  interfaces := #[4]
  cf := some (fileOf pool5 8 #[] #[{ accessFlags := 1, nameIndex := 5, descriptorIndex := 6, attributes := #[] }] 1057 2 #[13] #[{ accessFlags := 26, nameIndex := 15, descriptorIndex := 16, attributes := #[] }])
  fields := #[{ name := "serialVersionUID", type := .long, accessFlags := 26, slot := 0, constantValue := 0 }]
  methods := #[k5m0]
  instanceTypes := #[]
  staticTypes := #[.long]
  resolved := Array.replicate 37 none
  statics := none }

def pool6 : Array CpInfo := pool [(1, .class_ 2), (0, u "java/lang/Comparable"), (0, .class_ 4), (0, u "java/lang/Object")] 7

/-- java/lang/Comparable -/
def k6 : Class := { plain "java/lang/Comparable" (some 0) with
  accessFlags := 1537
  interfaces := #[]
  cf := some (fileOf pool6 1 #[] #[] 1537 3 #[] #[])
  fields := #[]
  methods := #[]
  instanceTypes := #[]
  staticTypes := #[]
  resolved := Array.replicate 12 none
  statics := none }

def pool7 : Array CpInfo := pool [(1, .class_ 2), (0, u "java/lang/constant/Constable"), (0, .class_ 4), (0, u "java/lang/Object")] 6

/-- java/lang/constant/Constable -/
def k7 : Class := { plain "java/lang/constant/Constable" (some 0) with
  accessFlags := 1537
  interfaces := #[]
  cf := some (fileOf pool7 1 #[] #[] 1537 3 #[] #[])
  fields := #[]
  methods := #[]
  instanceTypes := #[]
  staticTypes := #[]
  resolved := Array.replicate 11 none
  statics := none }

def pool8 : Array CpInfo := pool [(1, .class_ 2), (0, u "java/lang/constant/ConstantDesc"), (0, .class_ 4), (0, u "java/lang/Object")] 32

/-- java/lang/constant/ConstantDesc -/
def k8 : Class := { plain "java/lang/constant/ConstantDesc" (some 0) with
  accessFlags := 1537
  interfaces := #[]
  cf := some (fileOf pool8 1 #[] #[] 1537 3 #[] #[])
  fields := #[]
  methods := #[]
  instanceTypes := #[]
  staticTypes := #[]
  resolved := Array.replicate 37 none
  statics := none }

def pool9 : Array CpInfo := pool [(1, .class_ 2), (0, u "java/lang/Long"), (15, .class_ 20), (1, u "java/lang/Integer"), (77, .methodref 1 99), (0, .nameAndType 100 101), (0, u "numberOfLeadingZeros"), (0, u "(J)I"), (66, .long 9223372036854775808), (66, .class_ 237), (1, u "java/lang/Long$LongCache"), (33, .class_ 272), (0, u "java/lang/Number"), (2, u "value"), (0, u "J"), (31, .methodref 18 309), (0, .nameAndType 100 310), (0, u "(I)I"), (0, .methodref 18 312), (0, .nameAndType 313 310), (0, u "numberOfTrailingZeros"), (9, u "(J)J"), (37, u "TYPE"), (0, u "Ljava/lang/Class;"), (0, .class_ 364), (0, u "java/lang/Comparable"), (0, .class_ 366), (0, u "java/lang/constant/Constable"), (0, .class_ 368), (0, u "java/lang/constant/ConstantDesc"), (0, u "MIN_VALUE"), (1, u "MAX_VALUE"), (4, u "SIZE"), (0, u "I"), (1, u "BYTES"), (1, u "serialVersionUID"), (92, u "highestOneBit")] 49

def k9c0 : Code := { maxStack := 6, maxLocals := 2, code := jdk_35_method_46_code, exceptionTable := #[], attributes := #[] }
def k9m0 : Method := { name := "highestOneBit", desc := "(J)J", sig := { parameters := [.long], returnType := some .long }, accessFlags := 9, code := some k9c0 }
def k9c1 : Code := { maxStack := 3, maxLocals := 3, code := jdk_35_method_48_code, exceptionTable := #[], attributes := #[] }
def k9m1 : Method := { name := "numberOfLeadingZeros", desc := "(J)I", sig := { parameters := [.long], returnType := some .int }, accessFlags := 9, code := some k9c1 }
def k9c2 : Code := { maxStack := 4, maxLocals := 3, code := jdk_35_method_49_code, exceptionTable := #[], attributes := #[] }
def k9m2 : Method := { name := "numberOfTrailingZeros", desc := "(J)I", sig := { parameters := [.long], returnType := some .int }, accessFlags := 9, code := some k9c2 }
/-- java/lang/Long -/
def k9 : Class := { plain "java/lang/Long" (some 5) with
  accessFlags := 49
  interfaces := #[6, 7, 8]
  cf := some (fileOf pool9 1 #[.nestMembers #[235]] #[{ accessFlags := 9, nameIndex := 474, descriptorIndex := 323, attributes := #[] }, { accessFlags := 9, nameIndex := 100, descriptorIndex := 101, attributes := #[] }, { accessFlags := 9, nameIndex := 313, descriptorIndex := 101, attributes := #[] }] 49 271 #[363, 365, 367] #[{ accessFlags := 25, nameIndex := 369, descriptorIndex := 276, attributes := #[] }, { accessFlags := 25, nameIndex := 371, descriptorIndex := 276, attributes := #[] }, { accessFlags := 25, nameIndex := 361, descriptorIndex := 362, attributes := #[] }, { accessFlags := 18, nameIndex := 275, descriptorIndex := 276, attributes := #[] }, { accessFlags := 25, nameIndex := 376, descriptorIndex := 377, attributes := #[] }, { accessFlags := 25, nameIndex := 379, descriptorIndex := 377, attributes := #[] }, { accessFlags := 26, nameIndex := 381, descriptorIndex := 276, attributes := #[] }])
  fields := #[{ name := "MIN_VALUE", type := .long, accessFlags := 25, slot := 0, constantValue := 0 }, { name := "MAX_VALUE", type := .long, accessFlags := 25, slot := 1, constantValue := 0 }, { name := "TYPE", type := (.object "java/lang/Class"), accessFlags := 25, slot := 2, constantValue := 0 }, { name := "value", type := .long, accessFlags := 18, slot := 0, constantValue := 0 }, { name := "SIZE", type := .int, accessFlags := 25, slot := 3, constantValue := 0 }, { name := "BYTES", type := .int, accessFlags := 25, slot := 4, constantValue := 0 }, { name := "serialVersionUID", type := .long, accessFlags := 26, slot := 5, constantValue := 0 }]
  methods := #[k9m0, k9m1, k9m2]
  instanceTypes := #[.long]
  staticTypes := #[.long, .long, (.object "java/lang/Class"), .int, .int, .long]
  resolved := Array.replicate 524 none
  statics := none }

def pool10 : Array CpInfo := pool [(1, .class_ 2), (0, u "java/lang/Integer"), (16, u "digits"), (0, u "[C"), (32, u "numberOfLeadingZeros"), (0, u "(I)I"), (30, u "DigitOnes"), (0, u "[B"), (2, u "DigitTens"), (99, .class_ 190), (0, u "java/lang/Integer$IntegerCache"), (3, u "I"), (8, .class_ 204), (0, u "java/lang/Number"), (2, u "value"), (56, .integer 65536), (37, u "TYPE"), (0, u "Ljava/lang/Class;"), (0, .class_ 305), (0, u "java/lang/Comparable"), (0, .class_ 307), (0, u "java/lang/constant/Constable"), (0, .class_ 309), (0, u "java/lang/constant/ConstantDesc"), (0, u "MIN_VALUE"), (1, u "MAX_VALUE"), (3, u "SIZE"), (1, u "BYTES"), (1, u "serialVersionUID"), (0, u "J"), (84, u "numberOfTrailingZeros")] 46

def k10c0 : Code := { maxStack := 3, maxLocals := 2, code := jdk_33_method_47_code, exceptionTable := #[], attributes := #[] }
def k10m0 : Method := { name := "numberOfLeadingZeros", desc := "(I)I", sig := { parameters := [.int], returnType := some .int }, accessFlags := 9, code := some k10c0 }
def k10c1 : Code := { maxStack := 3, maxLocals := 2, code := jdk_33_method_48_code, exceptionTable := #[], attributes := #[] }
def k10m1 : Method := { name := "numberOfTrailingZeros", desc := "(I)I", sig := { parameters := [.int], returnType := some .int }, accessFlags := 9, code := some k10c1 }
/-- java/lang/Integer -/
def k10 : Class := { plain "java/lang/Integer" (some 5) with
  accessFlags := 49
  interfaces := #[6, 7, 8]
  cf := some (fileOf pool10 1 #[.nestMembers #[189]] #[{ accessFlags := 9, nameIndex := 53, descriptorIndex := 54, attributes := #[] }, { accessFlags := 9, nameIndex := 406, descriptorIndex := 54, attributes := #[] }] 49 203 #[304, 306, 308] #[{ accessFlags := 25, nameIndex := 310, descriptorIndex := 194, attributes := #[] }, { accessFlags := 25, nameIndex := 312, descriptorIndex := 194, attributes := #[] }, { accessFlags := 25, nameIndex := 302, descriptorIndex := 303, attributes := #[] }, { accessFlags := 24, nameIndex := 19, descriptorIndex := 20, attributes := #[] }, { accessFlags := 24, nameIndex := 89, descriptorIndex := 86, attributes := #[] }, { accessFlags := 24, nameIndex := 85, descriptorIndex := 86, attributes := #[] }, { accessFlags := 18, nameIndex := 207, descriptorIndex := 194, attributes := #[] }, { accessFlags := 25, nameIndex := 316, descriptorIndex := 194, attributes := #[] }, { accessFlags := 25, nameIndex := 318, descriptorIndex := 194, attributes := #[] }, { accessFlags := 26, nameIndex := 320, descriptorIndex := 321, attributes := #[] }])
  fields := #[{ name := "MIN_VALUE", type := .int, accessFlags := 25, slot := 0, constantValue := 0 }, { name := "MAX_VALUE", type := .int, accessFlags := 25, slot := 1, constantValue := 0 }, { name := "TYPE", type := (.object "java/lang/Class"), accessFlags := 25, slot := 2, constantValue := 0 }, { name := "digits", type := (.array .char), accessFlags := 24, slot := 3, constantValue := 0 }, { name := "DigitTens", type := (.array .byte), accessFlags := 24, slot := 4, constantValue := 0 }, { name := "DigitOnes", type := (.array .byte), accessFlags := 24, slot := 5, constantValue := 0 }, { name := "value", type := .int, accessFlags := 18, slot := 0, constantValue := 0 }, { name := "SIZE", type := .int, accessFlags := 25, slot := 6, constantValue := 0 }, { name := "BYTES", type := .int, accessFlags := 25, slot := 7, constantValue := 0 }, { name := "serialVersionUID", type := .long, accessFlags := 26, slot := 8, constantValue := 0 }]
  methods := #[k10m0, k10m1]
  instanceTypes := #[.int]
  staticTypes := #[.int, .int, (.object "java/lang/Class"), (.array .char), (.array .byte), (.array .byte), .int, .int, .long]
  resolved := Array.replicate 453 none
  statics := none }

def pool11 : Array CpInfo := pool [(1, u "java/lang/Cloneable"), (0, .class_ 1), (0, u "java/lang/Object"), (0, .class_ 3)] 3

/-- java/lang/Cloneable -/
def k11 : Class := { plain "java/lang/Cloneable" (some 0) with
  accessFlags := 1537
  interfaces := #[]
  cf := some (fileOf pool11 2 #[] #[] 1537 4 #[] #[])
  fields := #[]
  methods := #[]
  instanceTypes := #[]
  staticTypes := #[]
  resolved := Array.replicate 8 none
  statics := none }

/-- the primitive byte -/
def k12 : Class := { plain "byte" none with kind := .primitive 'B', accessFlags := 0x411 }
/-- [B -/
def k13 : Class := { plain "[B" (some 0) with kind := .array 12 .byte, interfaces := #[11, 4], accessFlags := 1041 }

/-- the primitive int -/
def k14 : Class := { plain "int" none with kind := .primitive 'I', accessFlags := 0x411 }
/-- [I -/
def k15 : Class := { plain "[I" (some 0) with kind := .array 14 .int, interfaces := #[11, 4], accessFlags := 1041 }

/-- the primitive long -/
def k16 : Class := { plain "long" none with kind := .primitive 'J', accessFlags := 0x411 }
/-- [J -/
def k17 : Class := { plain "[J" (some 0) with kind := .array 16 .long, interfaces := #[11, 4], accessFlags := 1041 }

def heap : Heap := #[]
def classes : Array Class := #[k0, k1, k2, k3, k4, k5, k6, k7, k8, k9, k10, k11, k12, k13, k14, k15, k16, k17]
def interned : List (Array UInt16 × Addr) := []
def slotsUsed : Nat := 0
def theMethod : MethodId := ⟨1, 1⟩
def args0 : Array Value := #[.int 5, .long 6, .int 7, .int 8, .int 9, .int 1]
def aboutOver (below : List Frame) : State where
  vm := { classes := classes, interned := interned.toArray }
  heap := heap
  slotsUsed := slotsUsed
  threads := #[{ frames := .invoking theMethod args0 :: below }]
def below0 : List Frame := [.native { method := ⟨0, 0⟩, args := #[] }]
def about1 : State := aboutOver below0
def p0 : Program := .bare "" "" ""
def e0 : Env := launch0.env 0 0 0
theorem w_frames : about1.frames = Frame.invoking theMethod args0 :: below0 := rfl
set_option maxRecDepth 65536 in
theorem w_args : argsFit about1.vm theMethod args0 = true := by decide +kernel
set_option maxRecDepth 65536 in
theorem w_heap : heapFits about1 = true := by decide +kernel
set_option maxRecDepth 65536 in
theorem w_runnable : about1.curStatus? = some .runnable := by decide +kernel
set_option maxRecDepth 65536 in
theorem w_alone : about1.alone = true := by decide +kernel
set_option maxRecDepth 65536 in
theorem w_named : about1.methodNamed? x = some theMethod := by decide +kernel
set_option maxRecDepth 65536 in
theorem w_hears : about1.hears theMethod below0 = true := by decide +kernel
set_option maxRecDepth 65536 in
theorem w_ripe : about1.ripe theMethod args0 below0 = true := by decide +kernel
theorem w_running : about1.status = .running := rfl
set_option maxRecDepth 65536 in
theorem w_room : about1.hasRoom e0.platform room_1 = true :=
  launch0.hasRoom_least _ room_1 (by decide +kernel) (by decide +kernel) (by decide +kernel) (by decide +kernel) (by decide +kernel) (by decide +kernel)
theorem allAtoms_all (ts : List Jvm.Cond) (a : Array Jvm.Value) (st : Jvm.State) : (allAtoms ts).before a st = ts.all (fun c => c.before a st) := by
  induction ts with
  | nil => rfl
  | cons c t ih =>
    show (Jvm.Cond.and c (allAtoms t)).before a st = _
    rw [Jvm.Cond.before_and, ih, List.all_cons]
def words1 : List Jvm.Cond := Jvm.Cond.code x code maxLocals ret :: tables_1
/-- a 'code' word, met by the world's own term for the bytes: nothing is compared byte by byte -/
theorem code_word {y : MethodName} {bytes : ByteArray} {mx : Nat} {rt : Option FieldType} {a : Array Value} {s : State} {m : MethodId} {meth : Method} {c : Code} (h1 : s.methodNamed? y = some m) (h2 : s.vm.method? m = some meth) (h3 : meth.code = some c) (h4 : c.code = bytes)
    (h5 : (c.maxLocals == mx && c.exceptionTable.isEmpty && decide (c.maxStack ≤ mostOperands) && decide (meth.sig.returnType = rt) && !meth.locks && decide (parseMethodDescriptor y.desc = some meth.sig)) = true) : (Jvm.Cond.code y bytes mx rt).before a s = true := by
  simp only [Bool.and_eq_true, beq_iff_eq, Bool.not_eq_true', decide_eq_true_eq] at h5
  obtain ⟨⟨⟨⟨⟨g1, g2⟩, g3⟩, g4⟩, g5⟩, g6⟩ := h5
  simp [Cond.before, Cond.holds, Cond.value, h1, h2, h3, h4, g1, g2, g3, g4, g5, g6]
def isCode : Jvm.Cond → Bool
  | .code _ _ _ _ => true
  | _ => false
theorem all_split {L : List Jvm.Cond} {P : Jvm.Cond → Bool} (h1 : L.all (fun c => isCode c || P c) = true) (h2 : ∀ c ∈ L.filter isCode, P c = true) : L.all P = true := by
  refine List.all_eq_true.mpr fun c hc => ?_
  have h := List.all_eq_true.mp h1 c hc
  rcases Bool.eq_false_or_eq_true (isCode c) with hi | hi
  · exact h2 c (List.mem_filter.mpr ⟨hc, hi⟩)
  · simpa [hi] using h
set_option maxRecDepth 65536 in
theorem w_c0 : (Jvm.Cond.code x code maxLocals ret).before args0 about1 = true := code_word (m := ⟨1, 1⟩) (meth := k1m1) (c := k1c1) (by decide +kernel) rfl rfl rfl (by decide +kernel)
set_option maxRecDepth 65536 in
theorem w_c1 : (Jvm.Cond.code ({ cls := "com/example/brisk_match/briskmatch/search/StartRing", name := "<init>", desc := "(I)V" } : Jvm.MethodName) prog_76_method_1_code (2 : Nat) (Option.none : Option Jvm.ClassFile.FieldType)).before args0 about1 = true := code_word (m := ⟨2, 0⟩) (meth := k2m0) (c := k2c0) (by decide +kernel) rfl rfl rfl (by decide +kernel)
set_option maxRecDepth 65536 in
theorem w_c2 : (Jvm.Cond.code ({ cls := "java/lang/Object", name := "<init>", desc := "()V" } : Jvm.MethodName) object_method_1_code (1 : Nat) (Option.none : Option Jvm.ClassFile.FieldType)).before args0 about1 = true := code_word (m := ⟨0, 0⟩) (meth := k0m0) (c := k0c0) (by decide +kernel) rfl rfl rfl (by decide +kernel)
set_option maxRecDepth 65536 in
theorem w_c3 : (Jvm.Cond.code ({ cls := "java/lang/Math", name := "max", desc := "(II)I" } : Jvm.MethodName) jdk_29_method_65_code (2 : Nat) (Option.some Jvm.ClassFile.FieldType.int)).before args0 about1 = true := code_word (m := ⟨3, 1⟩) (meth := k3m1) (c := k3c1) (by decide +kernel) rfl rfl rfl (by decide +kernel)
set_option maxRecDepth 65536 in
theorem w_c4 : (Jvm.Cond.code ({ cls := "java/lang/Long", name := "highestOneBit", desc := "(J)J" } : Jvm.MethodName) jdk_35_method_46_code (2 : Nat) (Option.some Jvm.ClassFile.FieldType.long)).before args0 about1 = true := code_word (m := ⟨9, 0⟩) (meth := k9m0) (c := k9c0) (by decide +kernel) rfl rfl rfl (by decide +kernel)
set_option maxRecDepth 65536 in
theorem w_c5 : (Jvm.Cond.code ({ cls := "java/lang/Long", name := "numberOfLeadingZeros", desc := "(J)I" } : Jvm.MethodName) jdk_35_method_48_code (3 : Nat) (Option.some Jvm.ClassFile.FieldType.int)).before args0 about1 = true := code_word (m := ⟨9, 1⟩) (meth := k9m1) (c := k9c1) (by decide +kernel) rfl rfl rfl (by decide +kernel)
set_option maxRecDepth 65536 in
theorem w_c6 : (Jvm.Cond.code ({ cls := "java/lang/Integer", name := "numberOfLeadingZeros", desc := "(I)I" } : Jvm.MethodName) jdk_33_method_47_code (2 : Nat) (Option.some Jvm.ClassFile.FieldType.int)).before args0 about1 = true := code_word (m := ⟨10, 0⟩) (meth := k10m0) (c := k10c0) (by decide +kernel) rfl rfl rfl (by decide +kernel)
set_option maxRecDepth 65536 in
theorem w_c7 : (Jvm.Cond.code ({ cls := "com/example/brisk_match/briskmatch/search/StartRing", name := "put", desc := "(JI)V" } : Jvm.MethodName) prog_76_method_3_code (5 : Nat) (Option.none : Option Jvm.ClassFile.FieldType)).before args0 about1 = true := code_word (m := ⟨2, 2⟩) (meth := k2m2) (c := k2c2) (by decide +kernel) rfl rfl rfl (by decide +kernel)
set_option maxRecDepth 65536 in
theorem w_c8 : (Jvm.Cond.code ({ cls := "com/example/brisk_match/briskmatch/search/StartRing", name := "take", desc := "(J)I" } : Jvm.MethodName) prog_76_method_5_code (4 : Nat) (Option.some Jvm.ClassFile.FieldType.int)).before args0 about1 = true := code_word (m := ⟨2, 4⟩) (meth := k2m4) (c := k2c4) (by decide +kernel) rfl rfl rfl (by decide +kernel)
set_option maxRecDepth 65536 in
theorem w_c9 : (Jvm.Cond.code ({ cls := "com/example/brisk_match/briskmatch/search/StartRing", name := "isEmpty", desc := "()Z" } : Jvm.MethodName) prog_76_method_2_code (1 : Nat) (Option.some Jvm.ClassFile.FieldType.boolean)).before args0 about1 = true := code_word (m := ⟨2, 1⟩) (meth := k2m1) (c := k2c1) (by decide +kernel) rfl rfl rfl (by decide +kernel)
set_option maxRecDepth 65536 in
theorem w_c10 : (Jvm.Cond.code ({ cls := "com/example/brisk_match/briskmatch/search/StartRing", name := "first", desc := "(JJ)J" } : Jvm.MethodName) prog_76_method_4_code (11 : Nat) (Option.some Jvm.ClassFile.FieldType.long)).before args0 about1 = true := code_word (m := ⟨2, 3⟩) (meth := k2m3) (c := k2c3) (by decide +kernel) rfl rfl rfl (by decide +kernel)
set_option maxRecDepth 65536 in
theorem w_c11 : (Jvm.Cond.code ({ cls := "java/lang/Long", name := "numberOfTrailingZeros", desc := "(J)I" } : Jvm.MethodName) jdk_35_method_49_code (3 : Nat) (Option.some Jvm.ClassFile.FieldType.int)).before args0 about1 = true := code_word (m := ⟨9, 2⟩) (meth := k9m2) (c := k9c2) (by decide +kernel) rfl rfl rfl (by decide +kernel)
set_option maxRecDepth 65536 in
theorem w_c12 : (Jvm.Cond.code ({ cls := "java/lang/Integer", name := "numberOfTrailingZeros", desc := "(I)I" } : Jvm.MethodName) jdk_33_method_48_code (2 : Nat) (Option.some Jvm.ClassFile.FieldType.int)).before args0 about1 = true := code_word (m := ⟨10, 1⟩) (meth := k10m1) (c := k10c1) (by decide +kernel) rfl rfl rfl (by decide +kernel)
def codes1 : List Jvm.Cond := [Jvm.Cond.code x code maxLocals ret, Jvm.Cond.code ({ cls := "com/example/brisk_match/briskmatch/search/StartRing", name := "<init>", desc := "(I)V" } : Jvm.MethodName) prog_76_method_1_code (2 : Nat) (Option.none : Option Jvm.ClassFile.FieldType), Jvm.Cond.code ({ cls := "java/lang/Object", name := "<init>", desc := "()V" } : Jvm.MethodName) object_method_1_code (1 : Nat) (Option.none : Option Jvm.ClassFile.FieldType), Jvm.Cond.code ({ cls := "java/lang/Math", name := "max", desc := "(II)I" } : Jvm.MethodName) jdk_29_method_65_code (2 : Nat) (Option.some Jvm.ClassFile.FieldType.int), Jvm.Cond.code ({ cls := "java/lang/Long", name := "highestOneBit", desc := "(J)J" } : Jvm.MethodName) jdk_35_method_46_code (2 : Nat) (Option.some Jvm.ClassFile.FieldType.long), Jvm.Cond.code ({ cls := "java/lang/Long", name := "numberOfLeadingZeros", desc := "(J)I" } : Jvm.MethodName) jdk_35_method_48_code (3 : Nat) (Option.some Jvm.ClassFile.FieldType.int), Jvm.Cond.code ({ cls := "java/lang/Integer", name := "numberOfLeadingZeros", desc := "(I)I" } : Jvm.MethodName) jdk_33_method_47_code (2 : Nat) (Option.some Jvm.ClassFile.FieldType.int), Jvm.Cond.code ({ cls := "com/example/brisk_match/briskmatch/search/StartRing", name := "put", desc := "(JI)V" } : Jvm.MethodName) prog_76_method_3_code (5 : Nat) (Option.none : Option Jvm.ClassFile.FieldType), Jvm.Cond.code ({ cls := "com/example/brisk_match/briskmatch/search/StartRing", name := "take", desc := "(J)I" } : Jvm.MethodName) prog_76_method_5_code (4 : Nat) (Option.some Jvm.ClassFile.FieldType.int), Jvm.Cond.code ({ cls := "com/example/brisk_match/briskmatch/search/StartRing", name := "isEmpty", desc := "()Z" } : Jvm.MethodName) prog_76_method_2_code (1 : Nat) (Option.some Jvm.ClassFile.FieldType.boolean), Jvm.Cond.code ({ cls := "com/example/brisk_match/briskmatch/search/StartRing", name := "first", desc := "(JJ)J" } : Jvm.MethodName) prog_76_method_4_code (11 : Nat) (Option.some Jvm.ClassFile.FieldType.long), Jvm.Cond.code ({ cls := "java/lang/Long", name := "numberOfTrailingZeros", desc := "(J)I" } : Jvm.MethodName) jdk_35_method_49_code (3 : Nat) (Option.some Jvm.ClassFile.FieldType.int), Jvm.Cond.code ({ cls := "java/lang/Integer", name := "numberOfTrailingZeros", desc := "(I)I" } : Jvm.MethodName) jdk_33_method_48_code (2 : Nat) (Option.some Jvm.ClassFile.FieldType.int)]
set_option maxRecDepth 65536 in
theorem codes_eq : words1.filter isCode = codes1 := rfl
theorem w_codes : ∀ c ∈ words1.filter isCode, c.before args0 about1 = true := by
  rw [codes_eq]
  intro c hc
  simp only [codes1, List.mem_cons, List.not_mem_nil, or_false] at hc
  rcases hc with rfl | rfl | rfl | rfl | rfl | rfl | rfl | rfl | rfl | rfl | rfl | rfl | rfl
  · exact w_c0
  · exact w_c1
  · exact w_c2
  · exact w_c3
  · exact w_c4
  · exact w_c5
  · exact w_c6
  · exact w_c7
  · exact w_c8
  · exact w_c9
  · exact w_c10
  · exact w_c11
  · exact w_c12
set_option maxRecDepth 65536 in
theorem w_t1 : (words1.take 24).all (fun c => isCode c || c.before args0 about1) = true := by decide +kernel
set_option maxRecDepth 65536 in
theorem w_t2 : ((words1.drop 24).take 24).all (fun c => isCode c || c.before args0 about1) = true := by decide +kernel
set_option maxRecDepth 65536 in
theorem w_t3 : ((words1.drop 24).drop 24).all (fun c => isCode c || c.before args0 about1) = true := by decide +kernel
theorem w_tables : (allAtoms (Jvm.Cond.code x code maxLocals ret :: tables_1)).before args0 about1 = true := by
  rw [allAtoms_all]
  show words1.all (fun c => c.before args0 about1) = true
  refine all_split ?_ w_codes
  rw [← List.take_append_drop 24 words1, List.all_append, w_t1, ← List.take_append_drop 24 (words1.drop 24), List.all_append, w_t2, w_t3]
  rfl
set_option maxRecDepth 65536 in
theorem w_case : (Jvm.Cond.and given_1 narrow_1).before args0 about1 = true := by decide +kernel
theorem w_applies : (headSpec (Jvm.Cond.code x code maxLocals ret :: tables_1) room_1).applies x e0.platform about1 = true :=
  (Spec.applies_iff w_frames).mpr ⟨w_running, w_runnable, w_alone, w_named, w_hears, w_ripe, w_room, w_tables⟩
theorem atStart : AtStart classFile x code maxLocals ret World_1 tables_1 room_1 Calls_1 rest_1 Pre_1 launch0 p0 e0 about1 theMethod args0 below0 :=
  ⟨lists_1, trivial, launch0.admits_env _ _ _, launch0.least_env, fairChoices_fair.cas, fairChoices_fair.clock, w_frames, w_args, w_heap, w_applies, trivial, trivial, w_case⟩
end start1
theorem witness_1 : WitnessClaimed_1 := ⟨start1.p0, start1.e0, start1.about1, start1.theMethod, start1.args0, start1.below0, start1.atStart⟩
end Jvm.Pilot.@@N@@
