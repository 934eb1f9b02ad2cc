import JvmDerived
import JvmDerived.Pilot.@@N@@Statement
import JvmDerived.Pilot.@@N@@Code
set_option linter.unusedVariables false
set_option linter.unusedSimpArgs false
namespace Jvm.RoadKit
open Sem ClassFile Op Lib Jvm.Stand Jvm.Free Jvm.LawKit
section New
variable {p : Program} {l : Launch} {e : Env} {R : Room} {s : State} {m : MethodId} {args : Array Value} {below : List Frame} {meth : Method} {c : Code} {T : State} {locs : List Loc} {cells slots : Nat}
theorem retI (X : Stand p l e R s m args below meth c T locs cells slots) (hx : p.tables.exec = Jvm.exec) {pc : Nat} {Ls : Array Slot} {z : Int32} {rest : List Value} (hret : meth.sig.returnType = some .int) (hd : decode c.code pc = .ok (.ireturn, 1)) {fs : List Frame}
    (hl : ∀ (f : JFrame) (acts : List Action), f.method = m → f.locked = none → f.entered = [] → (doReturn e (T.setTop f) acts (some (.int z))).1 = T.setFrames fs) : Steps p.tables e below (T.setTop (mkF m pc Ls (.int z :: rest))) (T.setFrames fs) := by
  have hm' : T.vm.method? m = some meth := X.method'
  have hn : narrow .int (.int z) = .int z := rfl
  show Steps p.tables e below (T.setTop { method := m, pc := pc, locals := Ls, stack := _ :: rest, locked := none }) _
  jvm_step X.here [X.here.top, hx, hd, hm', hret, hn]
  first | (intro acts; rw [hl _ acts rfl rfl rfl]) | rw [hl _ _ rfl rfl rfl]
  exact Steps.refl _
end New
end Jvm.RoadKit
namespace Jvm.Pilot.@@N@@
open Jvm Jvm.ClassFile Sem Op Lib Jvm.Free Jvm.Stand Jvm.LawKit Jvm.RoadKit Bundle Jvm.Pilot.@@N@@.Jvm.D
def own_G (tb : Tables) (e : Env) (below : List Frame) (P : State → Outcome → Prop) (st : State) : Prop := ∃ t o, Steps tb e below st t ∧ P t o
theorem own_go {tb : Tables} {e : Env} {below : List Frame} {P : State → Outcome → Prop} {st st' : State} (k : ∀ target, Steps tb e below st' target → Steps tb e below st target) (h : own_G tb e below P st') : own_G tb e below P st := by
  obtain ⟨t, o, h1, h2⟩ := h; exact ⟨t, o, k t h1, h2⟩
theorem own_tr {tb : Tables} {e : Env} {below : List Frame} {P : State → Outcome → Prop} {st st' : State} (k : Steps tb e below st st') (h : own_G tb e below P st') : own_G tb e below P st := by
  obtain ⟨t, o, h1, h2⟩ := h; exact ⟨t, o, k.trans h1, h2⟩
def own_E (below : List Frame) (s : State) (k n : Nat) (Q : Option Value → Heap → List Loc → Prop) (t : State) (o : Outcome) : Prop := t.status = .running ∧ Ended t below o ∧ ∃ v L, o = .returned v ∧ Q v t.heap L ∧ FrameEnd s o t L k n
section OwnRet
variable {p : Program} {l : Launch} {e : Env} {R : Room} {s : State} {m : MethodId} {args : Array Value} {below : List Frame} {meth : Method} {c : Code} {T : State} {locs : List Loc} {cells slots : Nat}
theorem own_retI (X : Stand p l e R s m args below meth c T locs cells slots) (hx : p.tables.exec = Jvm.exec) {pc : Nat} {Ls : Array Slot} {z : Int32} {rest : List Value} (hret : meth.sig.returnType = some .int) (hlk : meth.locks = false) (hd : decode c.code pc = .ok (.ireturn, 1)) {Q : Option Value → Heap → List Loc → Prop} {k n : Nat} (hk : cells ≤ k) (hn : slots ≤ n) {h : Heap} (eT : T.heap = h) (hQ : Q (some (.int z)) h locs) : own_G p.tables e below (own_E below s k n Q) (T.setTop (mkF m pc Ls (.int z :: rest))) := by
  obtain ⟨fs, hr, hrun, hended, hW, hsame⟩ := X.leave (v := some (.int z)) (fun h => by rw [hret] at h; cases h) hlk
  subst eT
  exact ⟨_, _, retI X hx hret hd hr, hrun, hended, _, _, rfl, hQ, ⟨_, rfl⟩, hW, hsame.mono hk hn⟩
theorem own_retN (X : Stand p l e R s m args below meth c T locs cells slots) (hx : p.tables.exec = Jvm.exec) {pc : Nat} {Ls : Array Slot} {z : Int32} {t : FieldType} {rest : List Value} (hret : meth.sig.returnType = some t) (ht : t = .boolean ∨ t = .byte ∨ t = .char ∨ t = .short) (hlk : meth.locks = false) (hd : decode c.code pc = .ok (.ireturn, 1)) {Q : Option Value → Heap → List Loc → Prop} {k n : Nat} (hk : cells ≤ k) (hn : slots ≤ n) {h : Heap} (eT : T.heap = h) (hQ : Q (some (.int (nar t z))) h locs) : own_G p.tables e below (own_E below s k n Q) (T.setTop (mkF m pc Ls (.int z :: rest))) := by
  obtain ⟨fs, hr, hrun, hended, hW, hsame⟩ := X.leave (v := some (.int (nar t z))) (fun h => by rw [hret] at h; cases h) hlk
  subst eT
  exact ⟨_, _, retN X hx hret ht hd hr, hrun, hended, _, _, rfl, hQ, ⟨_, rfl⟩, hW, hsame.mono hk hn⟩
theorem own_retV (X : Stand p l e R s m args below meth c T locs cells slots) (hx : p.tables.exec = Jvm.exec) {pc : Nat} {Ls : Array Slot} (hret : meth.sig.returnType = none) (hlk : meth.locks = false) (hd : decode c.code pc = .ok (.return_, 1)) {Q : Option Value → Heap → List Loc → Prop} {k n : Nat} (hk : cells ≤ k) (hn : slots ≤ n) {h : Heap} (eT : T.heap = h) (hQ : Q none h locs) : own_G p.tables e below (own_E below s k n Q) (T.setTop (mkF m pc Ls [])) := by
  obtain ⟨fs, hr, hrun, hended, hW, hsame⟩ := X.leave (v := none) (fun _ => rfl) hlk
  subst eT
  exact ⟨_, _, X.returnOut hx hret hd hr, hrun, hended, _, _, rfl, hQ, ⟨_, rfl⟩, hW, hsame.mono hk hn⟩
theorem own_retJ (X : Stand p l e R s m args below meth c T locs cells slots) (hx : p.tables.exec = Jvm.exec) {pc : Nat} {Ls : Array Slot} {z : Int64} {rest : List Value} (hret : meth.sig.returnType = some .long) (hlk : meth.locks = false) (hd : decode c.code pc = .ok (.lreturn, 1)) {Q : Option Value → Heap → List Loc → Prop} {k n : Nat} (hk : cells ≤ k) (hn : slots ≤ n) {h : Heap} (eT : T.heap = h) (hQ : Q (some (.long z)) h locs) : own_G p.tables e below (own_E below s k n Q) (T.setTop (mkF m pc Ls (.long z :: rest))) := by
  obtain ⟨fs, hr, hrun, hended, hW, hsame⟩ := X.leave (v := some (.long z)) (fun h => by rw [hret] at h; cases h) hlk
  subst eT
  refine ⟨_, _, ?_, hrun, hended, _, _, rfl, hQ, ⟨_, rfl⟩, hW, hsame.mono hk hn⟩
  jvm_step X.here [X.here.top, hx, hd, X.method', hret, narrow]
  first | (intro acts; rw [hr _ acts rfl rfl rfl]) | rw [hr _ _ rfl rfl rfl]
  exact Steps.refl _
theorem own_retR (X : Stand p l e R s m args below meth c T locs cells slots) (hx : p.tables.exec = Jvm.exec) {pc : Nat} {Ls : Array Slot} {a : Addr} {ty : FieldType} {rest : List Value} (hret : meth.sig.returnType = some ty) (hty : ty.isReference = true) (hlk : meth.locks = false) (hd : decode c.code pc = .ok (.areturn, 1)) {Q : Option Value → Heap → List Loc → Prop} {k n : Nat} (hk : cells ≤ k) (hn : slots ≤ n) {h : Heap} (eT : T.heap = h) (hQ : Q (some (.ref a)) h locs) : own_G p.tables e below (own_E below s k n Q) (T.setTop (mkF m pc Ls (.ref a :: rest))) := by
  obtain ⟨fs, hr, hrun, hended, hW, hsame⟩ := X.leave (v := some (.ref a)) (fun h => by rw [hret] at h; cases h) hlk
  subst eT
  refine ⟨_, _, ?_, hrun, hended, _, _, rfl, hQ, ⟨_, rfl⟩, hW, hsame.mono hk hn⟩
  jvm_step X.here [X.here.top, hx, hd, X.method', hret, Value.isRef, hty]
  first | (intro acts; rw [hr _ acts rfl rfl rfl]) | rw [hr _ _ rfl rfl rfl]
  exact Steps.refl _
end OwnRet
theorem own_selfsel {s : State} {args : Array Value} {y y' : MethodName} (hs : (Cond.selects y.cls y' y').before args s = true) (hyc : y'.cls = y.cls) (hpriv : s.PrivateAt y) (hinst : (Cond.instanceMethod y).before args s = true) (hy : y.cls ≠ "java/lang/invoke/MethodHandle" ∧ y.cls ≠ "java/lang/invoke/VarHandle") : (Cond.selects y.cls y y).before args s = true := by
  obtain ⟨c, r, mm, h1, -, h3, -, mk, h5, h6⟩ := Cond.selects_spec hs
  have h7 := findClass_of_methodNamed h3
  rw [hyc] at h7
  exact selects_self_of_private h7 h5 h6 hpriv hinst hy
theorem own_irem (x y : Int32) : x - (x / y) * y = x % y := by
  have h1 := rng32 (x % y)
  apply Int32.toInt_inj.mp
  rw [Int32.toInt_mod] at h1 ⊢
  rw [Int32.toInt_sub, Int32.toInt_mul, Int32.toInt_div, Int.bmod_mul_bmod, Int.sub_bmod_bmod, show x.toInt - x.toInt.tdiv y.toInt * y.toInt = x.toInt.tmod y.toInt from by rw [Int.tmod_def, Int.mul_comm]]
  exact Int.bmod_eq_of_le_mul_two (by omega) (by omega)
def own_A (Z : State) (h : Heap) (a : Addr) (ty : FieldType) (N : Nat) (f : Nat → Value) : Prop := ∃ c : Cell, Arr Z h a c ty ∧ c.slots.size = N ∧ ∀ j, j < N → c.slots[j]? = some (f j)
def own_upd (f : Nat → Value) (i : Nat) (v : Value) : Nat → Value := fun j => if j = i then v else f j
theorem own_upd_same (f : Nat → Value) (i : Nat) (v : Value) : own_upd f i v i = v := if_pos rfl
theorem own_upd_ne (f : Nat → Value) {i j : Nat} (v : Value) (h : j ≠ i) : own_upd f i v j = f j := if_neg h
theorem own_A.lt {Z : State} {h : Heap} {a : Addr} {ty : FieldType} {N : Nat} {f : Nat → Value} (F : own_A Z h a ty N f) : a < h.size := by obtain ⟨c, A, -⟩ := F; exact A.lt
theorem own_A.ext {Z : State} {h h' : Heap} {a : Addr} {ty : FieldType} {N : Nat} {f : Nat → Value} (F : own_A Z h a ty N f) (E : Ext h h') : own_A Z h' a ty N f := by obtain ⟨c, A, r⟩ := F; exact ⟨c, A.ext E, r⟩
theorem own_A.other {Z : State} {h h' : Heap} {a b : Addr} {sl : Nat} {v : Value} {ty : FieldType} {N : Nat} {f : Nat → Value} (F : own_A Z h b ty N f) (W : Wr h h' a sl v) (q : b ≠ a) : own_A Z h' b ty N f := by obtain ⟨c, A, r⟩ := F; exact ⟨c, A.other W q, r⟩
theorem own_A.keep {Z : State} {h h' : Heap} {a : Addr} {ws : List Addr} {ty : FieldType} {N : Nat} {f : Nat → Value} (F : own_A Z h a ty N f) (K : Keep h h' ws) (q : a ∉ ws) : own_A Z h' a ty N f := by obtain ⟨c, A, r⟩ := F; exact ⟨c, ⟨K.2.1 a c A.1 q, A.2⟩, r⟩
theorem own_A.new {Z : State} {h : Heap} {a : Addr} {k : ClassId} {ty : FieldType} {z : Int32} {N : Nat} (A : Arr Z h a (newA k ty z) ty) (q : z.toNatClampNeg = N) : own_A Z h a ty N (fun _ => defaultValue ty) :=
  ⟨_, A, (sz_new _ _ _).trans q, fun j hj => by rw [← q] at hj; simp [newA, hj]⟩
theorem own_A.set {Z : State} {h h' : Heap} {a : Addr} {ty : FieldType} {N : Nat} {f : Nat → Value} (F : own_A Z h a ty N f) {i : Nat} {v : Value} (W : Wr h h' a i v) : own_A Z h' a ty N (own_upd f i v) := by
  obtain ⟨c, A, S, H⟩ := F
  refine ⟨_, A.same W, by rw [sz_set]; exact S, fun j hj => ?_⟩
  by_cases u : j = i
  · subst u
    rw [own_upd_same]
    simp only [Cell.setSlot]
    exact Array.getElem?_setIfInBounds_self_of_lt (by rw [S]; exact hj)
  · rw [own_upd_ne _ _ u]
    simp only [Cell.setSlot]
    rw [Array.getElem?_setIfInBounds_ne (fun q => u q.symm)]
    exact H j hj
theorem own_A.congr {Z : State} {h : Heap} {a : Addr} {ty : FieldType} {N : Nat} {f g : Nat → Value} (F : own_A Z h a ty N f) (q : ∀ j, j < N → f j = g j) : own_A Z h a ty N g := by
  obtain ⟨c, A, S, H⟩ := F; exact ⟨c, A, S, fun j hj => by rw [← q j hj]; exact H j hj⟩
theorem own_inb {c : Cell} {N : Nat} {j : Int32} (S : c.slots.size = N) (h0 : 0 ≤ j.toInt) (h1 : j.toInt < (N : Int)) : ¬ (j < 0 ∨ c.slots.size ≤ j.toNatClampNeg) := by
  rw [S]
  have e0 : (0 : Int32).toInt = 0 := rfl
  simp only [Int32.lt_iff_toInt_lt, Int32.toNatClampNeg, e0]; omega
theorem own_stI {p : Program} {l : Launch} {e : Env} {R : Room} {s : State} {m : MethodId} {args : Array Value} {below : List Frame} {meth : Method} {c : Code} {T : State} {locs : List Loc} {cells slots : Nat} {Z : State} {h : Heap}
    (X : Stand p l e R s m args below meth c T locs cells slots) (hx : p.tables.exec = Jvm.exec) (hZ : Z.Warmed39 s.vm) (eT : T.heap = h) {a : Addr} {N : Nat} {f : Nat → Value} (A : own_A Z h a .int N f) {j : Int32} {x : Int32} (h0 : 0 ≤ j.toInt) (h1 : j.toInt < (N : Int)) {g : JFrame} (hg : g.method = m) {rest : List Value} (hs : g.stack = .int x :: .int j :: .ref a :: rest) (hd : decode c.code g.pc = .ok (.iastore, 1)) :
    ∃ T' h', Stand p l e R s m args below meth c T' (locs ++ [⟨a, j.toNatClampNeg⟩]) cells slots ∧ T'.heap = h' ∧ Wr h h' a j.toNatClampNeg (.int x) ∧ own_A Z h' a .int N (own_upd f j.toNatClampNeg (.int x)) ∧ ∀ target, Steps p.tables e below (T'.setTop { g with pc := g.pc + 1, stack := rest }) target → Steps p.tables e below (T.setTop g) target := by
  obtain ⟨cl, Ar, S, H⟩ := A
  obtain ⟨T', h', X', e', W, st⟩ := stI X hx hZ eT Ar (own_inb S h0 h1) hg hs hd
  exact ⟨T', h', X', e', W, own_A.set ⟨cl, Ar, S, H⟩ W, st⟩
theorem own_ldI {p : Program} {l : Launch} {e : Env} {R : Room} {s : State} {m : MethodId} {args : Array Value} {below : List Frame} {meth : Method} {c : Code} {T : State} {locs : List Loc} {cells slots : Nat} {Z : State} {h : Heap}
    (X : Stand p l e R s m args below meth c T locs cells slots) (hx : p.tables.exec = Jvm.exec) (hZ : Z.Warmed39 s.vm) (eT : T.heap = h) {a : Addr} {N : Nat} {f : Nat → Value} (A : own_A Z h a .int N f) {j : Int32} {v : Value} (h0 : 0 ≤ j.toInt) (h1 : j.toInt < (N : Int)) (hv : f j.toNatClampNeg = v) {g : JFrame} (hg : g.method = m) {rest : List Value} (hs : g.stack = .int j :: .ref a :: rest) (hd : decode c.code g.pc = .ok (.iaload, 1)) :
    ∀ target, Steps p.tables e below (T.setTop { g with pc := g.pc + 1, stack := v :: rest }) target → Steps p.tables e below (T.setTop g) target := by
  obtain ⟨cl, Ar, S, H⟩ := A
  have hN : j.toNatClampNeg < N := by simp only [Int32.toNatClampNeg]; omega
  exact X.iaload hx (by rw [eT]; exact Ar.1) (State.isArrayOf_alike hZ.alike Ar.2.1) Ar.2.2 (own_inb S h0 h1) (hv ▸ H _ hN) hg hs hd
theorem own_stJ {p : Program} {l : Launch} {e : Env} {R : Room} {s : State} {m : MethodId} {args : Array Value} {below : List Frame} {meth : Method} {c : Code} {T : State} {locs : List Loc} {cells slots : Nat} {Z : State} {h : Heap}
    (X : Stand p l e R s m args below meth c T locs cells slots) (hx : p.tables.exec = Jvm.exec) (hZ : Z.Warmed39 s.vm) (eT : T.heap = h) {a : Addr} {N : Nat} {f : Nat → Value} (A : own_A Z h a .long N f) {j : Int32} {x : Int64} (h0 : 0 ≤ j.toInt) (h1 : j.toInt < (N : Int)) {g : JFrame} (hg : g.method = m) {rest : List Value} (hs : g.stack = .long x :: .int j :: .ref a :: rest) (hd : decode c.code g.pc = .ok (.lastore, 1)) :
    ∃ T' h', Stand p l e R s m args below meth c T' (locs ++ [⟨a, j.toNatClampNeg⟩]) cells slots ∧ T'.heap = h' ∧ Wr h h' a j.toNatClampNeg (.long x) ∧ own_A Z h' a .long N (own_upd f j.toNatClampNeg (.long x)) ∧ ∀ target, Steps p.tables e below (T'.setTop { g with pc := g.pc + 1, stack := rest }) target → Steps p.tables e below (T.setTop g) target := by
  obtain ⟨cl, Ar, S, H⟩ := A
  obtain ⟨T', h', X', e', W, st⟩ := stJ X hx hZ eT Ar (own_inb S h0 h1) hg hs hd
  exact ⟨T', h', X', e', W, own_A.set ⟨cl, Ar, S, H⟩ W, st⟩
theorem own_ldJ {p : Program} {l : Launch} {e : Env} {R : Room} {s : State} {m : MethodId} {args : Array Value} {below : List Frame} {meth : Method} {c : Code} {T : State} {locs : List Loc} {cells slots : Nat} {Z : State} {h : Heap}
    (X : Stand p l e R s m args below meth c T locs cells slots) (hx : p.tables.exec = Jvm.exec) (hZ : Z.Warmed39 s.vm) (eT : T.heap = h) {a : Addr} {N : Nat} {f : Nat → Value} (A : own_A Z h a .long N f) {j : Int32} {v : Value} (h0 : 0 ≤ j.toInt) (h1 : j.toInt < (N : Int)) (hv : f j.toNatClampNeg = v) {g : JFrame} (hg : g.method = m) {rest : List Value} (hs : g.stack = .int j :: .ref a :: rest) (hd : decode c.code g.pc = .ok (.laload, 1)) :
    ∀ target, Steps p.tables e below (T.setTop { g with pc := g.pc + 1, stack := v :: rest }) target → Steps p.tables e below (T.setTop g) target := by
  obtain ⟨cl, Ar, S, H⟩ := A
  have hN : j.toNatClampNeg < N := by simp only [Int32.toNatClampNeg]; omega
  exact X.laload hx (by rw [eT]; exact Ar.1) (State.isArrayOf_alike hZ.alike Ar.2.1) Ar.2.2 (own_inb S h0 h1) (hv ▸ H _ hN) hg hs hd
theorem own_ldB {p : Program} {l : Launch} {e : Env} {R : Room} {s : State} {m : MethodId} {args : Array Value} {below : List Frame} {meth : Method} {c : Code} {T : State} {locs : List Loc} {cells slots : Nat} {Z : State} {h : Heap}
    (X : Stand p l e R s m args below meth c T locs cells slots) (hx : p.tables.exec = Jvm.exec) (hZ : Z.Warmed39 s.vm) (eT : T.heap = h) {a : Addr} {N : Nat} {f : Nat → Value} (A : own_A Z h a .byte N f) {j : Int32} {v : Value} (h0 : 0 ≤ j.toInt) (h1 : j.toInt < (N : Int)) (hv : f j.toNatClampNeg = v) {g : JFrame} (hg : g.method = m) {rest : List Value} (hs : g.stack = .int j :: .ref a :: rest) (hd : decode c.code g.pc = .ok (.baload, 1)) :
    ∀ target, Steps p.tables e below (T.setTop { g with pc := g.pc + 1, stack := v :: rest }) target → Steps p.tables e below (T.setTop g) target := by
  obtain ⟨cl, Ar, S, H⟩ := A
  have hN : j.toNatClampNeg < N := by simp only [Int32.toNatClampNeg]; omega
  exact X.baloadBytes hx (by rw [eT]; exact Ar.1) (State.isArrayOf_alike hZ.alike Ar.2.1) Ar.2.2 (own_inb S h0 h1) (hv ▸ H _ hN) hg hs hd
theorem own_len {p : Program} {l : Launch} {e : Env} {R : Room} {s : State} {m : MethodId} {args : Array Value} {below : List Frame} {meth : Method} {c : Code} {T : State} {locs : List Loc} {cells slots : Nat} {Z : State} {h : Heap}
    (X : Stand p l e R s m args below meth c T locs cells slots) (hx : p.tables.exec = Jvm.exec) (hZ : Z.Warmed39 s.vm) (eT : T.heap = h) {a : Addr} {ty : FieldType} {N : Nat} {f : Nat → Value} (A : own_A Z h a ty N f) {z : Int32} (hz : N.toInt32 = z) {g : JFrame} (hg : g.method = m) {rest : List Value} (hs : g.stack = .ref a :: rest) (hd : decode c.code g.pc = .ok (.arraylength, 1)) :
    ∀ target, Steps p.tables e below (T.setTop { g with pc := g.pc + 1, stack := .int z :: rest }) target → Steps p.tables e below (T.setTop g) target := by
  obtain ⟨cl, Ar, S, H⟩ := A
  subst S hz
  exact X.arraylength hx (by rw [eT]; exact Ar.1) (State.isArrayOf_alike hZ.alike Ar.2.1) hg hs hd
theorem own_ll {x y : Int64} : lcmpW x y < 0 ↔ x.toInt < y.toInt := by rw [lw_lt, Int64.lt_iff_toInt_lt]
theorem own_lg {x y : Int64} : 0 < lcmpW x y ↔ y.toInt < x.toInt := by rw [lw_gt, Int64.lt_iff_toInt_lt]
theorem own_lq {x y : Int64} : lcmpW x y = 0 ↔ x = y := lw_eq x y
theorem own_nll {x y : Int64} (h : ¬ lcmpW x y < 0) : ¬ x.toInt < y.toInt := fun z => h (own_ll.mpr z)
theorem own_nlg {x y : Int64} (h : ¬ 0 < lcmpW x y) : ¬ y.toInt < x.toInt := fun z => h (own_lg.mpr z)
/-- four places of four, as a function -/
def own_f (a b c d x : Fin 4) : Fin 4 := if x = 0 then a else if x = 1 then b else if x = 2 then c else d
def own_rt (a b c d x : Fin 4) : Fin 4 := own_f a b c d (own_f a b c d (own_f a b c d x))
def own_forest (a b c d : Fin 4) : Prop := ∀ x : Fin 4, own_f a b c d (own_rt a b c d x) = own_rt a b c d x
instance own_dec (a b c d : Fin 4) : Decidable (own_forest a b c d) := by unfold own_forest; exact inferInstance
def own_dep (a b c d x : Fin 4) : Nat := if own_f a b c d x = x then 0 else if own_f a b c d (own_f a b c d x) = own_f a b c d x then 1 else if own_f a b c d (own_rt a b c d x) = own_f a b c d (own_f a b c d x) then 2 else 3
def own_pt (r v : Fin 4) (k x : Fin 4) : Fin 4 := if r = k then v else x
theorem own_turn : ∀ a b c d r : Fin 4, own_forest a b c d → own_f a b c d r ≠ r →
    own_forest (own_pt r (own_f a b c d (own_f a b c d r)) 0 a) (own_pt r (own_f a b c d (own_f a b c d r)) 1 b) (own_pt r (own_f a b c d (own_f a b c d r)) 2 c) (own_pt r (own_f a b c d (own_f a b c d r)) 3 d) ∧
    (∀ y : Fin 4, own_rt (own_pt r (own_f a b c d (own_f a b c d r)) 0 a) (own_pt r (own_f a b c d (own_f a b c d r)) 1 b) (own_pt r (own_f a b c d (own_f a b c d r)) 2 c) (own_pt r (own_f a b c d (own_f a b c d r)) 3 d) y = own_rt a b c d y) ∧
    own_rt a b c d (own_f a b c d (own_f a b c d r)) = own_rt a b c d r ∧
    own_dep (own_pt r (own_f a b c d (own_f a b c d r)) 0 a) (own_pt r (own_f a b c d (own_f a b c d r)) 1 b) (own_pt r (own_f a b c d (own_f a b c d r)) 2 c) (own_pt r (own_f a b c d (own_f a b c d r)) 3 d) (own_f a b c d (own_f a b c d r)) < own_dep a b c d r := by decide +kernel
theorem own_top : ∀ a b c d r : Fin 4, own_f a b c d r = r → own_rt a b c d r = r := by decide +kernel
theorem own_isroot : ∀ a b c d x : Fin 4, own_forest a b c d → own_f a b c d (own_rt a b c d x) = own_rt a b c d x := fun _ _ _ _ x h => h x
theorem own_idem {a b c d : Fin 4} (h : own_forest a b c d) (x : Fin 4) : own_rt a b c d (own_rt a b c d x) = own_rt a b c d x := own_top _ _ _ _ _ (h x)
theorem own_joined : ∀ a b c d r v : Fin 4, own_forest a b c d → own_f a b c d r = r → own_f a b c d v = v →
    own_forest (own_pt r v 0 a) (own_pt r v 1 b) (own_pt r v 2 c) (own_pt r v 3 d) ∧ ∀ y : Fin 4, own_rt (own_pt r v 0 a) (own_pt r v 1 b) (own_pt r v 2 c) (own_pt r v 3 d) y = if own_rt a b c d y = r then v else own_rt a b c d y := by decide +kernel
def own_n (x : Fin 4) : Int32 := Int32.ofNat x.val
def own_arr (a b c d : Fin 4) : Nat → Value := fun j => .int (own_n (if j = 0 then a else if j = 1 then b else if j = 2 then c else d))
theorem own_nc : ∀ x : Fin 4, (own_n x).toNatClampNeg = x.val := by decide
theorem own_nb : ∀ x : Fin 4, 0 ≤ (own_n x).toInt ∧ (own_n x).toInt < ((4 : Nat) : Int) := by decide
theorem own_inj : ∀ x y : Fin 4, own_n x = own_n y → x = y := by decide
theorem own_at (a b c d r : Fin 4) : own_arr a b c d (own_n r).toNatClampNeg = .int (own_n (own_f a b c d r)) := by
  rw [own_nc]
  have h : r = 0 ∨ r = 1 ∨ r = 2 ∨ r = 3 := by revert r; decide
  rcases h with rfl | rfl | rfl | rfl <;> rfl
theorem own_set (a b c d r v : Fin 4) : ∀ j, j < 4 → own_upd (own_arr a b c d) (own_n r).toNatClampNeg (.int (own_n v)) j = own_arr (own_pt r v 0 a) (own_pt r v 1 b) (own_pt r v 2 c) (own_pt r v 3 d) j := by
  rw [own_nc]
  have h : r = 0 ∨ r = 1 ∨ r = 2 ∨ r = 3 := by revert r; decide
  intro j hj
  have hj' : j = 0 ∨ j = 1 ∨ j = 2 ∨ j = 3 := by omega
  rcases h with rfl | rfl | rfl | rfl <;> rcases hj' with rfl | rfl | rfl | rfl <;> rfl
theorem own_mask3 (x : Int32) : ∃ y : Fin 4, (x &&& (3 : Int32)) = own_n y := by
  have h := c_mask x 3 2 (by decide) (by decide)
  refine ⟨⟨((x &&& 3).toInt).toNat, by omega⟩, ?_⟩
  apply Int32.toInt_inj.mp
  show _ = (Int32.ofNat _).toInt
  rw [Int32.toInt_ofNat_of_lt (by show (x &&& 3).toInt.toNat < _; omega)]
  show (x &&& 3).toInt = ((x &&& 3).toInt.toNat : Int)
  omega
/-- the sets: the object, its array of parents, all made since the law began -/
def own_D (Z : State) (h : Heap) (n0 : Nat) (o w : Addr) (a b c d : Fin 4) : Prop :=
  Exa Z h o "com/example/weftwork/weftwork/graph/DisjointSets" ∧ Fld Z h o "com/example/weftwork/weftwork/graph/DisjointSets" "parent" "[I" (.ref w) ∧ own_A Z h w .int 4 (own_arr a b c d) ∧ o ≠ w ∧ n0 ≤ o ∧ n0 ≤ w ∧ own_forest a b c d
theorem d1_0 : decode prog_6_method_1_code 0 = .ok (.aload_n 0, 1) := by decide +kernel
theorem d1_1 : decode prog_6_method_1_code 1 = .ok (.invokespecial 1, 3) := by decide +kernel
theorem d1_4 : decode prog_6_method_1_code 4 = .ok (.aload_n 0, 1) := by decide +kernel
theorem d1_5 : decode prog_6_method_1_code 5 = .ok (.iload_n 1, 1) := by decide +kernel
theorem d1_6 : decode prog_6_method_1_code 6 = .ok (.newarray .int, 2) := by decide +kernel
theorem d1_8 : decode prog_6_method_1_code 8 = .ok (.putfield 7, 3) := by decide +kernel
theorem d1_11 : decode prog_6_method_1_code 11 = .ok (.iconst 0, 1) := by decide +kernel
theorem d1_12 : decode prog_6_method_1_code 12 = .ok (.istore_n 2, 1) := by decide +kernel
theorem d1_13 : decode prog_6_method_1_code 13 = .ok (.iload_n 2, 1) := by decide +kernel
theorem d1_14 : decode prog_6_method_1_code 14 = .ok (.iload_n 1, 1) := by decide +kernel
theorem d1_15 : decode prog_6_method_1_code 15 = .ok (.if_icmp .ge 16, 3) := by decide +kernel
theorem d1_18 : decode prog_6_method_1_code 18 = .ok (.aload_n 0, 1) := by decide +kernel
theorem d1_19 : decode prog_6_method_1_code 19 = .ok (.getfield 7, 3) := by decide +kernel
theorem d1_22 : decode prog_6_method_1_code 22 = .ok (.iload_n 2, 1) := by decide +kernel
theorem d1_23 : decode prog_6_method_1_code 23 = .ok (.iload_n 2, 1) := by decide +kernel
theorem d1_24 : decode prog_6_method_1_code 24 = .ok (.iastore, 1) := by decide +kernel
theorem d1_25 : decode prog_6_method_1_code 25 = .ok (.iinc 2 1, 3) := by decide +kernel
theorem d1_28 : decode prog_6_method_1_code 28 = .ok (.goto (-15), 3) := by decide +kernel
theorem d1_31 : decode prog_6_method_1_code 31 = .ok (.return_, 1) := by decide +kernel
theorem pn_com_example_weftwork_weftwork_graph_DisjointSets : plainName "com/example/weftwork/weftwork/graph/DisjointSets" = true := by first | (simp [plainName, overriddenIn]; done) | decide +kernel
theorem ef_init (m : MethodId) (p0 : Addr) (p1 : Int32) : entryFrame m #[(.ref p0), (.int p1)] 3 = mkF m 0 #[.val (.ref p0), .val (.int p1), .unset] [] := by first | (simp [entryFrame, mkF, argsToLocals, Value.category]; done) | rfl
def Q_init (Z : State) (p0 : Addr) (p1 : Int32) (h0 : Heap) (n0 : Nat) (v : Option Value) (h : Heap) (L : List Loc) : Prop := v = none ∧ Fr n0 L ∧ Keep h0 h [p0] ∧ ∃ w, h0.size ≤ w ∧ own_D Z h n0 p0 w 0 1 2 3
set_option maxRecDepth 65536 in
set_option maxHeartbeats 40000000 in
theorem rm_init (l : Launch) (Z : State) (a0 : Array Value) (hw : ∀ d ∈ tables_1, d.before a0 Z = true) (ws : List Jvm.Cond) (p0 : Addr) (p1 : Int32) (h0 : Heap) (n0 : Nat) (Z0 : n0 ≤ h0.size) (hp : (4 : Int32) = p1) (E0 : Exa Z h0 p0 "com/example/weftwork/weftwork/graph/DisjointSets") (F0 : Fld Z h0 p0 "com/example/weftwork/weftwork/graph/DisjointSets" "parent" "[I" .null) (g0 : n0 ≤ p0) :
    MetFree l (⟨"com/example/weftwork/weftwork/graph/DisjointSets", "<init>", "(I)V"⟩ : MethodName) (head1 (Jvm.Cond.code (⟨"com/example/weftwork/weftwork/graph/DisjointSets", "<init>", "(I)V"⟩ : MethodName) prog_6_method_1_code 3 none :: ws) ({ frames := 1, cells := 1, slots := 4, locals := 12 } : Room)) (fun a U => a = #[(.ref p0), (.int p1)] ∧ Z.Warmed39 U.vm ∧ U.heap = h0) (fun _ _ _ _ _ => True) (fun _ U o U' => ∃ v L, o = .returned v ∧ Q_init Z p0 p1 h0 n0 v U'.heap L ∧ FrameEnd U o U' L ({ frames := 1, cells := 1, slots := 4, locals := 12 } : Room).cells ({ frames := 1, cells := 1, slots := 4, locals := 12 } : Room).slots) := by
  refine MetFree.of_bodySF (plainFor_of_name pn_com_example_weftwork_weftwork_graph_DisjointSets) hisR ?_
  intro p e s m args below meth kc s₁ Bd hml0 hP hK
  obtain ⟨rfl, hZ, hh⟩ := hP
  have hx := Bd.exec
  have hby := Bd.bytes
  have hlk := Bd.notSynchronized
  have hml : kc.maxLocals = 3 := hml0
  have hown : s.vm.findClass "com/example/weftwork/weftwork/graph/DisjointSets" = some m.cls := findClass_of_methodNamed Bd.named
  have hnm := (name_of_methodNamed Bd.named Bd.method).1
  have X0 : Stand p l e ({ frames := 1, cells := 1, slots := 4, locals := 12 } : Room) s m #[(.ref p0), (.int p1)] below meth kc s₁ [] 0 0 := Stand.of_body Bd
  have e0 : s₁.heap = h0 := by rw [← hh, Bd.state]; rfl
  have N0 := Fr.nil n0
  show own_G p.tables e below (own_E below s ({ frames := 1, cells := 1, slots := 4, locals := 12 } : Room).cells ({ frames := 1, cells := 1, slots := 4, locals := 12 } : Room).slots (Q_init Z p0 p1 h0 n0)) _
  refine own_go (fun _ k => castTop (ef_init m p0 p1) k) ?_
  subst hp
  show own_G p.tables e below _ (s₁.setTop (mkF m 0 #[.val (.ref p0), .val (.int (4 : Int32)), .unset] []))
  refine own_go (fun _ kt => XS.aloadN X0.here hx rfl (hb hby d1_0) rfl rfl kt) ?_
  show own_G p.tables e below _ (s₁.setTop (mkF m 1 #[.val (.ref p0), .val (.int (4 : Int32)), .unset] [(.ref p0)]))
  obtain ⟨T1, X1, e1, st1⟩ := initO X0 hx hZ hown (hw _ (List.mem_of_getElem? (i := 7) rfl)) (hw _ (List.mem_of_getElem? (i := 8) rfl)) (hw _ (List.mem_of_getElem? (i := 9) rfl)) e0 (g := (mkF m 1 #[.val (.ref p0), .val (.int (4 : Int32)), .unset] [(.ref p0)])) rfl (by rw [hml]; rfl) rfl (hb hby d1_1) (by decide) (W := 0) (by show 2 * 0 + _ ≤ _; exact Nat.le_of_eq rfl) (by decide)
  refine own_go st1 ?_
  show own_G p.tables e below _ (T1.setTop (mkF m 4 #[.val (.ref p0), .val (.int (4 : Int32)), .unset] []))
  refine own_go (fun _ kt => XS.aloadN X1.here hx rfl (hb hby d1_4) rfl rfl kt) ?_
  show own_G p.tables e below _ (T1.setTop (mkF m 5 #[.val (.ref p0), .val (.int (4 : Int32)), .unset] [(.ref p0)]))
  refine own_go (fun _ kt => XS.iloadN X1.here hx rfl (hb hby d1_5) rfl kt) ?_
  show own_G p.tables e below _ (T1.setTop (mkF m 6 #[.val (.ref p0), .val (.int (4 : Int32)), .unset] [(.int (4 : Int32)), (.ref p0)]))
  obtain ⟨T2, h2, k2, X2, e2, E2, A2, st2⟩ := newP X1 hx hZ (hw _ (List.mem_of_getElem? (i := 0) rfl)) e1 (g := (mkF m 6 #[.val (.ref p0), .val (.int (4 : Int32)), .unset] [(.int (4 : Int32)), (.ref p0)])) rfl (hb hby d1_6) rfl (by decide) (cap := 4) (by decide) (by decide) (Nat.le_of_ble_eq_true rfl) (Nat.le_of_ble_eq_true rfl)
  obtain ⟨b2, g2⟩ : ∃ z, z = h0.size := ⟨_, rfl⟩
  rw [← g2] at A2 st2
  have ne_p0_b2 : p0 ≠ b2 := Nat.ne_of_lt (Nat.lt_of_lt_of_le E0.lt (Nat.le_of_eq g2.symm))
  have g_b2 : n0 ≤ b2 := Nat.le_trans Z0 (Nat.le_of_eq g2.symm)
  have sz_b2 : h0.size ≤ b2 := Nat.le_trans (Keep.refl h0 [p0]).1 (Nat.le_of_eq g2.symm)
  refine own_go st2 ?_
  have Z2 : n0 ≤ h2.size := Nat.le_trans Z0 E2.1
  have K2 : Keep h0 h2 [p0] := (Keep.refl h0 [p0]).ext E2
  have V2 := own_A.new A2 (N := 4) (by decide)
  show own_G p.tables e below _ (T2.setTop (mkF m 8 #[.val (.ref p0), .val (.int (4 : Int32)), .unset] [(.ref b2), (.ref p0)]))
  have u3 := (F0.ext E2)
  have u4 := (E0.ext E2)
  obtain ⟨T5, h5, X5, e5, W5, st5⟩ := putF X2 hx hZ hown (host := "") (Or.inl (hw _ (List.mem_of_getElem? (i := 10) rfl))) Via.refl e2 u3 u4 (Or.inr ⟨(hw _ (List.mem_of_getElem? (i := 11) rfl)), rfl, hnm⟩) (hw _ (List.mem_of_getElem? (i := 2) rfl)) (ty := (.array .int)) (by decide) rfl rfl (g := (mkF m 8 #[.val (.ref p0), .val (.int (4 : Int32)), .unset] [(.ref b2), (.ref p0)])) rfl rfl (hb hby d1_8)
  refine own_go st5 ?_
  have N5 := Fr.snoc X5 N0 g0
  have Z5 : n0 ≤ h5.size := Nat.le_trans Z2 (Keep.of_wr W5).1
  have K5 : Keep h0 h5 [p0] := K2.wr W5 (Or.inl (List.mem_of_getElem? (i := 0) rfl))
  have Fw5 := Fld.same W5 u3
  show own_G p.tables e below _ (T5.setTop (mkF m 11 #[.val (.ref p0), .val (.int (4 : Int32)), .unset] []))
  refine own_go (fun _ kt => XS.iconst X5.here hx rfl (hb hby d1_11) kt) ?_
  show own_G p.tables e below _ (T5.setTop (mkF m 12 #[.val (.ref p0), .val (.int (4 : Int32)), .unset] [(.int (0 : Int32))]))
  refine own_go (fun _ kt => XS.istoreN X5.here hx rfl (hb hby d1_12) rfl (l' := #[.val (.ref p0), .val (.int (4 : Int32)), .val (.int (0 : Int32))]) rfl kt) ?_
  show own_G p.tables e below _ (T5.setTop (mkF m 13 #[.val (.ref p0), .val (.int (4 : Int32)), .val (.int (0 : Int32))] []))
  refine own_go (fun _ kt => XS.iloadN X5.here hx rfl (hb hby d1_13) rfl kt) ?_
  show own_G p.tables e below _ (T5.setTop (mkF m 14 #[.val (.ref p0), .val (.int (4 : Int32)), .val (.int (0 : Int32))] [(.int (0 : Int32))]))
  refine own_go (fun _ kt => XS.iloadN X5.here hx rfl (hb hby d1_14) rfl kt) ?_
  show own_G p.tables e below _ (T5.setTop (mkF m 15 #[.val (.ref p0), .val (.int (4 : Int32)), .val (.int (0 : Int32))] [(.int (4 : Int32)), (.int (0 : Int32))]))
  refine own_go (fun _ kt => XS.icmpNo X5.here hx rfl (hb hby d1_15) rfl (tlt (by decide : (0 : Int32) < (4 : Int32))).2.1 kt) ?_
  show own_G p.tables e below _ (T5.setTop (mkF m 18 #[.val (.ref p0), .val (.int (4 : Int32)), .val (.int (0 : Int32))] []))
  refine own_go (fun _ kt => XS.aloadN X5.here hx rfl (hb hby d1_18) rfl rfl kt) ?_
  show own_G p.tables e below _ (T5.setTop (mkF m 19 #[.val (.ref p0), .val (.int (4 : Int32)), .val (.int (0 : Int32))] [(.ref p0)]))
  obtain ⟨T6, X6, e6, st6⟩ := getF X5 hx hZ hown (host := "") (Or.inl (hw _ (List.mem_of_getElem? (i := 10) rfl))) Via.refl e5 Fw5 (g := (mkF m 19 #[.val (.ref p0), .val (.int (4 : Int32)), .val (.int (0 : Int32))] [(.ref p0)])) rfl rfl (hb hby d1_19)
  refine own_go st6 ?_
  show own_G p.tables e below _ (T6.setTop (mkF m 22 #[.val (.ref p0), .val (.int (4 : Int32)), .val (.int (0 : Int32))] [(.ref b2)]))
  refine own_go (fun _ kt => XS.iloadN X6.here hx rfl (hb hby d1_22) rfl kt) ?_
  show own_G p.tables e below _ (T6.setTop (mkF m 23 #[.val (.ref p0), .val (.int (4 : Int32)), .val (.int (0 : Int32))] [(.int (0 : Int32)), (.ref b2)]))
  refine own_go (fun _ kt => XS.iloadN X6.here hx rfl (hb hby d1_23) rfl kt) ?_
  show own_G p.tables e below _ (T6.setTop (mkF m 24 #[.val (.ref p0), .val (.int (4 : Int32)), .val (.int (0 : Int32))] [(.int (0 : Int32)), (.int (0 : Int32)), (.ref b2)]))
  have u7 := (V2.other W5 (Ne.symm ne_p0_b2))
  obtain ⟨T8, h8, X8, e8, W8, V8, st8⟩ := own_stI X6 hx hZ e6 u7 (j := (0 : Int32)) (by decide) (by decide) (g := (mkF m 24 #[.val (.ref p0), .val (.int (4 : Int32)), .val (.int (0 : Int32))] [(.int (0 : Int32)), (.int (0 : Int32)), (.ref b2)])) rfl rfl (hb hby d1_24)
  refine own_go st8 ?_
  have N8 := Fr.snoc X8 N5 g_b2
  have Z8 : n0 ≤ h8.size := Nat.le_trans Z5 (Keep.of_wr W8).1
  have K8 : Keep h0 h8 [p0] := K5.wr W8 (Or.inr sz_b2)
  show own_G p.tables e below _ (T8.setTop (mkF m 25 #[.val (.ref p0), .val (.int (4 : Int32)), .val (.int (0 : Int32))] []))
  refine own_go (fun _ kt => XS.iinc X8.here hx rfl (hb hby d1_25) rfl (l' := #[.val (.ref p0), .val (.int (4 : Int32)), .val (.int ((0 : Int32) + (1 : Int32)))]) rfl kt) ?_
  show own_G p.tables e below _ (T8.setTop (mkF m 28 #[.val (.ref p0), .val (.int (4 : Int32)), .val (.int ((0 : Int32) + (1 : Int32)))] []))
  refine own_go (fun _ kt => XS.goto X8.here hx rfl (pc0 := 28) (pc' := 13) rfl (hb hby d1_28) (by decide) (by decide) kt) ?_
  show own_G p.tables e below _ (T8.setTop (mkF m 13 #[.val (.ref p0), .val (.int (4 : Int32)), .val (.int ((0 : Int32) + (1 : Int32)))] []))
  refine own_go (fun _ kt => XS.iloadN X8.here hx rfl (hb hby d1_13) rfl kt) ?_
  show own_G p.tables e below _ (T8.setTop (mkF m 14 #[.val (.ref p0), .val (.int (4 : Int32)), .val (.int ((0 : Int32) + (1 : Int32)))] [(.int ((0 : Int32) + (1 : Int32)))]))
  refine own_go (fun _ kt => XS.iloadN X8.here hx rfl (hb hby d1_14) rfl kt) ?_
  show own_G p.tables e below _ (T8.setTop (mkF m 15 #[.val (.ref p0), .val (.int (4 : Int32)), .val (.int ((0 : Int32) + (1 : Int32)))] [(.int (4 : Int32)), (.int ((0 : Int32) + (1 : Int32)))]))
  refine own_go (fun _ kt => XS.icmpNo X8.here hx rfl (hb hby d1_15) rfl (tlt (by decide : ((0 : Int32) + (1 : Int32)) < (4 : Int32))).2.1 kt) ?_
  show own_G p.tables e below _ (T8.setTop (mkF m 18 #[.val (.ref p0), .val (.int (4 : Int32)), .val (.int ((0 : Int32) + (1 : Int32)))] []))
  refine own_go (fun _ kt => XS.aloadN X8.here hx rfl (hb hby d1_18) rfl rfl kt) ?_
  show own_G p.tables e below _ (T8.setTop (mkF m 19 #[.val (.ref p0), .val (.int (4 : Int32)), .val (.int ((0 : Int32) + (1 : Int32)))] [(.ref p0)]))
  have u9 := (Fw5.other W8 (Or.inl ne_p0_b2))
  obtain ⟨T10, X10, e10, st10⟩ := getF X8 hx hZ hown (host := "") (Or.inl (hw _ (List.mem_of_getElem? (i := 10) rfl))) Via.refl e8 u9 (g := (mkF m 19 #[.val (.ref p0), .val (.int (4 : Int32)), .val (.int ((0 : Int32) + (1 : Int32)))] [(.ref p0)])) rfl rfl (hb hby d1_19)
  refine own_go st10 ?_
  show own_G p.tables e below _ (T10.setTop (mkF m 22 #[.val (.ref p0), .val (.int (4 : Int32)), .val (.int ((0 : Int32) + (1 : Int32)))] [(.ref b2)]))
  refine own_go (fun _ kt => XS.iloadN X10.here hx rfl (hb hby d1_22) rfl kt) ?_
  show own_G p.tables e below _ (T10.setTop (mkF m 23 #[.val (.ref p0), .val (.int (4 : Int32)), .val (.int ((0 : Int32) + (1 : Int32)))] [(.int ((0 : Int32) + (1 : Int32))), (.ref b2)]))
  refine own_go (fun _ kt => XS.iloadN X10.here hx rfl (hb hby d1_23) rfl kt) ?_
  show own_G p.tables e below _ (T10.setTop (mkF m 24 #[.val (.ref p0), .val (.int (4 : Int32)), .val (.int ((0 : Int32) + (1 : Int32)))] [(.int ((0 : Int32) + (1 : Int32))), (.int ((0 : Int32) + (1 : Int32))), (.ref b2)]))
  obtain ⟨T11, h11, X11, e11, W11, V11, st11⟩ := own_stI X10 hx hZ e10 V8 (j := ((0 : Int32) + (1 : Int32))) (by decide) (by decide) (g := (mkF m 24 #[.val (.ref p0), .val (.int (4 : Int32)), .val (.int ((0 : Int32) + (1 : Int32)))] [(.int ((0 : Int32) + (1 : Int32))), (.int ((0 : Int32) + (1 : Int32))), (.ref b2)])) rfl rfl (hb hby d1_24)
  refine own_go st11 ?_
  have N11 := Fr.snoc X11 N8 g_b2
  have Z11 : n0 ≤ h11.size := Nat.le_trans Z8 (Keep.of_wr W11).1
  have K11 : Keep h0 h11 [p0] := K8.wr W11 (Or.inr sz_b2)
  show own_G p.tables e below _ (T11.setTop (mkF m 25 #[.val (.ref p0), .val (.int (4 : Int32)), .val (.int ((0 : Int32) + (1 : Int32)))] []))
  refine own_go (fun _ kt => XS.iinc X11.here hx rfl (hb hby d1_25) rfl (l' := #[.val (.ref p0), .val (.int (4 : Int32)), .val (.int (((0 : Int32) + (1 : Int32)) + (1 : Int32)))]) rfl kt) ?_
  show own_G p.tables e below _ (T11.setTop (mkF m 28 #[.val (.ref p0), .val (.int (4 : Int32)), .val (.int (((0 : Int32) + (1 : Int32)) + (1 : Int32)))] []))
  refine own_go (fun _ kt => XS.goto X11.here hx rfl (pc0 := 28) (pc' := 13) rfl (hb hby d1_28) (by decide) (by decide) kt) ?_
  show own_G p.tables e below _ (T11.setTop (mkF m 13 #[.val (.ref p0), .val (.int (4 : Int32)), .val (.int (((0 : Int32) + (1 : Int32)) + (1 : Int32)))] []))
  refine own_go (fun _ kt => XS.iloadN X11.here hx rfl (hb hby d1_13) rfl kt) ?_
  show own_G p.tables e below _ (T11.setTop (mkF m 14 #[.val (.ref p0), .val (.int (4 : Int32)), .val (.int (((0 : Int32) + (1 : Int32)) + (1 : Int32)))] [(.int (((0 : Int32) + (1 : Int32)) + (1 : Int32)))]))
  refine own_go (fun _ kt => XS.iloadN X11.here hx rfl (hb hby d1_14) rfl kt) ?_
  show own_G p.tables e below _ (T11.setTop (mkF m 15 #[.val (.ref p0), .val (.int (4 : Int32)), .val (.int (((0 : Int32) + (1 : Int32)) + (1 : Int32)))] [(.int (4 : Int32)), (.int (((0 : Int32) + (1 : Int32)) + (1 : Int32)))]))
  refine own_go (fun _ kt => XS.icmpNo X11.here hx rfl (hb hby d1_15) rfl (tlt (by decide : (((0 : Int32) + (1 : Int32)) + (1 : Int32)) < (4 : Int32))).2.1 kt) ?_
  show own_G p.tables e below _ (T11.setTop (mkF m 18 #[.val (.ref p0), .val (.int (4 : Int32)), .val (.int (((0 : Int32) + (1 : Int32)) + (1 : Int32)))] []))
  refine own_go (fun _ kt => XS.aloadN X11.here hx rfl (hb hby d1_18) rfl rfl kt) ?_
  show own_G p.tables e below _ (T11.setTop (mkF m 19 #[.val (.ref p0), .val (.int (4 : Int32)), .val (.int (((0 : Int32) + (1 : Int32)) + (1 : Int32)))] [(.ref p0)]))
  have u12 := (u9.other W11 (Or.inl ne_p0_b2))
  obtain ⟨T13, X13, e13, st13⟩ := getF X11 hx hZ hown (host := "") (Or.inl (hw _ (List.mem_of_getElem? (i := 10) rfl))) Via.refl e11 u12 (g := (mkF m 19 #[.val (.ref p0), .val (.int (4 : Int32)), .val (.int (((0 : Int32) + (1 : Int32)) + (1 : Int32)))] [(.ref p0)])) rfl rfl (hb hby d1_19)
  refine own_go st13 ?_
  show own_G p.tables e below _ (T13.setTop (mkF m 22 #[.val (.ref p0), .val (.int (4 : Int32)), .val (.int (((0 : Int32) + (1 : Int32)) + (1 : Int32)))] [(.ref b2)]))
  refine own_go (fun _ kt => XS.iloadN X13.here hx rfl (hb hby d1_22) rfl kt) ?_
  show own_G p.tables e below _ (T13.setTop (mkF m 23 #[.val (.ref p0), .val (.int (4 : Int32)), .val (.int (((0 : Int32) + (1 : Int32)) + (1 : Int32)))] [(.int (((0 : Int32) + (1 : Int32)) + (1 : Int32))), (.ref b2)]))
  refine own_go (fun _ kt => XS.iloadN X13.here hx rfl (hb hby d1_23) rfl kt) ?_
  show own_G p.tables e below _ (T13.setTop (mkF m 24 #[.val (.ref p0), .val (.int (4 : Int32)), .val (.int (((0 : Int32) + (1 : Int32)) + (1 : Int32)))] [(.int (((0 : Int32) + (1 : Int32)) + (1 : Int32))), (.int (((0 : Int32) + (1 : Int32)) + (1 : Int32))), (.ref b2)]))
  obtain ⟨T14, h14, X14, e14, W14, V14, st14⟩ := own_stI X13 hx hZ e13 V11 (j := (((0 : Int32) + (1 : Int32)) + (1 : Int32))) (by decide) (by decide) (g := (mkF m 24 #[.val (.ref p0), .val (.int (4 : Int32)), .val (.int (((0 : Int32) + (1 : Int32)) + (1 : Int32)))] [(.int (((0 : Int32) + (1 : Int32)) + (1 : Int32))), (.int (((0 : Int32) + (1 : Int32)) + (1 : Int32))), (.ref b2)])) rfl rfl (hb hby d1_24)
  refine own_go st14 ?_
  have N14 := Fr.snoc X14 N11 g_b2
  have Z14 : n0 ≤ h14.size := Nat.le_trans Z11 (Keep.of_wr W14).1
  have K14 : Keep h0 h14 [p0] := K11.wr W14 (Or.inr sz_b2)
  show own_G p.tables e below _ (T14.setTop (mkF m 25 #[.val (.ref p0), .val (.int (4 : Int32)), .val (.int (((0 : Int32) + (1 : Int32)) + (1 : Int32)))] []))
  refine own_go (fun _ kt => XS.iinc X14.here hx rfl (hb hby d1_25) rfl (l' := #[.val (.ref p0), .val (.int (4 : Int32)), .val (.int ((((0 : Int32) + (1 : Int32)) + (1 : Int32)) + (1 : Int32)))]) rfl kt) ?_
  show own_G p.tables e below _ (T14.setTop (mkF m 28 #[.val (.ref p0), .val (.int (4 : Int32)), .val (.int ((((0 : Int32) + (1 : Int32)) + (1 : Int32)) + (1 : Int32)))] []))
  refine own_go (fun _ kt => XS.goto X14.here hx rfl (pc0 := 28) (pc' := 13) rfl (hb hby d1_28) (by decide) (by decide) kt) ?_
  show own_G p.tables e below _ (T14.setTop (mkF m 13 #[.val (.ref p0), .val (.int (4 : Int32)), .val (.int ((((0 : Int32) + (1 : Int32)) + (1 : Int32)) + (1 : Int32)))] []))
  refine own_go (fun _ kt => XS.iloadN X14.here hx rfl (hb hby d1_13) rfl kt) ?_
  show own_G p.tables e below _ (T14.setTop (mkF m 14 #[.val (.ref p0), .val (.int (4 : Int32)), .val (.int ((((0 : Int32) + (1 : Int32)) + (1 : Int32)) + (1 : Int32)))] [(.int ((((0 : Int32) + (1 : Int32)) + (1 : Int32)) + (1 : Int32)))]))
  refine own_go (fun _ kt => XS.iloadN X14.here hx rfl (hb hby d1_14) rfl kt) ?_
  show own_G p.tables e below _ (T14.setTop (mkF m 15 #[.val (.ref p0), .val (.int (4 : Int32)), .val (.int ((((0 : Int32) + (1 : Int32)) + (1 : Int32)) + (1 : Int32)))] [(.int (4 : Int32)), (.int ((((0 : Int32) + (1 : Int32)) + (1 : Int32)) + (1 : Int32)))]))
  refine own_go (fun _ kt => XS.icmpNo X14.here hx rfl (hb hby d1_15) rfl (tlt (by decide : ((((0 : Int32) + (1 : Int32)) + (1 : Int32)) + (1 : Int32)) < (4 : Int32))).2.1 kt) ?_
  show own_G p.tables e below _ (T14.setTop (mkF m 18 #[.val (.ref p0), .val (.int (4 : Int32)), .val (.int ((((0 : Int32) + (1 : Int32)) + (1 : Int32)) + (1 : Int32)))] []))
  refine own_go (fun _ kt => XS.aloadN X14.here hx rfl (hb hby d1_18) rfl rfl kt) ?_
  show own_G p.tables e below _ (T14.setTop (mkF m 19 #[.val (.ref p0), .val (.int (4 : Int32)), .val (.int ((((0 : Int32) + (1 : Int32)) + (1 : Int32)) + (1 : Int32)))] [(.ref p0)]))
  have u15 := (u12.other W14 (Or.inl ne_p0_b2))
  obtain ⟨T16, X16, e16, st16⟩ := getF X14 hx hZ hown (host := "") (Or.inl (hw _ (List.mem_of_getElem? (i := 10) rfl))) Via.refl e14 u15 (g := (mkF m 19 #[.val (.ref p0), .val (.int (4 : Int32)), .val (.int ((((0 : Int32) + (1 : Int32)) + (1 : Int32)) + (1 : Int32)))] [(.ref p0)])) rfl rfl (hb hby d1_19)
  refine own_go st16 ?_
  show own_G p.tables e below _ (T16.setTop (mkF m 22 #[.val (.ref p0), .val (.int (4 : Int32)), .val (.int ((((0 : Int32) + (1 : Int32)) + (1 : Int32)) + (1 : Int32)))] [(.ref b2)]))
  refine own_go (fun _ kt => XS.iloadN X16.here hx rfl (hb hby d1_22) rfl kt) ?_
  show own_G p.tables e below _ (T16.setTop (mkF m 23 #[.val (.ref p0), .val (.int (4 : Int32)), .val (.int ((((0 : Int32) + (1 : Int32)) + (1 : Int32)) + (1 : Int32)))] [(.int ((((0 : Int32) + (1 : Int32)) + (1 : Int32)) + (1 : Int32))), (.ref b2)]))
  refine own_go (fun _ kt => XS.iloadN X16.here hx rfl (hb hby d1_23) rfl kt) ?_
  show own_G p.tables e below _ (T16.setTop (mkF m 24 #[.val (.ref p0), .val (.int (4 : Int32)), .val (.int ((((0 : Int32) + (1 : Int32)) + (1 : Int32)) + (1 : Int32)))] [(.int ((((0 : Int32) + (1 : Int32)) + (1 : Int32)) + (1 : Int32))), (.int ((((0 : Int32) + (1 : Int32)) + (1 : Int32)) + (1 : Int32))), (.ref b2)]))
  obtain ⟨T17, h17, X17, e17, W17, V17, st17⟩ := own_stI X16 hx hZ e16 V14 (j := ((((0 : Int32) + (1 : Int32)) + (1 : Int32)) + (1 : Int32))) (by decide) (by decide) (g := (mkF m 24 #[.val (.ref p0), .val (.int (4 : Int32)), .val (.int ((((0 : Int32) + (1 : Int32)) + (1 : Int32)) + (1 : Int32)))] [(.int ((((0 : Int32) + (1 : Int32)) + (1 : Int32)) + (1 : Int32))), (.int ((((0 : Int32) + (1 : Int32)) + (1 : Int32)) + (1 : Int32))), (.ref b2)])) rfl rfl (hb hby d1_24)
  refine own_go st17 ?_
  have N17 := Fr.snoc X17 N14 g_b2
  have Z17 : n0 ≤ h17.size := Nat.le_trans Z14 (Keep.of_wr W17).1
  have K17 : Keep h0 h17 [p0] := K14.wr W17 (Or.inr sz_b2)
  show own_G p.tables e below _ (T17.setTop (mkF m 25 #[.val (.ref p0), .val (.int (4 : Int32)), .val (.int ((((0 : Int32) + (1 : Int32)) + (1 : Int32)) + (1 : Int32)))] []))
  refine own_go (fun _ kt => XS.iinc X17.here hx rfl (hb hby d1_25) rfl (l' := #[.val (.ref p0), .val (.int (4 : Int32)), .val (.int (((((0 : Int32) + (1 : Int32)) + (1 : Int32)) + (1 : Int32)) + (1 : Int32)))]) rfl kt) ?_
  show own_G p.tables e below _ (T17.setTop (mkF m 28 #[.val (.ref p0), .val (.int (4 : Int32)), .val (.int (((((0 : Int32) + (1 : Int32)) + (1 : Int32)) + (1 : Int32)) + (1 : Int32)))] []))
  refine own_go (fun _ kt => XS.goto X17.here hx rfl (pc0 := 28) (pc' := 13) rfl (hb hby d1_28) (by decide) (by decide) kt) ?_
  show own_G p.tables e below _ (T17.setTop (mkF m 13 #[.val (.ref p0), .val (.int (4 : Int32)), .val (.int (((((0 : Int32) + (1 : Int32)) + (1 : Int32)) + (1 : Int32)) + (1 : Int32)))] []))
  refine own_go (fun _ kt => XS.iloadN X17.here hx rfl (hb hby d1_13) rfl kt) ?_
  show own_G p.tables e below _ (T17.setTop (mkF m 14 #[.val (.ref p0), .val (.int (4 : Int32)), .val (.int (((((0 : Int32) + (1 : Int32)) + (1 : Int32)) + (1 : Int32)) + (1 : Int32)))] [(.int (((((0 : Int32) + (1 : Int32)) + (1 : Int32)) + (1 : Int32)) + (1 : Int32)))]))
  refine own_go (fun _ kt => XS.iloadN X17.here hx rfl (hb hby d1_14) rfl kt) ?_
  show own_G p.tables e below _ (T17.setTop (mkF m 15 #[.val (.ref p0), .val (.int (4 : Int32)), .val (.int (((((0 : Int32) + (1 : Int32)) + (1 : Int32)) + (1 : Int32)) + (1 : Int32)))] [(.int (4 : Int32)), (.int (((((0 : Int32) + (1 : Int32)) + (1 : Int32)) + (1 : Int32)) + (1 : Int32)))]))
  refine own_go (fun _ kt => XS.icmpYes X17.here hx rfl (pc0 := 15) (pc' := 31) rfl (hb hby d1_15) rfl (flt (by decide : ¬ ((((((0 : Int32) + (1 : Int32)) + (1 : Int32)) + (1 : Int32)) + (1 : Int32)) < (4 : Int32)))).2.1 (by decide) (by decide) kt) ?_
  have VV : own_A Z h17 b2 .int 4 (own_arr 0 1 2 3) := own_A.congr V17 (fun j hj => by
    have hj' : j = 0 ∨ j = 1 ∨ j = 2 ∨ j = 3 := by omega
    rcases hj' with rfl | rfl | rfl | rfl <;> rfl)
  have u18 := (((((u4.wr W5).wr W8).wr W11).wr W14).wr W17)
  have u19 := (u15.other W17 (Or.inl ne_p0_b2))
  show own_G p.tables e below _ (T17.setTop (mkF m 31 #[.val (.ref p0), .val (.int (4 : Int32)), .val (.int (((((0 : Int32) + (1 : Int32)) + (1 : Int32)) + (1 : Int32)) + (1 : Int32)))] []))
  exact own_retV X17 hx Bd.returns hlk (hb hby d1_31) (Nat.le_of_ble_eq_true rfl) (Nat.le_of_ble_eq_true rfl) e17 ⟨rfl, N17, K17, _, sz_b2, u18, u19, VV, ne_p0_b2, g0, g_b2, by decide⟩
theorem own_here {r v a b c d : Fin 4} : own_f (own_pt r v 0 a) (own_pt r v 1 b) (own_pt r v 2 c) (own_pt r v 3 d) r = v := by
  have h : r = 0 ∨ r = 1 ∨ r = 2 ∨ r = 3 := by revert r; decide
  rcases h with rfl | rfl | rfl | rfl <;> rfl
theorem d4_2 : decode prog_6_method_4_code 2 = .ok (.aload_n 0, 1) := by decide +kernel
theorem d4_3 : decode prog_6_method_4_code 3 = .ok (.getfield 7, 3) := by decide +kernel
theorem d4_6 : decode prog_6_method_4_code 6 = .ok (.iload_n 2, 1) := by decide +kernel
theorem d4_7 : decode prog_6_method_4_code 7 = .ok (.iaload, 1) := by decide +kernel
theorem d4_8 : decode prog_6_method_4_code 8 = .ok (.iload_n 2, 1) := by decide +kernel
theorem d4_9 : decode prog_6_method_4_code 9 = .ok (.if_icmp .eq 30, 3) := by decide +kernel
theorem d4_39 : decode prog_6_method_4_code 39 = .ok (.iload_n 2, 1) := by decide +kernel
theorem d4_40 : decode prog_6_method_4_code 40 = .ok (.ireturn, 1) := by decide +kernel
theorem d4_12 : decode prog_6_method_4_code 12 = .ok (.aload_n 0, 1) := by decide +kernel
theorem d4_13 : decode prog_6_method_4_code 13 = .ok (.getfield 7, 3) := by decide +kernel
theorem d4_16 : decode prog_6_method_4_code 16 = .ok (.iload_n 2, 1) := by decide +kernel
theorem d4_17 : decode prog_6_method_4_code 17 = .ok (.aload_n 0, 1) := by decide +kernel
theorem d4_18 : decode prog_6_method_4_code 18 = .ok (.getfield 7, 3) := by decide +kernel
theorem d4_21 : decode prog_6_method_4_code 21 = .ok (.aload_n 0, 1) := by decide +kernel
theorem d4_22 : decode prog_6_method_4_code 22 = .ok (.getfield 7, 3) := by decide +kernel
theorem d4_25 : decode prog_6_method_4_code 25 = .ok (.iload_n 2, 1) := by decide +kernel
theorem d4_26 : decode prog_6_method_4_code 26 = .ok (.iaload, 1) := by decide +kernel
theorem d4_27 : decode prog_6_method_4_code 27 = .ok (.iaload, 1) := by decide +kernel
theorem d4_28 : decode prog_6_method_4_code 28 = .ok (.iastore, 1) := by decide +kernel
theorem d4_29 : decode prog_6_method_4_code 29 = .ok (.aload_n 0, 1) := by decide +kernel
theorem d4_30 : decode prog_6_method_4_code 30 = .ok (.getfield 7, 3) := by decide +kernel
theorem d4_33 : decode prog_6_method_4_code 33 = .ok (.iload_n 2, 1) := by decide +kernel
theorem d4_34 : decode prog_6_method_4_code 34 = .ok (.iaload, 1) := by decide +kernel
theorem d4_35 : decode prog_6_method_4_code 35 = .ok (.istore_n 2, 1) := by decide +kernel
theorem d4_36 : decode prog_6_method_4_code 36 = .ok (.goto (-34), 3) := by decide +kernel
theorem d4_0 : decode prog_6_method_4_code 0 = .ok (.iload_n 1, 1) := by decide +kernel
theorem d4_1 : decode prog_6_method_4_code 1 = .ok (.istore_n 2, 1) := by decide +kernel
theorem ef_root (m : MethodId) (p0 : Addr) (p1 : Int32) : entryFrame m #[(.ref p0), (.int p1)] 3 = mkF m 0 #[.val (.ref p0), .val (.int p1), .unset] [] := by first | (simp [entryFrame, mkF, argsToLocals, Value.category]; done) | rfl
def Q_root (Z : State) (p0 : Addr) (p1 : Int32) (w : Addr) (a : Fin 4) (b : Fin 4) (c : Fin 4) (d : Fin 4) (x : Fin 4) (h0 : Heap) (n0 : Nat) (v : Option Value) (h : Heap) (L : List Loc) : Prop := ∃ a' b' c' d', v = some (.int (own_n (own_rt a b c d x))) ∧ Fr n0 L ∧ Keep h0 h [w] ∧ own_D Z h n0 p0 w a' b' c' d' ∧ ∀ y : Fin 4, own_rt a' b' c' d' y = own_rt a b c d y
set_option maxRecDepth 65536 in
set_option maxHeartbeats 40000000 in
theorem rm_root (l : Launch) (Z : State) (a0 : Array Value) (hw : ∀ d ∈ tables_1, d.before a0 Z = true) (ws : List Jvm.Cond) (p0 : Addr) (p1 : Int32) (w : Addr) (a : Fin 4) (b : Fin 4) (c : Fin 4) (d : Fin 4) (x : Fin 4) (h0 : Heap) (n0 : Nat) (Z0 : n0 ≤ h0.size) (hp1 : own_n x = p1) (D0 : own_D Z h0 n0 p0 w a b c d) :
    MetFree l (⟨"com/example/weftwork/weftwork/graph/DisjointSets", "root", "(I)I"⟩ : MethodName) (head1 (Jvm.Cond.code (⟨"com/example/weftwork/weftwork/graph/DisjointSets", "root", "(I)I"⟩ : MethodName) prog_6_method_4_code 3 (some .int) :: ws) ({ frames := 0, cells := 0, slots := 0, locals := 0 } : Room)) (fun a U => a = #[(.ref p0), (.int p1)] ∧ Z.Warmed39 U.vm ∧ U.heap = h0) (fun _ _ _ _ _ => True) (fun _ U o U' => ∃ v L, o = .returned v ∧ Q_root Z p0 p1 w a b c d x h0 n0 v U'.heap L ∧ FrameEnd U o U' L ({ frames := 0, cells := 0, slots := 0, locals := 0 } : Room).cells ({ frames := 0, cells := 0, slots := 0, locals := 0 } : Room).slots) := by
  refine MetFree.of_bodySF (plainFor_of_name pn_com_example_weftwork_weftwork_graph_DisjointSets) hisR ?_
  intro p e s m args below meth kc s₁ Bd hml0 hP hK
  obtain ⟨rfl, hZ, hh⟩ := hP
  have hx := Bd.exec
  have hby := Bd.bytes
  have hlk := Bd.notSynchronized
  have hml : kc.maxLocals = 3 := hml0
  have hown : s.vm.findClass "com/example/weftwork/weftwork/graph/DisjointSets" = some m.cls := findClass_of_methodNamed Bd.named
  have hnm := (name_of_methodNamed Bd.named Bd.method).1
  have X0 : Stand p l e ({ frames := 0, cells := 0, slots := 0, locals := 0 } : Room) s m #[(.ref p0), (.int p1)] below meth kc s₁ [] 0 0 := Stand.of_body Bd
  have e0 : s₁.heap = h0 := by rw [← hh, Bd.state]; rfl
  have N0 := Fr.nil n0
  show own_G p.tables e below (own_E below s ({ frames := 0, cells := 0, slots := 0, locals := 0 } : Room).cells ({ frames := 0, cells := 0, slots := 0, locals := 0 } : Room).slots (Q_root Z p0 p1 w a b c d x h0 n0)) _
  refine own_go (fun _ k => castTop (ef_root m p0 p1) k) ?_
  subst hp1
  have loop : ∀ (k : Nat), ∀ (T20 : State) (locs20 : List Loc) (h20 : Heap) (a' b' c' d' r : Fin 4), Stand p l e ({ frames := 0, cells := 0, slots := 0, locals := 0 } : Room) s m #[(.ref p0), (.int (own_n x))] below meth kc T20 locs20 0 0 → T20.heap = h20 → Fr n0 locs20 → n0 ≤ h20.size → (Keep h0 h20 [w]) → (own_D Z h20 n0 p0 w a' b' c' d') → (∀ y : Fin 4, own_rt a' b' c' d' y = own_rt a b c d y) → (own_rt a b c d r = own_rt a b c d x) → (own_dep a' b' c' d' r ≤ k) → own_G p.tables e below (own_E below s ({ frames := 0, cells := 0, slots := 0, locals := 0 } : Room).cells ({ frames := 0, cells := 0, slots := 0, locals := 0 } : Room).slots (Q_root Z p0 (own_n x) w a b c d x h0 n0)) (T20.setTop (mkF m 2 #[.val (.ref p0), .val (.int (own_n x)), .val (.int (own_n r))] [])) := by
    intro k
    induction k with
    | zero =>
      intro T20 locs20 h20 a' b' c' d' r X20 e20 N20 Z20 Kj Dj hj hr hd
      obtain ⟨E_9, F_9, V_9, nb9, gb9, gw9, ff9⟩ := Dj
      have ht : own_f a' b' c' d' r = r := by apply Decidable.byContradiction; intro hne; have := (own_turn a' b' c' d' r ff9 hne).2.2.2; omega
      show own_G p.tables e below _ (T20.setTop (mkF m 2 #[.val (.ref p0), .val (.int (own_n x)), .val (.int (own_n r))] []))
      refine own_go (fun _ kt => XS.aloadN X20.here hx rfl (hb hby d4_2) rfl rfl kt) ?_
      show own_G p.tables e below _ (T20.setTop (mkF m 3 #[.val (.ref p0), .val (.int (own_n x)), .val (.int (own_n r))] [(.ref p0)]))
      obtain ⟨T21, X21, e21, st21⟩ := getF X20 hx hZ hown (host := "") (Or.inl (hw _ (List.mem_of_getElem? (i := 10) rfl))) Via.refl e20 F_9 (g := (mkF m 3 #[.val (.ref p0), .val (.int (own_n x)), .val (.int (own_n r))] [(.ref p0)])) rfl rfl (hb hby d4_3)
      refine own_go st21 ?_
      show own_G p.tables e below _ (T21.setTop (mkF m 6 #[.val (.ref p0), .val (.int (own_n x)), .val (.int (own_n r))] [(.ref w)]))
      refine own_go (fun _ kt => XS.iloadN X21.here hx rfl (hb hby d4_6) rfl kt) ?_
      show own_G p.tables e below _ (T21.setTop (mkF m 7 #[.val (.ref p0), .val (.int (own_n x)), .val (.int (own_n r))] [(.int (own_n r)), (.ref w)]))
      refine own_go (own_ldI X21 hx hZ e21 V_9 (j := (own_n r)) (v := (.int (own_n (own_f a' b' c' d' r)))) (own_nb r).1 (own_nb r).2 (own_at _ _ _ _ _) (g := (mkF m 7 #[.val (.ref p0), .val (.int (own_n x)), .val (.int (own_n r))] [(.int (own_n r)), (.ref w)])) rfl rfl (hb hby d4_7)) ?_
      show own_G p.tables e below _ (T21.setTop (mkF m 8 #[.val (.ref p0), .val (.int (own_n x)), .val (.int (own_n r))] [(.int (own_n (own_f a' b' c' d' r)))]))
      refine own_go (fun _ kt => XS.iloadN X21.here hx rfl (hb hby d4_8) rfl kt) ?_
      show own_G p.tables e below _ (T21.setTop (mkF m 9 #[.val (.ref p0), .val (.int (own_n x)), .val (.int (own_n r))] [(.int (own_n r)), (.int (own_n (own_f a' b' c' d' r)))]))
      refine own_go (fun _ kt => XS.icmpYes X21.here hx rfl (pc0 := 9) (pc' := 39) rfl (hb hby d4_9) rfl (teq (congrArg own_n ht : (own_n (own_f a' b' c' d' r)) = (own_n r))).1 (by decide) (by decide) kt) ?_
      have hx9 : own_rt a b c d x = r := by rw [← hr, ← hj]; exact own_top _ _ _ _ _ ht
      show own_G p.tables e below _ (T21.setTop (mkF m 39 #[.val (.ref p0), .val (.int (own_n x)), .val (.int (own_n r))] []))
      refine own_go (fun _ kt => XS.iloadN X21.here hx rfl (hb hby d4_39) rfl kt) ?_
      rw [← hx9]
      show own_G p.tables e below _ (T21.setTop (mkF m 40 #[.val (.ref p0), .val (.int (own_n x)), .val (.int (own_n (own_rt a b c d x)))] [(.int (own_n (own_rt a b c d x)))]))
      exact own_retI X21 hx Bd.returns hlk (hb hby d4_40) (Nat.le_of_ble_eq_true rfl) (Nat.le_of_ble_eq_true rfl) e21 ⟨_, _, _, _, rfl, N20, Kj, ⟨E_9, F_9, V_9, nb9, gb9, gw9, ff9⟩, hj⟩
    | succ k ih =>
      intro T20 locs20 h20 a' b' c' d' r X20 e20 N20 Z20 Kj Dj hj hr hd
      obtain ⟨E_9, F_9, V_9, nb9, gb9, gw9, ff9⟩ := Dj
      show own_G p.tables e below _ (T20.setTop (mkF m 2 #[.val (.ref p0), .val (.int (own_n x)), .val (.int (own_n r))] []))
      refine own_go (fun _ kt => XS.aloadN X20.here hx rfl (hb hby d4_2) rfl rfl kt) ?_
      show own_G p.tables e below _ (T20.setTop (mkF m 3 #[.val (.ref p0), .val (.int (own_n x)), .val (.int (own_n r))] [(.ref p0)]))
      obtain ⟨T22, X22, e22, st22⟩ := getF X20 hx hZ hown (host := "") (Or.inl (hw _ (List.mem_of_getElem? (i := 10) rfl))) Via.refl e20 F_9 (g := (mkF m 3 #[.val (.ref p0), .val (.int (own_n x)), .val (.int (own_n r))] [(.ref p0)])) rfl rfl (hb hby d4_3)
      refine own_go st22 ?_
      show own_G p.tables e below _ (T22.setTop (mkF m 6 #[.val (.ref p0), .val (.int (own_n x)), .val (.int (own_n r))] [(.ref w)]))
      refine own_go (fun _ kt => XS.iloadN X22.here hx rfl (hb hby d4_6) rfl kt) ?_
      show own_G p.tables e below _ (T22.setTop (mkF m 7 #[.val (.ref p0), .val (.int (own_n x)), .val (.int (own_n r))] [(.int (own_n r)), (.ref w)]))
      refine own_go (own_ldI X22 hx hZ e22 V_9 (j := (own_n r)) (v := (.int (own_n (own_f a' b' c' d' r)))) (own_nb r).1 (own_nb r).2 (own_at _ _ _ _ _) (g := (mkF m 7 #[.val (.ref p0), .val (.int (own_n x)), .val (.int (own_n r))] [(.int (own_n r)), (.ref w)])) rfl rfl (hb hby d4_7)) ?_
      show own_G p.tables e below _ (T22.setTop (mkF m 8 #[.val (.ref p0), .val (.int (own_n x)), .val (.int (own_n r))] [(.int (own_n (own_f a' b' c' d' r)))]))
      refine own_go (fun _ kt => XS.iloadN X22.here hx rfl (hb hby d4_8) rfl kt) ?_
      by_cases hc : (own_n (own_f a' b' c' d' r)) = (own_n r)
      · show own_G p.tables e below _ (T22.setTop (mkF m 9 #[.val (.ref p0), .val (.int (own_n x)), .val (.int (own_n r))] [(.int (own_n r)), (.int (own_n (own_f a' b' c' d' r)))]))
        refine own_go (fun _ kt => XS.icmpYes X22.here hx rfl (pc0 := 9) (pc' := 39) rfl (hb hby d4_9) rfl (teq (hc : (own_n (own_f a' b' c' d' r)) = (own_n r))).1 (by decide) (by decide) kt) ?_
        have hx9 : own_rt a b c d x = r := by rw [← hr, ← hj]; exact own_top _ _ _ _ _ (own_inj _ _ hc)
        show own_G p.tables e below _ (T22.setTop (mkF m 39 #[.val (.ref p0), .val (.int (own_n x)), .val (.int (own_n r))] []))
        refine own_go (fun _ kt => XS.iloadN X22.here hx rfl (hb hby d4_39) rfl kt) ?_
        rw [← hx9]
        show own_G p.tables e below _ (T22.setTop (mkF m 40 #[.val (.ref p0), .val (.int (own_n x)), .val (.int (own_n (own_rt a b c d x)))] [(.int (own_n (own_rt a b c d x)))]))
        exact own_retI X22 hx Bd.returns hlk (hb hby d4_40) (Nat.le_of_ble_eq_true rfl) (Nat.le_of_ble_eq_true rfl) e22 ⟨_, _, _, _, rfl, N20, Kj, ⟨E_9, F_9, V_9, nb9, gb9, gw9, ff9⟩, hj⟩
      · show own_G p.tables e below _ (T22.setTop (mkF m 9 #[.val (.ref p0), .val (.int (own_n x)), .val (.int (own_n r))] [(.int (own_n r)), (.int (own_n (own_f a' b' c' d' r)))]))
        refine own_go (fun _ kt => XS.icmpNo X22.here hx rfl (hb hby d4_9) rfl (feq (hc : ¬ ((own_n (own_f a' b' c' d' r)) = (own_n r)))).1 kt) ?_
        have hne : own_f a' b' c' d' r ≠ r := fun q => hc (congrArg own_n q)
        obtain ⟨t1, t2, t3, t4⟩ := own_turn a' b' c' d' r ff9 hne
        show own_G p.tables e below _ (T22.setTop (mkF m 12 #[.val (.ref p0), .val (.int (own_n x)), .val (.int (own_n r))] []))
        refine own_go (fun _ kt => XS.aloadN X22.here hx rfl (hb hby d4_12) rfl rfl kt) ?_
        show own_G p.tables e below _ (T22.setTop (mkF m 13 #[.val (.ref p0), .val (.int (own_n x)), .val (.int (own_n r))] [(.ref p0)]))
        obtain ⟨T23, X23, e23, st23⟩ := getF X22 hx hZ hown (host := "") (Or.inl (hw _ (List.mem_of_getElem? (i := 10) rfl))) Via.refl e22 F_9 (g := (mkF m 13 #[.val (.ref p0), .val (.int (own_n x)), .val (.int (own_n r))] [(.ref p0)])) rfl rfl (hb hby d4_13)
        refine own_go st23 ?_
        show own_G p.tables e below _ (T23.setTop (mkF m 16 #[.val (.ref p0), .val (.int (own_n x)), .val (.int (own_n r))] [(.ref w)]))
        refine own_go (fun _ kt => XS.iloadN X23.here hx rfl (hb hby d4_16) rfl kt) ?_
        show own_G p.tables e below _ (T23.setTop (mkF m 17 #[.val (.ref p0), .val (.int (own_n x)), .val (.int (own_n r))] [(.int (own_n r)), (.ref w)]))
        refine own_go (fun _ kt => XS.aloadN X23.here hx rfl (hb hby d4_17) rfl rfl kt) ?_
        show own_G p.tables e below _ (T23.setTop (mkF m 18 #[.val (.ref p0), .val (.int (own_n x)), .val (.int (own_n r))] [(.ref p0), (.int (own_n r)), (.ref w)]))
        obtain ⟨T24, X24, e24, st24⟩ := getF X23 hx hZ hown (host := "") (Or.inl (hw _ (List.mem_of_getElem? (i := 10) rfl))) Via.refl e23 F_9 (g := (mkF m 18 #[.val (.ref p0), .val (.int (own_n x)), .val (.int (own_n r))] [(.ref p0), (.int (own_n r)), (.ref w)])) rfl rfl (hb hby d4_18)
        refine own_go st24 ?_
        show own_G p.tables e below _ (T24.setTop (mkF m 21 #[.val (.ref p0), .val (.int (own_n x)), .val (.int (own_n r))] [(.ref w), (.int (own_n r)), (.ref w)]))
        refine own_go (fun _ kt => XS.aloadN X24.here hx rfl (hb hby d4_21) rfl rfl kt) ?_
        show own_G p.tables e below _ (T24.setTop (mkF m 22 #[.val (.ref p0), .val (.int (own_n x)), .val (.int (own_n r))] [(.ref p0), (.ref w), (.int (own_n r)), (.ref w)]))
        obtain ⟨T25, X25, e25, st25⟩ := getF X24 hx hZ hown (host := "") (Or.inl (hw _ (List.mem_of_getElem? (i := 10) rfl))) Via.refl e24 F_9 (g := (mkF m 22 #[.val (.ref p0), .val (.int (own_n x)), .val (.int (own_n r))] [(.ref p0), (.ref w), (.int (own_n r)), (.ref w)])) rfl rfl (hb hby d4_22)
        refine own_go st25 ?_
        show own_G p.tables e below _ (T25.setTop (mkF m 25 #[.val (.ref p0), .val (.int (own_n x)), .val (.int (own_n r))] [(.ref w), (.ref w), (.int (own_n r)), (.ref w)]))
        refine own_go (fun _ kt => XS.iloadN X25.here hx rfl (hb hby d4_25) rfl kt) ?_
        show own_G p.tables e below _ (T25.setTop (mkF m 26 #[.val (.ref p0), .val (.int (own_n x)), .val (.int (own_n r))] [(.int (own_n r)), (.ref w), (.ref w), (.int (own_n r)), (.ref w)]))
        refine own_go (own_ldI X25 hx hZ e25 V_9 (j := (own_n r)) (v := (.int (own_n (own_f a' b' c' d' r)))) (own_nb r).1 (own_nb r).2 (own_at _ _ _ _ _) (g := (mkF m 26 #[.val (.ref p0), .val (.int (own_n x)), .val (.int (own_n r))] [(.int (own_n r)), (.ref w), (.ref w), (.int (own_n r)), (.ref w)])) rfl rfl (hb hby d4_26)) ?_
        show own_G p.tables e below _ (T25.setTop (mkF m 27 #[.val (.ref p0), .val (.int (own_n x)), .val (.int (own_n r))] [(.int (own_n (own_f a' b' c' d' r))), (.ref w), (.int (own_n r)), (.ref w)]))
        refine own_go (own_ldI X25 hx hZ e25 V_9 (j := (own_n (own_f a' b' c' d' r))) (v := (.int (own_n (own_f a' b' c' d' (own_f a' b' c' d' r))))) (own_nb _).1 (own_nb _).2 (own_at _ _ _ _ _) (g := (mkF m 27 #[.val (.ref p0), .val (.int (own_n x)), .val (.int (own_n r))] [(.int (own_n (own_f a' b' c' d' r))), (.ref w), (.int (own_n r)), (.ref w)])) rfl rfl (hb hby d4_27)) ?_
        show own_G p.tables e below _ (T25.setTop (mkF m 28 #[.val (.ref p0), .val (.int (own_n x)), .val (.int (own_n r))] [(.int (own_n (own_f a' b' c' d' (own_f a' b' c' d' r)))), (.int (own_n r)), (.ref w)]))
        obtain ⟨T26, h26, X26, e26, W26, V26, st26⟩ := own_stI X25 hx hZ e25 V_9 (j := (own_n r)) (own_nb r).1 (own_nb r).2 (g := (mkF m 28 #[.val (.ref p0), .val (.int (own_n x)), .val (.int (own_n r))] [(.int (own_n (own_f a' b' c' d' (own_f a' b' c' d' r)))), (.int (own_n r)), (.ref w)])) rfl rfl (hb hby d4_28)
        refine own_go st26 ?_
        have N26 := Fr.snoc X26 N20 gw9
        have Z26 : n0 ≤ h26.size := Nat.le_trans Z20 (Keep.of_wr W26).1
        have K26 : Keep h0 h26 [w] := Kj.wr W26 (Or.inl (List.mem_of_getElem? (i := 0) rfl))
        have VV := own_A.congr V26 (own_set _ _ _ _ r (own_f a' b' c' d' (own_f a' b' c' d' r)))
        show own_G p.tables e below _ (T26.setTop (mkF m 29 #[.val (.ref p0), .val (.int (own_n x)), .val (.int (own_n r))] []))
        refine own_go (fun _ kt => XS.aloadN X26.here hx rfl (hb hby d4_29) rfl rfl kt) ?_
        show own_G p.tables e below _ (T26.setTop (mkF m 30 #[.val (.ref p0), .val (.int (own_n x)), .val (.int (own_n r))] [(.ref p0)]))
        have u27 := (F_9.other W26 (Or.inl nb9))
        obtain ⟨T28, X28, e28, st28⟩ := getF X26 hx hZ hown (host := "") (Or.inl (hw _ (List.mem_of_getElem? (i := 10) rfl))) Via.refl e26 u27 (g := (mkF m 30 #[.val (.ref p0), .val (.int (own_n x)), .val (.int (own_n r))] [(.ref p0)])) rfl rfl (hb hby d4_30)
        refine own_go st28 ?_
        show own_G p.tables e below _ (T28.setTop (mkF m 33 #[.val (.ref p0), .val (.int (own_n x)), .val (.int (own_n r))] [(.ref w)]))
        refine own_go (fun _ kt => XS.iloadN X28.here hx rfl (hb hby d4_33) rfl kt) ?_
        have at9 : own_arr (own_pt r (own_f a' b' c' d' (own_f a' b' c' d' r)) 0 a') (own_pt r (own_f a' b' c' d' (own_f a' b' c' d' r)) 1 b') (own_pt r (own_f a' b' c' d' (own_f a' b' c' d' r)) 2 c') (own_pt r (own_f a' b' c' d' (own_f a' b' c' d' r)) 3 d') (own_n r).toNatClampNeg = .int (own_n (own_f a' b' c' d' (own_f a' b' c' d' r))) := by rw [own_at, own_here]
        show own_G p.tables e below _ (T28.setTop (mkF m 34 #[.val (.ref p0), .val (.int (own_n x)), .val (.int (own_n r))] [(.int (own_n r)), (.ref w)]))
        refine own_go (own_ldI X28 hx hZ e28 VV (j := (own_n r)) (v := (.int (own_n (own_f a' b' c' d' (own_f a' b' c' d' r))))) (own_nb r).1 (own_nb r).2 at9 (g := (mkF m 34 #[.val (.ref p0), .val (.int (own_n x)), .val (.int (own_n r))] [(.int (own_n r)), (.ref w)])) rfl rfl (hb hby d4_34)) ?_
        show own_G p.tables e below _ (T28.setTop (mkF m 35 #[.val (.ref p0), .val (.int (own_n x)), .val (.int (own_n r))] [(.int (own_n (own_f a' b' c' d' (own_f a' b' c' d' r))))]))
        refine own_go (fun _ kt => XS.istoreN X28.here hx rfl (hb hby d4_35) rfl (l' := #[.val (.ref p0), .val (.int (own_n x)), .val (.int (own_n (own_f a' b' c' d' (own_f a' b' c' d' r))))]) rfl kt) ?_
        show own_G p.tables e below _ (T28.setTop (mkF m 36 #[.val (.ref p0), .val (.int (own_n x)), .val (.int (own_n (own_f a' b' c' d' (own_f a' b' c' d' r))))] []))
        refine own_go (fun _ kt => XS.goto X28.here hx rfl (pc0 := 36) (pc' := 2) rfl (hb hby d4_36) (by decide) (by decide) kt) ?_
        show own_G p.tables e below _ (T28.setTop (mkF m 2 #[.val (.ref p0), .val (.int (own_n x)), .val (.int (own_n (own_f a' b' c' d' (own_f a' b' c' d' r))))] []))
        have u29 := (E_9.wr W26)
        exact ih _ _ _ _ _ _ _ (own_f a' b' c' d' (own_f a' b' c' d' r)) X28 e28 N26 Z26 K26 ⟨u29, u27, VV, nb9, gb9, gw9, t1⟩ (fun y => (t2 y).trans (hj y)) (by rw [← hj, t3, hj]; exact hr) (by omega)
  show own_G p.tables e below _ (s₁.setTop (mkF m 0 #[.val (.ref p0), .val (.int (own_n x)), .unset] []))
  refine own_go (fun _ kt => XS.iloadN X0.here hx rfl (hb hby d4_0) rfl kt) ?_
  show own_G p.tables e below _ (s₁.setTop (mkF m 1 #[.val (.ref p0), .val (.int (own_n x)), .unset] [(.int (own_n x))]))
  refine own_go (fun _ kt => XS.istoreN X0.here hx rfl (hb hby d4_1) rfl (l' := #[.val (.ref p0), .val (.int (own_n x)), .val (.int (own_n x))]) rfl kt) ?_
  show own_G p.tables e below _ (s₁.setTop (mkF m 2 #[.val (.ref p0), .val (.int (own_n x)), .val (.int (own_n x))] []))
  exact loop (own_dep a b c d x) _ _ _ a b c d x X0 e0 N0 Z0 (Keep.refl _ _) D0 (fun _ => rfl) rfl (Nat.le_refl _)
theorem d3_0 : decode prog_6_method_2_code 0 = .ok (.aload_n 0, 1) := by decide +kernel
theorem d3_1 : decode prog_6_method_2_code 1 = .ok (.getfield 7, 3) := by decide +kernel
theorem d3_4 : decode prog_6_method_2_code 4 = .ok (.aload_n 0, 1) := by decide +kernel
theorem d3_5 : decode prog_6_method_2_code 5 = .ok (.iload_n 1, 1) := by decide +kernel
theorem d3_6 : decode prog_6_method_2_code 6 = .ok (.invokevirtual 13, 3) := by decide +kernel
theorem pd__I_I : parseMethodDescriptor "(I)I" = some ⟨[.int], some .int⟩ := by decide +kernel
theorem d3_9 : decode prog_6_method_2_code 9 = .ok (.aload_n 0, 1) := by decide +kernel
theorem d3_10 : decode prog_6_method_2_code 10 = .ok (.iload_n 2, 1) := by decide +kernel
theorem d3_11 : decode prog_6_method_2_code 11 = .ok (.invokevirtual 13, 3) := by decide +kernel
theorem d3_14 : decode prog_6_method_2_code 14 = .ok (.iastore, 1) := by decide +kernel
theorem d3_15 : decode prog_6_method_2_code 15 = .ok (.return_, 1) := by decide +kernel
theorem ef_join (m : MethodId) (p0 : Addr) (p1 : Int32) (p2 : Int32) : entryFrame m #[(.ref p0), (.int p1), (.int p2)] 3 = mkF m 0 #[.val (.ref p0), .val (.int p1), .val (.int p2)] [] := by first | (simp [entryFrame, mkF, argsToLocals, Value.category]; done) | rfl
def Q_join (Z : State) (p0 : Addr) (p1 : Int32) (p2 : Int32) (w : Addr) (a : Fin 4) (b : Fin 4) (c : Fin 4) (d : Fin 4) (x : Fin 4) (y : Fin 4) (h0 : Heap) (n0 : Nat) (v : Option Value) (h : Heap) (L : List Loc) : Prop := ∃ a' b' c' d', v = none ∧ Fr n0 L ∧ Keep h0 h [w] ∧ own_D Z h n0 p0 w a' b' c' d' ∧ ∀ z : Fin 4, own_rt a' b' c' d' z = if own_rt a b c d z = own_rt a b c d x then own_rt a b c d y else own_rt a b c d z
set_option maxRecDepth 65536 in
set_option maxHeartbeats 40000000 in
theorem rm_join (l : Launch) (Z : State) (a0 : Array Value) (hw : ∀ d ∈ tables_1, d.before a0 Z = true) (ws : List Jvm.Cond) (p0 : Addr) (p1 : Int32) (p2 : Int32) (w : Addr) (a : Fin 4) (b : Fin 4) (c : Fin 4) (d : Fin 4) (x : Fin 4) (y : Fin 4) (h0 : Heap) (n0 : Nat) (Z0 : n0 ≤ h0.size) (hp1 : own_n x = p1) (hp2 : own_n y = p2) (D0 : own_D Z h0 n0 p0 w a b c d) :
    MetFree l (⟨"com/example/weftwork/weftwork/graph/DisjointSets", "join", "(II)V"⟩ : MethodName) (head1 (Jvm.Cond.code (⟨"com/example/weftwork/weftwork/graph/DisjointSets", "join", "(II)V"⟩ : MethodName) prog_6_method_2_code 3 none :: ws) ({ frames := 1, cells := 0, slots := 0, locals := 16 } : Room)) (fun a U => a = #[(.ref p0), (.int p1), (.int p2)] ∧ Z.Warmed39 U.vm ∧ U.heap = h0) (fun _ _ _ _ _ => True) (fun _ U o U' => ∃ v L, o = .returned v ∧ Q_join Z p0 p1 p2 w a b c d x y h0 n0 v U'.heap L ∧ FrameEnd U o U' L ({ frames := 1, cells := 0, slots := 0, locals := 16 } : Room).cells ({ frames := 1, cells := 0, slots := 0, locals := 16 } : Room).slots) := by
  refine MetFree.of_bodySF (plainFor_of_name pn_com_example_weftwork_weftwork_graph_DisjointSets) hisR ?_
  intro p e s m args below meth kc s₁ Bd hml0 hP hK
  obtain ⟨rfl, hZ, hh⟩ := hP
  have hx := Bd.exec
  have hby := Bd.bytes
  have hlk := Bd.notSynchronized
  have hml : kc.maxLocals = 3 := hml0
  have hown : s.vm.findClass "com/example/weftwork/weftwork/graph/DisjointSets" = some m.cls := findClass_of_methodNamed Bd.named
  have hnm := (name_of_methodNamed Bd.named Bd.method).1
  have X0 : Stand p l e ({ frames := 1, cells := 0, slots := 0, locals := 16 } : Room) s m #[(.ref p0), (.int p1), (.int p2)] below meth kc s₁ [] 0 0 := Stand.of_body Bd
  have e0 : s₁.heap = h0 := by rw [← hh, Bd.state]; rfl
  have N0 := Fr.nil n0
  show own_G p.tables e below (own_E below s ({ frames := 1, cells := 0, slots := 0, locals := 16 } : Room).cells ({ frames := 1, cells := 0, slots := 0, locals := 16 } : Room).slots (Q_join Z p0 p1 p2 w a b c d x y h0 n0)) _
  refine own_go (fun _ k => castTop (ef_join m p0 p1 p2) k) ?_
  subst hp1 hp2
  have D0' := D0
  obtain ⟨E_0, F_0, V_0, nb0, gb0, gw0, ff0⟩ := D0'
  show own_G p.tables e below _ (s₁.setTop (mkF m 0 #[.val (.ref p0), .val (.int (own_n x)), .val (.int (own_n y))] []))
  refine own_go (fun _ kt => XS.aloadN X0.here hx rfl (hb hby d3_0) rfl rfl kt) ?_
  show own_G p.tables e below _ (s₁.setTop (mkF m 1 #[.val (.ref p0), .val (.int (own_n x)), .val (.int (own_n y))] [(.ref p0)]))
  obtain ⟨T30, X30, e30, st30⟩ := getF X0 hx hZ hown (host := "") (Or.inl (hw _ (List.mem_of_getElem? (i := 10) rfl))) Via.refl e0 F_0 (g := (mkF m 1 #[.val (.ref p0), .val (.int (own_n x)), .val (.int (own_n y))] [(.ref p0)])) rfl rfl (hb hby d3_1)
  refine own_go st30 ?_
  show own_G p.tables e below _ (T30.setTop (mkF m 4 #[.val (.ref p0), .val (.int (own_n x)), .val (.int (own_n y))] [(.ref w)]))
  refine own_go (fun _ kt => XS.aloadN X30.here hx rfl (hb hby d3_4) rfl rfl kt) ?_
  show own_G p.tables e below _ (T30.setTop (mkF m 5 #[.val (.ref p0), .val (.int (own_n x)), .val (.int (own_n y))] [(.ref p0), (.ref w)]))
  refine own_go (fun _ kt => XS.iloadN X30.here hx rfl (hb hby d3_5) rfl kt) ?_
  show own_G p.tables e below _ (T30.setTop (mkF m 6 #[.val (.ref p0), .val (.int (own_n x)), .val (.int (own_n y))] [(.int (own_n x)), (.ref p0), (.ref w)]))
  obtain ⟨cq31, kq31, q31a, q31b, q31c⟩ := isOf hZ e30 E_0
  obtain ⟨_, _, ⟨T31, L31, k31, n31⟩, -, X31, ⟨Lc31, hQ31, l31, y31, z31⟩, st31⟩ := X30.virtualBack hx (y := (⟨"com/example/weftwork/weftwork/graph/DisjointSets", "root", "(I)I"⟩ : MethodName)) (z := (⟨"com/example/weftwork/weftwork/graph/DisjointSets", "root", "(I)I"⟩ : MethodName)) hown (mvT hZ (hw _ (List.mem_of_getElem? (i := 17) rfl))) (mvT hZ (hw _ (List.mem_of_getElem? (i := 18) rfl))) (notFace_of_selects (args := #[]) (mvT hZ (hw _ (List.mem_of_getElem? (i := 20) rfl)))) (mvT hZ (hw _ (List.mem_of_getElem? (i := 20) rfl))) (mvT hZ (hw _ (List.mem_of_getElem? (i := 19) rfl))) (by decide) (backOf (W := 1) (rm_root l Z a0 hw [] p0 (own_n x) w a b c d x h0 n0 Z0 rfl D0) hZ (hw _ (List.mem_of_getElem? (i := 21) rfl)) (hw _ (List.mem_of_getElem? (i := 3) rfl)) (by decide) (by decide)) q31a q31c (g := (mkF m 6 #[.val (.ref p0), .val (.int (own_n x)), .val (.int (own_n y))] [(.int (own_n x)), (.ref p0), (.ref w)])) rfl (by rw [hml]; rfl) (Steps.refl _) (argsL := [(.int (own_n x))]) (rest := [(.ref w)]) (lenOf pd__I_I rfl) rfl (by show 2 * 0 + _ ≤ _; exact Nat.le_of_eq rfl) (hb hby d3_6) (fun _ _ => ⟨rfl, e30, (Nat.le_of_ble_eq_true rfl), (Nat.le_of_ble_eq_true rfl)⟩)
  dsimp only [Pt.U, Pt.locs, Pt.cells, Pt.slots] at X31 l31 y31 z31 st31 hQ31
  subst l31 y31 z31
  obtain ⟨a1, b1, c1, d1, rfl, Nq31, Kq31, D1, h1⟩ := hQ31
  have N31 := Fr.app N0 Nq31
  refine own_tr st31 ?_
  have Z31 : n0 ≤ T31.heap.size := Nat.le_trans Z0 Kq31.1
  have Kc31 : Keep h0 T31.heap [w] := (Keep.refl h0 [w]).trans Kq31 (allS (Or.inl (List.mem_of_getElem? (i := 0) rfl)) all0)
  show own_G p.tables e below _ (T31.setTop (mkF m 9 #[.val (.ref p0), .val (.int (own_n x)), .val (.int (own_n y))] [(.int (own_n (own_rt a b c d x))), (.ref w)]))
  refine own_go (fun _ kt => XS.aloadN X31.here hx rfl (hb hby d3_9) rfl rfl kt) ?_
  show own_G p.tables e below _ (T31.setTop (mkF m 10 #[.val (.ref p0), .val (.int (own_n x)), .val (.int (own_n y))] [(.ref p0), (.int (own_n (own_rt a b c d x))), (.ref w)]))
  refine own_go (fun _ kt => XS.iloadN X31.here hx rfl (hb hby d3_10) rfl kt) ?_
  show own_G p.tables e below _ (T31.setTop (mkF m 11 #[.val (.ref p0), .val (.int (own_n x)), .val (.int (own_n y))] [(.int (own_n y)), (.ref p0), (.int (own_n (own_rt a b c d x))), (.ref w)]))
  obtain ⟨cq32, kq32, q32a, q32b, q32c⟩ := isOf hZ rfl D1.1
  obtain ⟨_, _, ⟨T32, L32, k32, n32⟩, -, X32, ⟨Lc32, hQ32, l32, y32, z32⟩, st32⟩ := X31.virtualBack hx (y := (⟨"com/example/weftwork/weftwork/graph/DisjointSets", "root", "(I)I"⟩ : MethodName)) (z := (⟨"com/example/weftwork/weftwork/graph/DisjointSets", "root", "(I)I"⟩ : MethodName)) hown (mvT hZ (hw _ (List.mem_of_getElem? (i := 17) rfl))) (mvT hZ (hw _ (List.mem_of_getElem? (i := 18) rfl))) (notFace_of_selects (args := #[]) (mvT hZ (hw _ (List.mem_of_getElem? (i := 20) rfl)))) (mvT hZ (hw _ (List.mem_of_getElem? (i := 20) rfl))) (mvT hZ (hw _ (List.mem_of_getElem? (i := 19) rfl))) (by decide) (backOf (W := 2) (rm_root l Z a0 hw [] p0 (own_n y) w a1 b1 c1 d1 y T31.heap n0 Z31 rfl D1) hZ (hw _ (List.mem_of_getElem? (i := 21) rfl)) (hw _ (List.mem_of_getElem? (i := 3) rfl)) (by decide) (by decide)) q32a q32c (g := (mkF m 11 #[.val (.ref p0), .val (.int (own_n x)), .val (.int (own_n y))] [(.int (own_n y)), (.ref p0), (.int (own_n (own_rt a b c d x))), (.ref w)])) rfl (by rw [hml]; rfl) (Steps.refl _) (argsL := [(.int (own_n y))]) (rest := [(.int (own_n (own_rt a b c d x))), (.ref w)]) (lenOf pd__I_I rfl) rfl (by show 2 * 0 + _ ≤ _; exact Nat.le_of_eq rfl) (hb hby d3_11) (fun _ _ => ⟨rfl, rfl, (Nat.le_of_ble_eq_true rfl), (Nat.le_of_ble_eq_true rfl)⟩)
  dsimp only [Pt.U, Pt.locs, Pt.cells, Pt.slots] at X32 l32 y32 z32 st32 hQ32
  subst l32 y32 z32
  obtain ⟨a2, b2, c2, d2, rfl, Nq32, Kq32, D2, h2⟩ := hQ32
  have N32 := Fr.app N31 Nq32
  refine own_tr st32 ?_
  have Z32 : n0 ≤ T32.heap.size := Nat.le_trans Z31 Kq32.1
  have Kc32 : Keep h0 T32.heap [w] := Kc31.trans Kq32 (allS (Or.inl (List.mem_of_getElem? (i := 0) rfl)) all0)
  obtain ⟨E2, F2, V2', nb2, gb2, gw2, ff2⟩ := D2
  have hh2 : ∀ z : Fin 4, own_rt a2 b2 c2 d2 z = own_rt a b c d z := fun z => (h2 z).trans (h1 z)
  show own_G p.tables e below _ (T32.setTop (mkF m 14 #[.val (.ref p0), .val (.int (own_n x)), .val (.int (own_n y))] [(.int (own_n (own_rt a1 b1 c1 d1 y))), (.int (own_n (own_rt a b c d x))), (.ref w)]))
  obtain ⟨T33, h33, X33, e33, W33, V33, st33⟩ := own_stI X32 hx hZ rfl V2' (j := (own_n (own_rt a b c d x))) (own_nb _).1 (own_nb _).2 (g := (mkF m 14 #[.val (.ref p0), .val (.int (own_n x)), .val (.int (own_n y))] [(.int (own_n (own_rt a1 b1 c1 d1 y))), (.int (own_n (own_rt a b c d x))), (.ref w)])) rfl rfl (hb hby d3_14)
  refine own_go st33 ?_
  have N33 := Fr.snoc X33 N32 gw0
  have Z33 : n0 ≤ h33.size := Nat.le_trans Z32 (Keep.of_wr W33).1
  have K33 : Keep h0 h33 [w] := Kc32.wr W33 (Or.inl (List.mem_of_getElem? (i := 0) rfl))
  have VV := own_A.congr V33 (own_set _ _ _ _ (own_rt a b c d x) (own_rt a1 b1 c1 d1 y))
  obtain ⟨t1, t2⟩ := own_joined a2 b2 c2 d2 (own_rt a b c d x) (own_rt a1 b1 c1 d1 y) ff2 (by rw [← hh2]; exact ff2 x) (by rw [← h2]; exact ff2 y)
  have u34 := (E2.wr W33)
  have u35 := (F2.other W33 (Or.inl nb0))
  show own_G p.tables e below _ (T33.setTop (mkF m 15 #[.val (.ref p0), .val (.int (own_n x)), .val (.int (own_n y))] []))
  exact own_retV X33 hx Bd.returns hlk (hb hby d3_15) (Nat.le_of_ble_eq_true rfl) (Nat.le_of_ble_eq_true rfl) e33 ⟨_, _, _, _, rfl, N33, K33, ⟨u34, u35, VV, nb2, gb2, gw2, t1⟩, fun z => by rw [t2, hh2, h1]⟩
def own_mg (la lb x : Fin 4) : Fin 4 := if x = la then lb else x
theorem own_mgf (la lb a b c d x : Fin 4) : own_f (own_mg la lb a) (own_mg la lb b) (own_mg la lb c) (own_mg la lb d) x = own_mg la lb (own_f a b c d x) := by
  have h : x = 0 ∨ x = 1 ∨ x = 2 ∨ x = 3 := by revert x; decide
  rcases h with rfl | rfl | rfl | rfl <;> rfl
theorem own_k (i : Fin 4) {k : Int32} (h : k = own_n i) (a b c d : Fin 4) : own_arr a b c d k.toNatClampNeg = .int (own_n (own_f a b c d i)) := by rw [h, own_at]
theorem own_ks (i : Fin 4) {k : Int32} (h : k = own_n i) (a b c d v : Fin 4) : ∀ j, j < 4 → own_upd (own_arr a b c d) k.toNatClampNeg (.int (own_n v)) j = own_arr (own_pt i v 0 a) (own_pt i v 1 b) (own_pt i v 2 c) (own_pt i v 3 d) j := by rw [h]; exact own_set a b c d i v
theorem d5_45 : decode method_2_code 45 = .ok (.aload_n 0, 1) := by decide +kernel
theorem d5_46 : decode method_2_code 46 = .ok (.iconst 3, 1) := by decide +kernel
theorem d5_47 : decode method_2_code 47 = .ok (.iaload, 1) := by decide +kernel
theorem d5_48 : decode method_2_code 48 = .ok (.iload_n 3, 1) := by decide +kernel
theorem d5_49 : decode method_2_code 49 = .ok (.if_icmp .ne 8, 3) := by decide +kernel
theorem d5_52 : decode method_2_code 52 = .ok (.aload_n 0, 1) := by decide +kernel
theorem d5_53 : decode method_2_code 53 = .ok (.iconst 3, 1) := by decide +kernel
theorem d5_54 : decode method_2_code 54 = .ok (.iload 4, 2) := by decide +kernel
theorem d5_56 : decode method_2_code 56 = .ok (.iastore, 1) := by decide +kernel
theorem d5_57 : decode method_2_code 57 = .ok (.return_, 1) := by decide +kernel
theorem d5_33 : decode method_2_code 33 = .ok (.aload_n 0, 1) := by decide +kernel
theorem d5_34 : decode method_2_code 34 = .ok (.iconst 2, 1) := by decide +kernel
theorem d5_35 : decode method_2_code 35 = .ok (.iaload, 1) := by decide +kernel
theorem d5_36 : decode method_2_code 36 = .ok (.iload_n 3, 1) := by decide +kernel
theorem d5_37 : decode method_2_code 37 = .ok (.if_icmp .ne 8, 3) := by decide +kernel
theorem d5_40 : decode method_2_code 40 = .ok (.aload_n 0, 1) := by decide +kernel
theorem d5_41 : decode method_2_code 41 = .ok (.iconst 2, 1) := by decide +kernel
theorem d5_42 : decode method_2_code 42 = .ok (.iload 4, 2) := by decide +kernel
theorem d5_44 : decode method_2_code 44 = .ok (.iastore, 1) := by decide +kernel
theorem d5_21 : decode method_2_code 21 = .ok (.aload_n 0, 1) := by decide +kernel
theorem d5_22 : decode method_2_code 22 = .ok (.iconst 1, 1) := by decide +kernel
theorem d5_23 : decode method_2_code 23 = .ok (.iaload, 1) := by decide +kernel
theorem d5_24 : decode method_2_code 24 = .ok (.iload_n 3, 1) := by decide +kernel
theorem d5_25 : decode method_2_code 25 = .ok (.if_icmp .ne 8, 3) := by decide +kernel
theorem d5_28 : decode method_2_code 28 = .ok (.aload_n 0, 1) := by decide +kernel
theorem d5_29 : decode method_2_code 29 = .ok (.iconst 1, 1) := by decide +kernel
theorem d5_30 : decode method_2_code 30 = .ok (.iload 4, 2) := by decide +kernel
theorem d5_32 : decode method_2_code 32 = .ok (.iastore, 1) := by decide +kernel
theorem d5_0 : decode method_2_code 0 = .ok (.aload_n 0, 1) := by decide +kernel
theorem d5_1 : decode method_2_code 1 = .ok (.iload_n 1, 1) := by decide +kernel
theorem d5_2 : decode method_2_code 2 = .ok (.iaload, 1) := by decide +kernel
theorem d5_3 : decode method_2_code 3 = .ok (.istore_n 3, 1) := by decide +kernel
theorem d5_4 : decode method_2_code 4 = .ok (.aload_n 0, 1) := by decide +kernel
theorem d5_5 : decode method_2_code 5 = .ok (.iload_n 2, 1) := by decide +kernel
theorem d5_6 : decode method_2_code 6 = .ok (.iaload, 1) := by decide +kernel
theorem d5_7 : decode method_2_code 7 = .ok (.istore 4, 2) := by decide +kernel
theorem d5_9 : decode method_2_code 9 = .ok (.aload_n 0, 1) := by decide +kernel
theorem d5_10 : decode method_2_code 10 = .ok (.iconst 0, 1) := by decide +kernel
theorem d5_11 : decode method_2_code 11 = .ok (.iaload, 1) := by decide +kernel
theorem d5_12 : decode method_2_code 12 = .ok (.iload_n 3, 1) := by decide +kernel
theorem d5_13 : decode method_2_code 13 = .ok (.if_icmp .ne 8, 3) := by decide +kernel
theorem d5_16 : decode method_2_code 16 = .ok (.aload_n 0, 1) := by decide +kernel
theorem d5_17 : decode method_2_code 17 = .ok (.iconst 0, 1) := by decide +kernel
theorem d5_18 : decode method_2_code 18 = .ok (.iload 4, 2) := by decide +kernel
theorem d5_20 : decode method_2_code 20 = .ok (.iastore, 1) := by decide +kernel
theorem pn_com_example_weftwork_weftwork_graph_DisjointSetsRootPinLaw : plainName "com/example/weftwork/weftwork/graph/DisjointSetsRootPinLaw" = true := by first | (simp [plainName, overriddenIn]; done) | decide +kernel
theorem ef_merge (m : MethodId) (p0 : Addr) (p1 : Int32) (p2 : Int32) : entryFrame m #[(.ref p0), (.int p1), (.int p2)] 5 = mkF m 0 #[.val (.ref p0), .val (.int p1), .val (.int p2), .unset, .unset] [] := by first | (simp [entryFrame, mkF, argsToLocals, Value.category]; done) | rfl
def Q_merge (Z : State) (p0 : Addr) (p1 : Int32) (p2 : Int32) (a : Fin 4) (b : Fin 4) (c : Fin 4) (d : Fin 4) (x : Fin 4) (y : Fin 4) (h0 : Heap) (n0 : Nat) (v : Option Value) (h : Heap) (L : List Loc) : Prop := v = none ∧ Fr n0 L ∧ Keep h0 h [p0] ∧ own_A Z h p0 .int 4 (own_arr (own_mg (own_f a b c d x) (own_f a b c d y) a) (own_mg (own_f a b c d x) (own_f a b c d y) b) (own_mg (own_f a b c d x) (own_f a b c d y) c) (own_mg (own_f a b c d x) (own_f a b c d y) d))
set_option maxRecDepth 65536 in
set_option maxHeartbeats 40000000 in
theorem rm_merge (l : Launch) (Z : State) (a0 : Array Value) (hw : ∀ d ∈ tables_1, d.before a0 Z = true) (ws : List Jvm.Cond) (p0 : Addr) (p1 : Int32) (p2 : Int32) (a : Fin 4) (b : Fin 4) (c : Fin 4) (d : Fin 4) (x : Fin 4) (y : Fin 4) (h0 : Heap) (n0 : Nat) (Z0 : n0 ≤ h0.size) (hp1 : own_n x = p1) (hp2 : own_n y = p2) (g0 : n0 ≤ p0) (V0 : own_A Z h0 p0 .int 4 (own_arr a b c d)) :
    MetFree l (⟨"com/example/weftwork/weftwork/graph/DisjointSetsRootPinLaw", "merge", "([III)V"⟩ : MethodName) (head1 (Jvm.Cond.code (⟨"com/example/weftwork/weftwork/graph/DisjointSetsRootPinLaw", "merge", "([III)V"⟩ : MethodName) method_2_code 5 none :: ws) ({ frames := 0, cells := 0, slots := 0, locals := 0 } : Room)) (fun a U => a = #[(.ref p0), (.int p1), (.int p2)] ∧ Z.Warmed39 U.vm ∧ U.heap = h0) (fun _ _ _ _ _ => True) (fun _ U o U' => ∃ v L, o = .returned v ∧ Q_merge Z p0 p1 p2 a b c d x y h0 n0 v U'.heap L ∧ FrameEnd U o U' L ({ frames := 0, cells := 0, slots := 0, locals := 0 } : Room).cells ({ frames := 0, cells := 0, slots := 0, locals := 0 } : Room).slots) := by
  refine MetFree.of_bodySF (plainFor_of_name pn_com_example_weftwork_weftwork_graph_DisjointSetsRootPinLaw) hisR ?_
  intro p e s m args below meth kc s₁ Bd hml0 hP hK
  obtain ⟨rfl, hZ, hh⟩ := hP
  have hx := Bd.exec
  have hby := Bd.bytes
  have hlk := Bd.notSynchronized
  have hml : kc.maxLocals = 5 := hml0
  have hown : s.vm.findClass "com/example/weftwork/weftwork/graph/DisjointSetsRootPinLaw" = some m.cls := findClass_of_methodNamed Bd.named
  have hnm := (name_of_methodNamed Bd.named Bd.method).1
  have X0 : Stand p l e ({ frames := 0, cells := 0, slots := 0, locals := 0 } : Room) s m #[(.ref p0), (.int p1), (.int p2)] below meth kc s₁ [] 0 0 := Stand.of_body Bd
  have e0 : s₁.heap = h0 := by rw [← hh, Bd.state]; rfl
  have N0 := Fr.nil n0
  show own_G p.tables e below (own_E below s ({ frames := 0, cells := 0, slots := 0, locals := 0 } : Room).cells ({ frames := 0, cells := 0, slots := 0, locals := 0 } : Room).slots (Q_merge Z p0 p1 p2 a b c d x y h0 n0)) _
  refine own_go (fun _ k => castTop (ef_merge m p0 p1 p2) k) ?_
  subst hp1 hp2
  have j45 : ∀ (T36 : State) (locs36 : List Loc) (h36 : Heap), Stand p l e ({ frames := 0, cells := 0, slots := 0, locals := 0 } : Room) s m #[(.ref p0), (.int (own_n x)), (.int (own_n y))] below meth kc T36 locs36 0 0 → T36.heap = h36 → Fr n0 locs36 → n0 ≤ h36.size → (Keep h0 h36 [p0]) → (own_A Z h36 p0 .int 4 (own_arr (own_mg (own_f a b c d x) (own_f a b c d y) a) (own_mg (own_f a b c d x) (own_f a b c d y) b) (own_mg (own_f a b c d x) (own_f a b c d y) c) d)) → own_G p.tables e below (own_E below s ({ frames := 0, cells := 0, slots := 0, locals := 0 } : Room).cells ({ frames := 0, cells := 0, slots := 0, locals := 0 } : Room).slots (Q_merge Z p0 (own_n x) (own_n y) a b c d x y h0 n0)) (T36.setTop (mkF m 45 #[.val (.ref p0), .val (.int (own_n x)), .val (.int (own_n y)), .val (.int (own_n (own_f a b c d x))), .val (.int (own_n (own_f a b c d y)))] [])) := by
    intro T36 locs36 h36  X36 e36 N36 Z36 Kj Vj
    show own_G p.tables e below _ (T36.setTop (mkF m 45 #[.val (.ref p0), .val (.int (own_n x)), .val (.int (own_n y)), .val (.int (own_n (own_f a b c d x))), .val (.int (own_n (own_f a b c d y)))] []))
    refine own_go (fun _ kt => XS.aloadN X36.here hx rfl (hb hby d5_45) rfl rfl kt) ?_
    show own_G p.tables e below _ (T36.setTop (mkF m 46 #[.val (.ref p0), .val (.int (own_n x)), .val (.int (own_n y)), .val (.int (own_n (own_f a b c d x))), .val (.int (own_n (own_f a b c d y)))] [(.ref p0)]))
    refine own_go (fun _ kt => XS.iconst X36.here hx rfl (hb hby d5_46) kt) ?_
    show own_G p.tables e below _ (T36.setTop (mkF m 47 #[.val (.ref p0), .val (.int (own_n x)), .val (.int (own_n y)), .val (.int (own_n (own_f a b c d x))), .val (.int (own_n (own_f a b c d y)))] [(.int (3 : Int32)), (.ref p0)]))
    refine own_go (own_ldI X36 hx hZ e36 Vj (j := (3 : Int32)) (v := (.int (own_n d))) (by decide) (by decide) (own_k 3 rfl _ _ _ _) (g := (mkF m 47 #[.val (.ref p0), .val (.int (own_n x)), .val (.int (own_n y)), .val (.int (own_n (own_f a b c d x))), .val (.int (own_n (own_f a b c d y)))] [(.int (3 : Int32)), (.ref p0)])) rfl rfl (hb hby d5_47)) ?_
    show own_G p.tables e below _ (T36.setTop (mkF m 48 #[.val (.ref p0), .val (.int (own_n x)), .val (.int (own_n y)), .val (.int (own_n (own_f a b c d x))), .val (.int (own_n (own_f a b c d y)))] [(.int (own_n d))]))
    refine own_go (fun _ kt => XS.iloadN X36.here hx rfl (hb hby d5_48) rfl kt) ?_
    by_cases hc3 : (own_n d) = (own_n (own_f a b c d x))
    · show own_G p.tables e below _ (T36.setTop (mkF m 49 #[.val (.ref p0), .val (.int (own_n x)), .val (.int (own_n y)), .val (.int (own_n (own_f a b c d x))), .val (.int (own_n (own_f a b c d y)))] [(.int (own_n (own_f a b c d x))), (.int (own_n d))]))
      refine own_go (fun _ kt => XS.icmpNo X36.here hx rfl (hb hby d5_49) rfl (teq (hc3 : (own_n d) = (own_n (own_f a b c d x)))).2 kt) ?_
      show own_G p.tables e below _ (T36.setTop (mkF m 52 #[.val (.ref p0), .val (.int (own_n x)), .val (.int (own_n y)), .val (.int (own_n (own_f a b c d x))), .val (.int (own_n (own_f a b c d y)))] []))
      refine own_go (fun _ kt => XS.aloadN X36.here hx rfl (hb hby d5_52) rfl rfl kt) ?_
      show own_G p.tables e below _ (T36.setTop (mkF m 53 #[.val (.ref p0), .val (.int (own_n x)), .val (.int (own_n y)), .val (.int (own_n (own_f a b c d x))), .val (.int (own_n (own_f a b c d y)))] [(.ref p0)]))
      refine own_go (fun _ kt => XS.iconst X36.here hx rfl (hb hby d5_53) kt) ?_
      show own_G p.tables e below _ (T36.setTop (mkF m 54 #[.val (.ref p0), .val (.int (own_n x)), .val (.int (own_n y)), .val (.int (own_n (own_f a b c d x))), .val (.int (own_n (own_f a b c d y)))] [(.int (3 : Int32)), (.ref p0)]))
      refine own_go (fun _ kt => XS.iload X36.here hx rfl (hb hby d5_54) rfl kt) ?_
      show own_G p.tables e below _ (T36.setTop (mkF m 56 #[.val (.ref p0), .val (.int (own_n x)), .val (.int (own_n y)), .val (.int (own_n (own_f a b c d x))), .val (.int (own_n (own_f a b c d y)))] [(.int (own_n (own_f a b c d y))), (.int (3 : Int32)), (.ref p0)]))
      obtain ⟨T37, h37, X37, e37, W37, V37, st37⟩ := own_stI X36 hx hZ e36 Vj (j := (3 : Int32)) (by decide) (by decide) (g := (mkF m 56 #[.val (.ref p0), .val (.int (own_n x)), .val (.int (own_n y)), .val (.int (own_n (own_f a b c d x))), .val (.int (own_n (own_f a b c d y)))] [(.int (own_n (own_f a b c d y))), (.int (3 : Int32)), (.ref p0)])) rfl rfl (hb hby d5_56)
      refine own_go st37 ?_
      have N37 := Fr.snoc X37 N36 g0
      have Z37 : n0 ≤ h37.size := Nat.le_trans Z36 (Keep.of_wr W37).1
      have K37 : Keep h0 h37 [p0] := Kj.wr W37 (Or.inl (List.mem_of_getElem? (i := 0) rfl))
      have VV := own_A.congr V37 (own_ks 3 rfl _ _ _ _ (own_f a b c d y))
      have hm : own_mg (own_f a b c d x) (own_f a b c d y) d = (own_f a b c d y) := if_pos (own_inj _ _ hc3)
      show own_G p.tables e below _ (T37.setTop (mkF m 57 #[.val (.ref p0), .val (.int (own_n x)), .val (.int (own_n y)), .val (.int (own_n (own_f a b c d x))), .val (.int (own_n (own_f a b c d y)))] []))
      exact own_retV X37 hx Bd.returns hlk (hb hby d5_57) (Nat.le_of_ble_eq_true rfl) (Nat.le_of_ble_eq_true rfl) e37 ⟨rfl, N37, K37, by show own_A Z _ p0 .int 4 (own_arr (own_mg (own_f a b c d x) (own_f a b c d y) a) (own_mg (own_f a b c d x) (own_f a b c d y) b) (own_mg (own_f a b c d x) (own_f a b c d y) c) (own_mg (own_f a b c d x) (own_f a b c d y) d)); rw [hm]; exact VV⟩
    · show own_G p.tables e below _ (T36.setTop (mkF m 49 #[.val (.ref p0), .val (.int (own_n x)), .val (.int (own_n y)), .val (.int (own_n (own_f a b c d x))), .val (.int (own_n (own_f a b c d y)))] [(.int (own_n (own_f a b c d x))), (.int (own_n d))]))
      refine own_go (fun _ kt => XS.icmpYes X36.here hx rfl (pc0 := 49) (pc' := 57) rfl (hb hby d5_49) rfl (feq (hc3 : ¬ ((own_n d) = (own_n (own_f a b c d x))))).2 (by decide) (by decide) kt) ?_
      have hm : own_mg (own_f a b c d x) (own_f a b c d y) d = d := if_neg (fun q => hc3 (congrArg own_n q))
      show own_G p.tables e below _ (T36.setTop (mkF m 57 #[.val (.ref p0), .val (.int (own_n x)), .val (.int (own_n y)), .val (.int (own_n (own_f a b c d x))), .val (.int (own_n (own_f a b c d y)))] []))
      exact own_retV X36 hx Bd.returns hlk (hb hby d5_57) (Nat.le_of_ble_eq_true rfl) (Nat.le_of_ble_eq_true rfl) e36 ⟨rfl, N36, Kj, by show own_A Z _ p0 .int 4 (own_arr (own_mg (own_f a b c d x) (own_f a b c d y) a) (own_mg (own_f a b c d x) (own_f a b c d y) b) (own_mg (own_f a b c d x) (own_f a b c d y) c) (own_mg (own_f a b c d x) (own_f a b c d y) d)); rw [hm]; exact Vj⟩
  have j33 : ∀ (T38 : State) (locs38 : List Loc) (h38 : Heap), Stand p l e ({ frames := 0, cells := 0, slots := 0, locals := 0 } : Room) s m #[(.ref p0), (.int (own_n x)), (.int (own_n y))] below meth kc T38 locs38 0 0 → T38.heap = h38 → Fr n0 locs38 → n0 ≤ h38.size → (Keep h0 h38 [p0]) → (own_A Z h38 p0 .int 4 (own_arr (own_mg (own_f a b c d x) (own_f a b c d y) a) (own_mg (own_f a b c d x) (own_f a b c d y) b) c d)) → own_G p.tables e below (own_E below s ({ frames := 0, cells := 0, slots := 0, locals := 0 } : Room).cells ({ frames := 0, cells := 0, slots := 0, locals := 0 } : Room).slots (Q_merge Z p0 (own_n x) (own_n y) a b c d x y h0 n0)) (T38.setTop (mkF m 33 #[.val (.ref p0), .val (.int (own_n x)), .val (.int (own_n y)), .val (.int (own_n (own_f a b c d x))), .val (.int (own_n (own_f a b c d y)))] [])) := by
    intro T38 locs38 h38  X38 e38 N38 Z38 Kj Vj
    show own_G p.tables e below _ (T38.setTop (mkF m 33 #[.val (.ref p0), .val (.int (own_n x)), .val (.int (own_n y)), .val (.int (own_n (own_f a b c d x))), .val (.int (own_n (own_f a b c d y)))] []))
    refine own_go (fun _ kt => XS.aloadN X38.here hx rfl (hb hby d5_33) rfl rfl kt) ?_
    show own_G p.tables e below _ (T38.setTop (mkF m 34 #[.val (.ref p0), .val (.int (own_n x)), .val (.int (own_n y)), .val (.int (own_n (own_f a b c d x))), .val (.int (own_n (own_f a b c d y)))] [(.ref p0)]))
    refine own_go (fun _ kt => XS.iconst X38.here hx rfl (hb hby d5_34) kt) ?_
    show own_G p.tables e below _ (T38.setTop (mkF m 35 #[.val (.ref p0), .val (.int (own_n x)), .val (.int (own_n y)), .val (.int (own_n (own_f a b c d x))), .val (.int (own_n (own_f a b c d y)))] [(.int (2 : Int32)), (.ref p0)]))
    refine own_go (own_ldI X38 hx hZ e38 Vj (j := (2 : Int32)) (v := (.int (own_n c))) (by decide) (by decide) (own_k 2 rfl _ _ _ _) (g := (mkF m 35 #[.val (.ref p0), .val (.int (own_n x)), .val (.int (own_n y)), .val (.int (own_n (own_f a b c d x))), .val (.int (own_n (own_f a b c d y)))] [(.int (2 : Int32)), (.ref p0)])) rfl rfl (hb hby d5_35)) ?_
    show own_G p.tables e below _ (T38.setTop (mkF m 36 #[.val (.ref p0), .val (.int (own_n x)), .val (.int (own_n y)), .val (.int (own_n (own_f a b c d x))), .val (.int (own_n (own_f a b c d y)))] [(.int (own_n c))]))
    refine own_go (fun _ kt => XS.iloadN X38.here hx rfl (hb hby d5_36) rfl kt) ?_
    by_cases hc2 : (own_n c) = (own_n (own_f a b c d x))
    · show own_G p.tables e below _ (T38.setTop (mkF m 37 #[.val (.ref p0), .val (.int (own_n x)), .val (.int (own_n y)), .val (.int (own_n (own_f a b c d x))), .val (.int (own_n (own_f a b c d y)))] [(.int (own_n (own_f a b c d x))), (.int (own_n c))]))
      refine own_go (fun _ kt => XS.icmpNo X38.here hx rfl (hb hby d5_37) rfl (teq (hc2 : (own_n c) = (own_n (own_f a b c d x)))).2 kt) ?_
      show own_G p.tables e below _ (T38.setTop (mkF m 40 #[.val (.ref p0), .val (.int (own_n x)), .val (.int (own_n y)), .val (.int (own_n (own_f a b c d x))), .val (.int (own_n (own_f a b c d y)))] []))
      refine own_go (fun _ kt => XS.aloadN X38.here hx rfl (hb hby d5_40) rfl rfl kt) ?_
      show own_G p.tables e below _ (T38.setTop (mkF m 41 #[.val (.ref p0), .val (.int (own_n x)), .val (.int (own_n y)), .val (.int (own_n (own_f a b c d x))), .val (.int (own_n (own_f a b c d y)))] [(.ref p0)]))
      refine own_go (fun _ kt => XS.iconst X38.here hx rfl (hb hby d5_41) kt) ?_
      show own_G p.tables e below _ (T38.setTop (mkF m 42 #[.val (.ref p0), .val (.int (own_n x)), .val (.int (own_n y)), .val (.int (own_n (own_f a b c d x))), .val (.int (own_n (own_f a b c d y)))] [(.int (2 : Int32)), (.ref p0)]))
      refine own_go (fun _ kt => XS.iload X38.here hx rfl (hb hby d5_42) rfl kt) ?_
      show own_G p.tables e below _ (T38.setTop (mkF m 44 #[.val (.ref p0), .val (.int (own_n x)), .val (.int (own_n y)), .val (.int (own_n (own_f a b c d x))), .val (.int (own_n (own_f a b c d y)))] [(.int (own_n (own_f a b c d y))), (.int (2 : Int32)), (.ref p0)]))
      obtain ⟨T39, h39, X39, e39, W39, V39, st39⟩ := own_stI X38 hx hZ e38 Vj (j := (2 : Int32)) (by decide) (by decide) (g := (mkF m 44 #[.val (.ref p0), .val (.int (own_n x)), .val (.int (own_n y)), .val (.int (own_n (own_f a b c d x))), .val (.int (own_n (own_f a b c d y)))] [(.int (own_n (own_f a b c d y))), (.int (2 : Int32)), (.ref p0)])) rfl rfl (hb hby d5_44)
      refine own_go st39 ?_
      have N39 := Fr.snoc X39 N38 g0
      have Z39 : n0 ≤ h39.size := Nat.le_trans Z38 (Keep.of_wr W39).1
      have K39 : Keep h0 h39 [p0] := Kj.wr W39 (Or.inl (List.mem_of_getElem? (i := 0) rfl))
      have VV := own_A.congr V39 (own_ks 2 rfl _ _ _ _ (own_f a b c d y))
      have hm : own_mg (own_f a b c d x) (own_f a b c d y) c = (own_f a b c d y) := if_pos (own_inj _ _ hc2)
      show own_G p.tables e below _ (T39.setTop (mkF m 45 #[.val (.ref p0), .val (.int (own_n x)), .val (.int (own_n y)), .val (.int (own_n (own_f a b c d x))), .val (.int (own_n (own_f a b c d y)))] []))
      exact j45 _ _ _  X39 e39 N39 Z39 K39 (by show own_A Z _ p0 .int 4 (own_arr (own_mg (own_f a b c d x) (own_f a b c d y) a) (own_mg (own_f a b c d x) (own_f a b c d y) b) (own_mg (own_f a b c d x) (own_f a b c d y) c) d); rw [hm]; exact VV)
    · show own_G p.tables e below _ (T38.setTop (mkF m 37 #[.val (.ref p0), .val (.int (own_n x)), .val (.int (own_n y)), .val (.int (own_n (own_f a b c d x))), .val (.int (own_n (own_f a b c d y)))] [(.int (own_n (own_f a b c d x))), (.int (own_n c))]))
      refine own_go (fun _ kt => XS.icmpYes X38.here hx rfl (pc0 := 37) (pc' := 45) rfl (hb hby d5_37) rfl (feq (hc2 : ¬ ((own_n c) = (own_n (own_f a b c d x))))).2 (by decide) (by decide) kt) ?_
      have hm : own_mg (own_f a b c d x) (own_f a b c d y) c = c := if_neg (fun q => hc2 (congrArg own_n q))
      show own_G p.tables e below _ (T38.setTop (mkF m 45 #[.val (.ref p0), .val (.int (own_n x)), .val (.int (own_n y)), .val (.int (own_n (own_f a b c d x))), .val (.int (own_n (own_f a b c d y)))] []))
      exact j45 _ _ _  X38 e38 N38 Z38 Kj (by show own_A Z _ p0 .int 4 (own_arr (own_mg (own_f a b c d x) (own_f a b c d y) a) (own_mg (own_f a b c d x) (own_f a b c d y) b) (own_mg (own_f a b c d x) (own_f a b c d y) c) d); rw [hm]; exact Vj)
  have j21 : ∀ (T40 : State) (locs40 : List Loc) (h40 : Heap), Stand p l e ({ frames := 0, cells := 0, slots := 0, locals := 0 } : Room) s m #[(.ref p0), (.int (own_n x)), (.int (own_n y))] below meth kc T40 locs40 0 0 → T40.heap = h40 → Fr n0 locs40 → n0 ≤ h40.size → (Keep h0 h40 [p0]) → (own_A Z h40 p0 .int 4 (own_arr (own_mg (own_f a b c d x) (own_f a b c d y) a) b c d)) → own_G p.tables e below (own_E below s ({ frames := 0, cells := 0, slots := 0, locals := 0 } : Room).cells ({ frames := 0, cells := 0, slots := 0, locals := 0 } : Room).slots (Q_merge Z p0 (own_n x) (own_n y) a b c d x y h0 n0)) (T40.setTop (mkF m 21 #[.val (.ref p0), .val (.int (own_n x)), .val (.int (own_n y)), .val (.int (own_n (own_f a b c d x))), .val (.int (own_n (own_f a b c d y)))] [])) := by
    intro T40 locs40 h40  X40 e40 N40 Z40 Kj Vj
    show own_G p.tables e below _ (T40.setTop (mkF m 21 #[.val (.ref p0), .val (.int (own_n x)), .val (.int (own_n y)), .val (.int (own_n (own_f a b c d x))), .val (.int (own_n (own_f a b c d y)))] []))
    refine own_go (fun _ kt => XS.aloadN X40.here hx rfl (hb hby d5_21) rfl rfl kt) ?_
    show own_G p.tables e below _ (T40.setTop (mkF m 22 #[.val (.ref p0), .val (.int (own_n x)), .val (.int (own_n y)), .val (.int (own_n (own_f a b c d x))), .val (.int (own_n (own_f a b c d y)))] [(.ref p0)]))
    refine own_go (fun _ kt => XS.iconst X40.here hx rfl (hb hby d5_22) kt) ?_
    show own_G p.tables e below _ (T40.setTop (mkF m 23 #[.val (.ref p0), .val (.int (own_n x)), .val (.int (own_n y)), .val (.int (own_n (own_f a b c d x))), .val (.int (own_n (own_f a b c d y)))] [(.int (1 : Int32)), (.ref p0)]))
    refine own_go (own_ldI X40 hx hZ e40 Vj (j := (1 : Int32)) (v := (.int (own_n b))) (by decide) (by decide) (own_k 1 rfl _ _ _ _) (g := (mkF m 23 #[.val (.ref p0), .val (.int (own_n x)), .val (.int (own_n y)), .val (.int (own_n (own_f a b c d x))), .val (.int (own_n (own_f a b c d y)))] [(.int (1 : Int32)), (.ref p0)])) rfl rfl (hb hby d5_23)) ?_
    show own_G p.tables e below _ (T40.setTop (mkF m 24 #[.val (.ref p0), .val (.int (own_n x)), .val (.int (own_n y)), .val (.int (own_n (own_f a b c d x))), .val (.int (own_n (own_f a b c d y)))] [(.int (own_n b))]))
    refine own_go (fun _ kt => XS.iloadN X40.here hx rfl (hb hby d5_24) rfl kt) ?_
    by_cases hc1 : (own_n b) = (own_n (own_f a b c d x))
    · show own_G p.tables e below _ (T40.setTop (mkF m 25 #[.val (.ref p0), .val (.int (own_n x)), .val (.int (own_n y)), .val (.int (own_n (own_f a b c d x))), .val (.int (own_n (own_f a b c d y)))] [(.int (own_n (own_f a b c d x))), (.int (own_n b))]))
      refine own_go (fun _ kt => XS.icmpNo X40.here hx rfl (hb hby d5_25) rfl (teq (hc1 : (own_n b) = (own_n (own_f a b c d x)))).2 kt) ?_
      show own_G p.tables e below _ (T40.setTop (mkF m 28 #[.val (.ref p0), .val (.int (own_n x)), .val (.int (own_n y)), .val (.int (own_n (own_f a b c d x))), .val (.int (own_n (own_f a b c d y)))] []))
      refine own_go (fun _ kt => XS.aloadN X40.here hx rfl (hb hby d5_28) rfl rfl kt) ?_
      show own_G p.tables e below _ (T40.setTop (mkF m 29 #[.val (.ref p0), .val (.int (own_n x)), .val (.int (own_n y)), .val (.int (own_n (own_f a b c d x))), .val (.int (own_n (own_f a b c d y)))] [(.ref p0)]))
      refine own_go (fun _ kt => XS.iconst X40.here hx rfl (hb hby d5_29) kt) ?_
      show own_G p.tables e below _ (T40.setTop (mkF m 30 #[.val (.ref p0), .val (.int (own_n x)), .val (.int (own_n y)), .val (.int (own_n (own_f a b c d x))), .val (.int (own_n (own_f a b c d y)))] [(.int (1 : Int32)), (.ref p0)]))
      refine own_go (fun _ kt => XS.iload X40.here hx rfl (hb hby d5_30) rfl kt) ?_
      show own_G p.tables e below _ (T40.setTop (mkF m 32 #[.val (.ref p0), .val (.int (own_n x)), .val (.int (own_n y)), .val (.int (own_n (own_f a b c d x))), .val (.int (own_n (own_f a b c d y)))] [(.int (own_n (own_f a b c d y))), (.int (1 : Int32)), (.ref p0)]))
      obtain ⟨T41, h41, X41, e41, W41, V41, st41⟩ := own_stI X40 hx hZ e40 Vj (j := (1 : Int32)) (by decide) (by decide) (g := (mkF m 32 #[.val (.ref p0), .val (.int (own_n x)), .val (.int (own_n y)), .val (.int (own_n (own_f a b c d x))), .val (.int (own_n (own_f a b c d y)))] [(.int (own_n (own_f a b c d y))), (.int (1 : Int32)), (.ref p0)])) rfl rfl (hb hby d5_32)
      refine own_go st41 ?_
      have N41 := Fr.snoc X41 N40 g0
      have Z41 : n0 ≤ h41.size := Nat.le_trans Z40 (Keep.of_wr W41).1
      have K41 : Keep h0 h41 [p0] := Kj.wr W41 (Or.inl (List.mem_of_getElem? (i := 0) rfl))
      have VV := own_A.congr V41 (own_ks 1 rfl _ _ _ _ (own_f a b c d y))
      have hm : own_mg (own_f a b c d x) (own_f a b c d y) b = (own_f a b c d y) := if_pos (own_inj _ _ hc1)
      show own_G p.tables e below _ (T41.setTop (mkF m 33 #[.val (.ref p0), .val (.int (own_n x)), .val (.int (own_n y)), .val (.int (own_n (own_f a b c d x))), .val (.int (own_n (own_f a b c d y)))] []))
      exact j33 _ _ _  X41 e41 N41 Z41 K41 (by show own_A Z _ p0 .int 4 (own_arr (own_mg (own_f a b c d x) (own_f a b c d y) a) (own_mg (own_f a b c d x) (own_f a b c d y) b) c d); rw [hm]; exact VV)
    · show own_G p.tables e below _ (T40.setTop (mkF m 25 #[.val (.ref p0), .val (.int (own_n x)), .val (.int (own_n y)), .val (.int (own_n (own_f a b c d x))), .val (.int (own_n (own_f a b c d y)))] [(.int (own_n (own_f a b c d x))), (.int (own_n b))]))
      refine own_go (fun _ kt => XS.icmpYes X40.here hx rfl (pc0 := 25) (pc' := 33) rfl (hb hby d5_25) rfl (feq (hc1 : ¬ ((own_n b) = (own_n (own_f a b c d x))))).2 (by decide) (by decide) kt) ?_
      have hm : own_mg (own_f a b c d x) (own_f a b c d y) b = b := if_neg (fun q => hc1 (congrArg own_n q))
      show own_G p.tables e below _ (T40.setTop (mkF m 33 #[.val (.ref p0), .val (.int (own_n x)), .val (.int (own_n y)), .val (.int (own_n (own_f a b c d x))), .val (.int (own_n (own_f a b c d y)))] []))
      exact j33 _ _ _  X40 e40 N40 Z40 Kj (by show own_A Z _ p0 .int 4 (own_arr (own_mg (own_f a b c d x) (own_f a b c d y) a) (own_mg (own_f a b c d x) (own_f a b c d y) b) c d); rw [hm]; exact Vj)
  show own_G p.tables e below _ (s₁.setTop (mkF m 0 #[.val (.ref p0), .val (.int (own_n x)), .val (.int (own_n y)), .unset, .unset] []))
  refine own_go (fun _ kt => XS.aloadN X0.here hx rfl (hb hby d5_0) rfl rfl kt) ?_
  show own_G p.tables e below _ (s₁.setTop (mkF m 1 #[.val (.ref p0), .val (.int (own_n x)), .val (.int (own_n y)), .unset, .unset] [(.ref p0)]))
  refine own_go (fun _ kt => XS.iloadN X0.here hx rfl (hb hby d5_1) rfl kt) ?_
  show own_G p.tables e below _ (s₁.setTop (mkF m 2 #[.val (.ref p0), .val (.int (own_n x)), .val (.int (own_n y)), .unset, .unset] [(.int (own_n x)), (.ref p0)]))
  refine own_go (own_ldI X0 hx hZ e0 V0 (j := (own_n x)) (v := (.int (own_n (own_f a b c d x)))) (own_nb _).1 (own_nb _).2 (own_at _ _ _ _ _) (g := (mkF m 2 #[.val (.ref p0), .val (.int (own_n x)), .val (.int (own_n y)), .unset, .unset] [(.int (own_n x)), (.ref p0)])) rfl rfl (hb hby d5_2)) ?_
  show own_G p.tables e below _ (s₁.setTop (mkF m 3 #[.val (.ref p0), .val (.int (own_n x)), .val (.int (own_n y)), .unset, .unset] [(.int (own_n (own_f a b c d x)))]))
  refine own_go (fun _ kt => XS.istoreN X0.here hx rfl (hb hby d5_3) rfl (l' := #[.val (.ref p0), .val (.int (own_n x)), .val (.int (own_n y)), .val (.int (own_n (own_f a b c d x))), .unset]) rfl kt) ?_
  show own_G p.tables e below _ (s₁.setTop (mkF m 4 #[.val (.ref p0), .val (.int (own_n x)), .val (.int (own_n y)), .val (.int (own_n (own_f a b c d x))), .unset] []))
  refine own_go (fun _ kt => XS.aloadN X0.here hx rfl (hb hby d5_4) rfl rfl kt) ?_
  show own_G p.tables e below _ (s₁.setTop (mkF m 5 #[.val (.ref p0), .val (.int (own_n x)), .val (.int (own_n y)), .val (.int (own_n (own_f a b c d x))), .unset] [(.ref p0)]))
  refine own_go (fun _ kt => XS.iloadN X0.here hx rfl (hb hby d5_5) rfl kt) ?_
  show own_G p.tables e below _ (s₁.setTop (mkF m 6 #[.val (.ref p0), .val (.int (own_n x)), .val (.int (own_n y)), .val (.int (own_n (own_f a b c d x))), .unset] [(.int (own_n y)), (.ref p0)]))
  refine own_go (own_ldI X0 hx hZ e0 V0 (j := (own_n y)) (v := (.int (own_n (own_f a b c d y)))) (own_nb _).1 (own_nb _).2 (own_at _ _ _ _ _) (g := (mkF m 6 #[.val (.ref p0), .val (.int (own_n x)), .val (.int (own_n y)), .val (.int (own_n (own_f a b c d x))), .unset] [(.int (own_n y)), (.ref p0)])) rfl rfl (hb hby d5_6)) ?_
  show own_G p.tables e below _ (s₁.setTop (mkF m 7 #[.val (.ref p0), .val (.int (own_n x)), .val (.int (own_n y)), .val (.int (own_n (own_f a b c d x))), .unset] [(.int (own_n (own_f a b c d y)))]))
  refine own_go (fun _ kt => XS.istore X0.here hx rfl (hb hby d5_7) rfl (l' := #[.val (.ref p0), .val (.int (own_n x)), .val (.int (own_n y)), .val (.int (own_n (own_f a b c d x))), .val (.int (own_n (own_f a b c d y)))]) rfl kt) ?_
  show own_G p.tables e below _ (s₁.setTop (mkF m 9 #[.val (.ref p0), .val (.int (own_n x)), .val (.int (own_n y)), .val (.int (own_n (own_f a b c d x))), .val (.int (own_n (own_f a b c d y)))] []))
  refine own_go (fun _ kt => XS.aloadN X0.here hx rfl (hb hby d5_9) rfl rfl kt) ?_
  show own_G p.tables e below _ (s₁.setTop (mkF m 10 #[.val (.ref p0), .val (.int (own_n x)), .val (.int (own_n y)), .val (.int (own_n (own_f a b c d x))), .val (.int (own_n (own_f a b c d y)))] [(.ref p0)]))
  refine own_go (fun _ kt => XS.iconst X0.here hx rfl (hb hby d5_10) kt) ?_
  show own_G p.tables e below _ (s₁.setTop (mkF m 11 #[.val (.ref p0), .val (.int (own_n x)), .val (.int (own_n y)), .val (.int (own_n (own_f a b c d x))), .val (.int (own_n (own_f a b c d y)))] [(.int (0 : Int32)), (.ref p0)]))
  refine own_go (own_ldI X0 hx hZ e0 V0 (j := (0 : Int32)) (v := (.int (own_n a))) (by decide) (by decide) (own_k 0 rfl _ _ _ _) (g := (mkF m 11 #[.val (.ref p0), .val (.int (own_n x)), .val (.int (own_n y)), .val (.int (own_n (own_f a b c d x))), .val (.int (own_n (own_f a b c d y)))] [(.int (0 : Int32)), (.ref p0)])) rfl rfl (hb hby d5_11)) ?_
  show own_G p.tables e below _ (s₁.setTop (mkF m 12 #[.val (.ref p0), .val (.int (own_n x)), .val (.int (own_n y)), .val (.int (own_n (own_f a b c d x))), .val (.int (own_n (own_f a b c d y)))] [(.int (own_n a))]))
  refine own_go (fun _ kt => XS.iloadN X0.here hx rfl (hb hby d5_12) rfl kt) ?_
  by_cases hc0 : (own_n a) = (own_n (own_f a b c d x))
  · show own_G p.tables e below _ (s₁.setTop (mkF m 13 #[.val (.ref p0), .val (.int (own_n x)), .val (.int (own_n y)), .val (.int (own_n (own_f a b c d x))), .val (.int (own_n (own_f a b c d y)))] [(.int (own_n (own_f a b c d x))), (.int (own_n a))]))
    refine own_go (fun _ kt => XS.icmpNo X0.here hx rfl (hb hby d5_13) rfl (teq (hc0 : (own_n a) = (own_n (own_f a b c d x)))).2 kt) ?_
    show own_G p.tables e below _ (s₁.setTop (mkF m 16 #[.val (.ref p0), .val (.int (own_n x)), .val (.int (own_n y)), .val (.int (own_n (own_f a b c d x))), .val (.int (own_n (own_f a b c d y)))] []))
    refine own_go (fun _ kt => XS.aloadN X0.here hx rfl (hb hby d5_16) rfl rfl kt) ?_
    show own_G p.tables e below _ (s₁.setTop (mkF m 17 #[.val (.ref p0), .val (.int (own_n x)), .val (.int (own_n y)), .val (.int (own_n (own_f a b c d x))), .val (.int (own_n (own_f a b c d y)))] [(.ref p0)]))
    refine own_go (fun _ kt => XS.iconst X0.here hx rfl (hb hby d5_17) kt) ?_
    show own_G p.tables e below _ (s₁.setTop (mkF m 18 #[.val (.ref p0), .val (.int (own_n x)), .val (.int (own_n y)), .val (.int (own_n (own_f a b c d x))), .val (.int (own_n (own_f a b c d y)))] [(.int (0 : Int32)), (.ref p0)]))
    refine own_go (fun _ kt => XS.iload X0.here hx rfl (hb hby d5_18) rfl kt) ?_
    show own_G p.tables e below _ (s₁.setTop (mkF m 20 #[.val (.ref p0), .val (.int (own_n x)), .val (.int (own_n y)), .val (.int (own_n (own_f a b c d x))), .val (.int (own_n (own_f a b c d y)))] [(.int (own_n (own_f a b c d y))), (.int (0 : Int32)), (.ref p0)]))
    obtain ⟨T42, h42, X42, e42, W42, V42, st42⟩ := own_stI X0 hx hZ e0 V0 (j := (0 : Int32)) (by decide) (by decide) (g := (mkF m 20 #[.val (.ref p0), .val (.int (own_n x)), .val (.int (own_n y)), .val (.int (own_n (own_f a b c d x))), .val (.int (own_n (own_f a b c d y)))] [(.int (own_n (own_f a b c d y))), (.int (0 : Int32)), (.ref p0)])) rfl rfl (hb hby d5_20)
    refine own_go st42 ?_
    have N42 := Fr.snoc X42 N0 g0
    have Z42 : n0 ≤ h42.size := Nat.le_trans Z0 (Keep.of_wr W42).1
    have K42 : Keep h0 h42 [p0] := (Keep.refl h0 [p0]).wr W42 (Or.inl (List.mem_of_getElem? (i := 0) rfl))
    have VV := own_A.congr V42 (own_ks 0 rfl _ _ _ _ (own_f a b c d y))
    have hm : own_mg (own_f a b c d x) (own_f a b c d y) a = (own_f a b c d y) := if_pos (own_inj _ _ hc0)
    show own_G p.tables e below _ (T42.setTop (mkF m 21 #[.val (.ref p0), .val (.int (own_n x)), .val (.int (own_n y)), .val (.int (own_n (own_f a b c d x))), .val (.int (own_n (own_f a b c d y)))] []))
    exact j21 _ _ _  X42 e42 N42 Z42 K42 (by show own_A Z _ p0 .int 4 (own_arr (own_mg (own_f a b c d x) (own_f a b c d y) a) b c d); rw [hm]; exact VV)
  · show own_G p.tables e below _ (s₁.setTop (mkF m 13 #[.val (.ref p0), .val (.int (own_n x)), .val (.int (own_n y)), .val (.int (own_n (own_f a b c d x))), .val (.int (own_n (own_f a b c d y)))] [(.int (own_n (own_f a b c d x))), (.int (own_n a))]))
    refine own_go (fun _ kt => XS.icmpYes X0.here hx rfl (pc0 := 13) (pc' := 21) rfl (hb hby d5_13) rfl (feq (hc0 : ¬ ((own_n a) = (own_n (own_f a b c d x))))).2 (by decide) (by decide) kt) ?_
    have hm : own_mg (own_f a b c d x) (own_f a b c d y) a = a := if_neg (fun q => hc0 (congrArg own_n q))
    show own_G p.tables e below _ (s₁.setTop (mkF m 21 #[.val (.ref p0), .val (.int (own_n x)), .val (.int (own_n y)), .val (.int (own_n (own_f a b c d x))), .val (.int (own_n (own_f a b c d y)))] []))
    exact j21 _ _ _  X0 e0 N0 Z0 (Keep.refl h0 [p0]) (by show own_A Z _ p0 .int 4 (own_arr (own_mg (own_f a b c d x) (own_f a b c d y) a) b c d); rw [hm]; exact V0)
/-- the two answers agree: same root, same label -/
def own_same (a b c d e f g h : Fin 4) : Prop := ∀ x y : Fin 4, own_rt a b c d x = own_rt a b c d y ↔ own_f e f g h x = own_f e f g h y
theorem own_same0 : own_same 0 1 2 3 0 1 2 3 := by unfold own_same; decide
theorem own_same1 {a b c d e f g h a' b' c' d' x y : Fin 4} (S : own_same a b c d e f g h) (hj : ∀ z : Fin 4, own_rt a' b' c' d' z = if own_rt a b c d z = own_rt a b c d x then own_rt a b c d y else own_rt a b c d z) :
    own_same a' b' c' d' (own_mg (own_f e f g h x) (own_f e f g h y) e) (own_mg (own_f e f g h x) (own_f e f g h y) f) (own_mg (own_f e f g h x) (own_f e f g h y) g) (own_mg (own_f e f g h x) (own_f e f g h y) h) := by
  intro u v
  rw [hj, hj, own_mgf, own_mgf]
  have s1 := S u x; have s2 := S v x; have s3 := S u v; have s4 := S u y; have s5 := S v y; have s6 := S x y
  simp only [own_mg]
  by_cases q1 : own_rt a b c d u = own_rt a b c d x
  · have q1' := s1.mp q1
    by_cases q2 : own_rt a b c d v = own_rt a b c d x
    · have q2' := s2.mp q2
      simp [q1, q2, q1', q2']
    · have q2' : ¬ own_f e f g h v = own_f e f g h x := fun z => q2 (s2.mpr z)
      simp only [q1, q2, q1', q2', if_true, if_false]
      exact ⟨fun z => (s5.mp z.symm).symm, fun z => (s5.mpr z.symm).symm⟩
  · have q1' : ¬ own_f e f g h u = own_f e f g h x := fun z => q1 (s1.mpr z)
    by_cases q2 : own_rt a b c d v = own_rt a b c d x
    · have q2' := s2.mp q2
      simp only [q1, q2, q1', q2', if_true, if_false]
      exact s4
    · have q2' : ¬ own_f e f g h v = own_f e f g h x := fun z => q2 (s2.mpr z)
      simp only [q1, q2, q1', q2', if_false]
      exact s3
theorem own_ge0 (x : Fin 4) : ¬ (own_n x < (0 : Int32)) := by revert x; decide
theorem own_lt4 (x : Fin 4) : own_n x < (4 : Int32) := by revert x; decide
theorem own_D.keep {Z : State} {h h' : Heap} {n0 : Nat} {o w : Addr} {a b c d : Fin 4} {ws : List Addr} (D : own_D Z h n0 o w a b c d) (K : Keep h h' ws) (q1 : o ∉ ws) (q2 : w ∉ ws) : own_D Z h' n0 o w a b c d := by
  obtain ⟨E, F, V, r⟩ := D
  exact ⟨E.keep K, F.keep K q1, V.keep K q2, r⟩
theorem pd__I_V : parseMethodDescriptor "(I)V" = some ⟨[.int], none⟩ := by decide +kernel
theorem pd__II_V : parseMethodDescriptor "(II)V" = some ⟨[.int, .int], none⟩ := by decide +kernel
theorem pd___III_V : parseMethodDescriptor "([III)V" = some ⟨[(.array .int), .int, .int], none⟩ := by decide +kernel
theorem ef_law (m : MethodId) (p0 : Int32) (p1 : Int32) (p2 : Int32) (p3 : Int32) : entryFrame m #[(.int p0), (.int p1), (.int p2), (.int p3)] maxLocals = mkF m 0 #[.val (.int p0), .val (.int p1), .val (.int p2), .val (.int p3), .unset, .unset, .unset, .unset, .unset, .unset, .unset, .unset, .unset, .unset, .unset, .unset, .unset, .unset, .unset, .unset, .unset] [] := by first | (simp [entryFrame, mkF, argsToLocals, Value.category, maxLocals]; done) | rfl
def Q_law (Z : State) (p0 : Int32) (p1 : Int32) (p2 : Int32) (p3 : Int32) (h0 : Heap) (n0 : Nat) (v : Option Value) (h : Heap) (L : List Loc) : Prop := v = some (.int (1 : Int32)) ∧ Fr n0 L
set_option maxRecDepth 65536 in
set_option maxHeartbeats 40000000 in
theorem rm_law (l : Launch) (Z : State) (a0 : Array Value) (hw : ∀ d ∈ tables_1, d.before a0 Z = true) (ws : List Jvm.Cond) (p0 : Int32) (p1 : Int32) (p2 : Int32) (p3 : Int32) (h0 : Heap) (n0 : Nat) (Z0 : n0 ≤ h0.size) :
    MetFree l x (head1 (Jvm.Cond.code x code maxLocals ret :: ws) room_1) (fun a U => a = #[(.int p0), (.int p1), (.int p2), (.int p3)] ∧ Z.Warmed39 U.vm ∧ U.heap = h0) (fun _ _ _ _ _ => True) (fun _ U o U' => ∃ v L, o = .returned v ∧ Q_law Z p0 p1 p2 p3 h0 n0 v U'.heap L ∧ FrameEnd U o U' L room_1.cells room_1.slots) := by
  refine MetFree.of_bodySF (plainFor_of_name pn_com_example_weftwork_weftwork_graph_DisjointSetsRootPinLaw) hisR ?_
  intro p e s m args below meth kc s₁ Bd hml0 hP hK
  obtain ⟨rfl, hZ, hh⟩ := hP
  have hx := Bd.exec
  have hby := Bd.bytes
  have hlk := Bd.notSynchronized
  have hml : kc.maxLocals = 21 := hml0
  have hown : s.vm.findClass "com/example/weftwork/weftwork/graph/DisjointSetsRootPinLaw" = some m.cls := findClass_of_methodNamed Bd.named
  have hnm := (name_of_methodNamed Bd.named Bd.method).1
  have X0 : Stand p l e room_1 s m #[(.int p0), (.int p1), (.int p2), (.int p3)] below meth kc s₁ [] 0 0 := Stand.of_body Bd
  have e0 : s₁.heap = h0 := by rw [← hh, Bd.state]; rfl
  have N0 := Fr.nil n0
  show own_G p.tables e below (own_E below s room_1.cells room_1.slots (Q_law Z p0 p1 p2 p3 h0 n0)) _
  refine own_go (fun _ k => castTop (ef_law m p0 p1 p2 p3) k) ?_
  have j58 : ∀ (T43 : State) (locs43 : List Loc) (h43 : Heap) (x0 x1 x2 x3 x4 x5 x6 x7 x8 : Fin 4), Stand p l e room_1 s m #[(.int p0), (.int p1), (.int p2), (.int p3)] below meth kc T43 locs43 0 0 → T43.heap = h43 → Fr n0 locs43 → n0 ≤ h43.size → own_G p.tables e below (own_E below s room_1.cells room_1.slots (Q_law Z p0 p1 p2 p3 h0 n0)) (T43.setTop (mkF m 58 #[.val (.int p0), .val (.int p1), .val (.int p2), .val (.int p3), .val (.int (own_n x0)), .val (.int (own_n x1)), .val (.int (own_n x2)), .val (.int (own_n x3)), .val (.int (own_n x4)), .val (.int (own_n x5)), .val (.int (own_n x6)), .val (.int (own_n x7)), .val (.int (own_n x8)), .unset, .unset, .unset, .unset, .unset, .unset, .unset, .unset] [])) := by
    intro T43 locs43 h43 x0 x1 x2 x3 x4 x5 x6 x7 x8 X43 e43 N43 Z43 
    show own_G p.tables e below _ (T43.setTop (mkF m 58 #[.val (.int p0), .val (.int p1), .val (.int p2), .val (.int p3), .val (.int (own_n x0)), .val (.int (own_n x1)), .val (.int (own_n x2)), .val (.int (own_n x3)), .val (.int (own_n x4)), .val (.int (own_n x5)), .val (.int (own_n x6)), .val (.int (own_n x7)), .val (.int (own_n x8)), .unset, .unset, .unset, .unset, .unset, .unset, .unset, .unset] []))
    refine own_go (fun _ kt => XS.iconst X43.here hx rfl (hb hby at_58) kt) ?_
    show own_G p.tables e below _ (T43.setTop (mkF m 59 #[.val (.int p0), .val (.int p1), .val (.int p2), .val (.int p3), .val (.int (own_n x0)), .val (.int (own_n x1)), .val (.int (own_n x2)), .val (.int (own_n x3)), .val (.int (own_n x4)), .val (.int (own_n x5)), .val (.int (own_n x6)), .val (.int (own_n x7)), .val (.int (own_n x8)), .unset, .unset, .unset, .unset, .unset, .unset, .unset, .unset] [(.int (4 : Int32))]))
    obtain ⟨T44, h44, k44, X44, e44, E44, A44, st44⟩ := newP X43 hx hZ (hw _ (List.mem_of_getElem? (i := 0) rfl)) e43 (g := (mkF m 59 #[.val (.int p0), .val (.int p1), .val (.int p2), .val (.int p3), .val (.int (own_n x0)), .val (.int (own_n x1)), .val (.int (own_n x2)), .val (.int (own_n x3)), .val (.int (own_n x4)), .val (.int (own_n x5)), .val (.int (own_n x6)), .val (.int (own_n x7)), .val (.int (own_n x8)), .unset, .unset, .unset, .unset, .unset, .unset, .unset, .unset] [(.int (4 : Int32))])) rfl (hb hby at_59) rfl (by decide) (cap := 4) (by decide) (by decide) (Nat.le_of_ble_eq_true rfl) (Nat.le_of_ble_eq_true rfl)
    obtain ⟨b44, g44⟩ : ∃ z, z = h43.size := ⟨_, rfl⟩
    rw [← g44] at A44 st44
    have g_b44 : n0 ≤ b44 := Nat.le_trans Z43 (Nat.le_of_eq g44.symm)
    refine own_go st44 ?_
    have Z44 : n0 ≤ h44.size := Nat.le_trans Z43 E44.1
    have V44 := own_A.new A44 (N := 4) (by decide)
    show own_G p.tables e below _ (T44.setTop (mkF m 61 #[.val (.int p0), .val (.int p1), .val (.int p2), .val (.int p3), .val (.int (own_n x0)), .val (.int (own_n x1)), .val (.int (own_n x2)), .val (.int (own_n x3)), .val (.int (own_n x4)), .val (.int (own_n x5)), .val (.int (own_n x6)), .val (.int (own_n x7)), .val (.int (own_n x8)), .unset, .unset, .unset, .unset, .unset, .unset, .unset, .unset] [(.ref b44)]))
    refine own_go (fun _ kt => XS.dup X44.here hx rfl (hb hby at_61) rfl rfl kt) ?_
    show own_G p.tables e below _ (T44.setTop (mkF m 62 #[.val (.int p0), .val (.int p1), .val (.int p2), .val (.int p3), .val (.int (own_n x0)), .val (.int (own_n x1)), .val (.int (own_n x2)), .val (.int (own_n x3)), .val (.int (own_n x4)), .val (.int (own_n x5)), .val (.int (own_n x6)), .val (.int (own_n x7)), .val (.int (own_n x8)), .unset, .unset, .unset, .unset, .unset, .unset, .unset, .unset] [(.ref b44), (.ref b44)]))
    refine own_go (fun _ kt => XS.iconst X44.here hx rfl (hb hby at_62) kt) ?_
    show own_G p.tables e below _ (T44.setTop (mkF m 63 #[.val (.int p0), .val (.int p1), .val (.int p2), .val (.int p3), .val (.int (own_n x0)), .val (.int (own_n x1)), .val (.int (own_n x2)), .val (.int (own_n x3)), .val (.int (own_n x4)), .val (.int (own_n x5)), .val (.int (own_n x6)), .val (.int (own_n x7)), .val (.int (own_n x8)), .unset, .unset, .unset, .unset, .unset, .unset, .unset, .unset] [(.int (0 : Int32)), (.ref b44), (.ref b44)]))
    refine own_go (fun _ kt => XS.iconst X44.here hx rfl (hb hby at_63) kt) ?_
    show own_G p.tables e below _ (T44.setTop (mkF m 64 #[.val (.int p0), .val (.int p1), .val (.int p2), .val (.int p3), .val (.int (own_n x0)), .val (.int (own_n x1)), .val (.int (own_n x2)), .val (.int (own_n x3)), .val (.int (own_n x4)), .val (.int (own_n x5)), .val (.int (own_n x6)), .val (.int (own_n x7)), .val (.int (own_n x8)), .unset, .unset, .unset, .unset, .unset, .unset, .unset, .unset] [(.int (0 : Int32)), (.int (0 : Int32)), (.ref b44), (.ref b44)]))
    obtain ⟨T45, h45, X45, e45, W45, V45, st45⟩ := own_stI X44 hx hZ e44 V44 (j := (0 : Int32)) (by decide) (by decide) (g := (mkF m 64 #[.val (.int p0), .val (.int p1), .val (.int p2), .val (.int p3), .val (.int (own_n x0)), .val (.int (own_n x1)), .val (.int (own_n x2)), .val (.int (own_n x3)), .val (.int (own_n x4)), .val (.int (own_n x5)), .val (.int (own_n x6)), .val (.int (own_n x7)), .val (.int (own_n x8)), .unset, .unset, .unset, .unset, .unset, .unset, .unset, .unset] [(.int (0 : Int32)), (.int (0 : Int32)), (.ref b44), (.ref b44)])) rfl rfl (hb hby at_64)
    refine own_go st45 ?_
    have N45 := Fr.snoc X45 N43 g_b44
    have Z45 : n0 ≤ h45.size := Nat.le_trans Z44 (Keep.of_wr W45).1
    show own_G p.tables e below _ (T45.setTop (mkF m 65 #[.val (.int p0), .val (.int p1), .val (.int p2), .val (.int p3), .val (.int (own_n x0)), .val (.int (own_n x1)), .val (.int (own_n x2)), .val (.int (own_n x3)), .val (.int (own_n x4)), .val (.int (own_n x5)), .val (.int (own_n x6)), .val (.int (own_n x7)), .val (.int (own_n x8)), .unset, .unset, .unset, .unset, .unset, .unset, .unset, .unset] [(.ref b44)]))
    refine own_go (fun _ kt => XS.dup X45.here hx rfl (hb hby at_65) rfl rfl kt) ?_
    show own_G p.tables e below _ (T45.setTop (mkF m 66 #[.val (.int p0), .val (.int p1), .val (.int p2), .val (.int p3), .val (.int (own_n x0)), .val (.int (own_n x1)), .val (.int (own_n x2)), .val (.int (own_n x3)), .val (.int (own_n x4)), .val (.int (own_n x5)), .val (.int (own_n x6)), .val (.int (own_n x7)), .val (.int (own_n x8)), .unset, .unset, .unset, .unset, .unset, .unset, .unset, .unset] [(.ref b44), (.ref b44)]))
    refine own_go (fun _ kt => XS.iconst X45.here hx rfl (hb hby at_66) kt) ?_
    show own_G p.tables e below _ (T45.setTop (mkF m 67 #[.val (.int p0), .val (.int p1), .val (.int p2), .val (.int p3), .val (.int (own_n x0)), .val (.int (own_n x1)), .val (.int (own_n x2)), .val (.int (own_n x3)), .val (.int (own_n x4)), .val (.int (own_n x5)), .val (.int (own_n x6)), .val (.int (own_n x7)), .val (.int (own_n x8)), .unset, .unset, .unset, .unset, .unset, .unset, .unset, .unset] [(.int (1 : Int32)), (.ref b44), (.ref b44)]))
    refine own_go (fun _ kt => XS.iconst X45.here hx rfl (hb hby at_67) kt) ?_
    show own_G p.tables e below _ (T45.setTop (mkF m 68 #[.val (.int p0), .val (.int p1), .val (.int p2), .val (.int p3), .val (.int (own_n x0)), .val (.int (own_n x1)), .val (.int (own_n x2)), .val (.int (own_n x3)), .val (.int (own_n x4)), .val (.int (own_n x5)), .val (.int (own_n x6)), .val (.int (own_n x7)), .val (.int (own_n x8)), .unset, .unset, .unset, .unset, .unset, .unset, .unset, .unset] [(.int (1 : Int32)), (.int (1 : Int32)), (.ref b44), (.ref b44)]))
    obtain ⟨T46, h46, X46, e46, W46, V46, st46⟩ := own_stI X45 hx hZ e45 V45 (j := (1 : Int32)) (by decide) (by decide) (g := (mkF m 68 #[.val (.int p0), .val (.int p1), .val (.int p2), .val (.int p3), .val (.int (own_n x0)), .val (.int (own_n x1)), .val (.int (own_n x2)), .val (.int (own_n x3)), .val (.int (own_n x4)), .val (.int (own_n x5)), .val (.int (own_n x6)), .val (.int (own_n x7)), .val (.int (own_n x8)), .unset, .unset, .unset, .unset, .unset, .unset, .unset, .unset] [(.int (1 : Int32)), (.int (1 : Int32)), (.ref b44), (.ref b44)])) rfl rfl (hb hby at_68)
    refine own_go st46 ?_
    have N46 := Fr.snoc X46 N45 g_b44
    have Z46 : n0 ≤ h46.size := Nat.le_trans Z45 (Keep.of_wr W46).1
    show own_G p.tables e below _ (T46.setTop (mkF m 69 #[.val (.int p0), .val (.int p1), .val (.int p2), .val (.int p3), .val (.int (own_n x0)), .val (.int (own_n x1)), .val (.int (own_n x2)), .val (.int (own_n x3)), .val (.int (own_n x4)), .val (.int (own_n x5)), .val (.int (own_n x6)), .val (.int (own_n x7)), .val (.int (own_n x8)), .unset, .unset, .unset, .unset, .unset, .unset, .unset, .unset] [(.ref b44)]))
    refine own_go (fun _ kt => XS.dup X46.here hx rfl (hb hby at_69) rfl rfl kt) ?_
    show own_G p.tables e below _ (T46.setTop (mkF m 70 #[.val (.int p0), .val (.int p1), .val (.int p2), .val (.int p3), .val (.int (own_n x0)), .val (.int (own_n x1)), .val (.int (own_n x2)), .val (.int (own_n x3)), .val (.int (own_n x4)), .val (.int (own_n x5)), .val (.int (own_n x6)), .val (.int (own_n x7)), .val (.int (own_n x8)), .unset, .unset, .unset, .unset, .unset, .unset, .unset, .unset] [(.ref b44), (.ref b44)]))
    refine own_go (fun _ kt => XS.iconst X46.here hx rfl (hb hby at_70) kt) ?_
    show own_G p.tables e below _ (T46.setTop (mkF m 71 #[.val (.int p0), .val (.int p1), .val (.int p2), .val (.int p3), .val (.int (own_n x0)), .val (.int (own_n x1)), .val (.int (own_n x2)), .val (.int (own_n x3)), .val (.int (own_n x4)), .val (.int (own_n x5)), .val (.int (own_n x6)), .val (.int (own_n x7)), .val (.int (own_n x8)), .unset, .unset, .unset, .unset, .unset, .unset, .unset, .unset] [(.int (2 : Int32)), (.ref b44), (.ref b44)]))
    refine own_go (fun _ kt => XS.iconst X46.here hx rfl (hb hby at_71) kt) ?_
    show own_G p.tables e below _ (T46.setTop (mkF m 72 #[.val (.int p0), .val (.int p1), .val (.int p2), .val (.int p3), .val (.int (own_n x0)), .val (.int (own_n x1)), .val (.int (own_n x2)), .val (.int (own_n x3)), .val (.int (own_n x4)), .val (.int (own_n x5)), .val (.int (own_n x6)), .val (.int (own_n x7)), .val (.int (own_n x8)), .unset, .unset, .unset, .unset, .unset, .unset, .unset, .unset] [(.int (2 : Int32)), (.int (2 : Int32)), (.ref b44), (.ref b44)]))
    obtain ⟨T47, h47, X47, e47, W47, V47, st47⟩ := own_stI X46 hx hZ e46 V46 (j := (2 : Int32)) (by decide) (by decide) (g := (mkF m 72 #[.val (.int p0), .val (.int p1), .val (.int p2), .val (.int p3), .val (.int (own_n x0)), .val (.int (own_n x1)), .val (.int (own_n x2)), .val (.int (own_n x3)), .val (.int (own_n x4)), .val (.int (own_n x5)), .val (.int (own_n x6)), .val (.int (own_n x7)), .val (.int (own_n x8)), .unset, .unset, .unset, .unset, .unset, .unset, .unset, .unset] [(.int (2 : Int32)), (.int (2 : Int32)), (.ref b44), (.ref b44)])) rfl rfl (hb hby at_72)
    refine own_go st47 ?_
    have N47 := Fr.snoc X47 N46 g_b44
    have Z47 : n0 ≤ h47.size := Nat.le_trans Z46 (Keep.of_wr W47).1
    show own_G p.tables e below _ (T47.setTop (mkF m 73 #[.val (.int p0), .val (.int p1), .val (.int p2), .val (.int p3), .val (.int (own_n x0)), .val (.int (own_n x1)), .val (.int (own_n x2)), .val (.int (own_n x3)), .val (.int (own_n x4)), .val (.int (own_n x5)), .val (.int (own_n x6)), .val (.int (own_n x7)), .val (.int (own_n x8)), .unset, .unset, .unset, .unset, .unset, .unset, .unset, .unset] [(.ref b44)]))
    refine own_go (fun _ kt => XS.dup X47.here hx rfl (hb hby at_73) rfl rfl kt) ?_
    show own_G p.tables e below _ (T47.setTop (mkF m 74 #[.val (.int p0), .val (.int p1), .val (.int p2), .val (.int p3), .val (.int (own_n x0)), .val (.int (own_n x1)), .val (.int (own_n x2)), .val (.int (own_n x3)), .val (.int (own_n x4)), .val (.int (own_n x5)), .val (.int (own_n x6)), .val (.int (own_n x7)), .val (.int (own_n x8)), .unset, .unset, .unset, .unset, .unset, .unset, .unset, .unset] [(.ref b44), (.ref b44)]))
    refine own_go (fun _ kt => XS.iconst X47.here hx rfl (hb hby at_74) kt) ?_
    show own_G p.tables e below _ (T47.setTop (mkF m 75 #[.val (.int p0), .val (.int p1), .val (.int p2), .val (.int p3), .val (.int (own_n x0)), .val (.int (own_n x1)), .val (.int (own_n x2)), .val (.int (own_n x3)), .val (.int (own_n x4)), .val (.int (own_n x5)), .val (.int (own_n x6)), .val (.int (own_n x7)), .val (.int (own_n x8)), .unset, .unset, .unset, .unset, .unset, .unset, .unset, .unset] [(.int (3 : Int32)), (.ref b44), (.ref b44)]))
    refine own_go (fun _ kt => XS.iconst X47.here hx rfl (hb hby at_75) kt) ?_
    show own_G p.tables e below _ (T47.setTop (mkF m 76 #[.val (.int p0), .val (.int p1), .val (.int p2), .val (.int p3), .val (.int (own_n x0)), .val (.int (own_n x1)), .val (.int (own_n x2)), .val (.int (own_n x3)), .val (.int (own_n x4)), .val (.int (own_n x5)), .val (.int (own_n x6)), .val (.int (own_n x7)), .val (.int (own_n x8)), .unset, .unset, .unset, .unset, .unset, .unset, .unset, .unset] [(.int (3 : Int32)), (.int (3 : Int32)), (.ref b44), (.ref b44)]))
    obtain ⟨T48, h48, X48, e48, W48, V48, st48⟩ := own_stI X47 hx hZ e47 V47 (j := (3 : Int32)) (by decide) (by decide) (g := (mkF m 76 #[.val (.int p0), .val (.int p1), .val (.int p2), .val (.int p3), .val (.int (own_n x0)), .val (.int (own_n x1)), .val (.int (own_n x2)), .val (.int (own_n x3)), .val (.int (own_n x4)), .val (.int (own_n x5)), .val (.int (own_n x6)), .val (.int (own_n x7)), .val (.int (own_n x8)), .unset, .unset, .unset, .unset, .unset, .unset, .unset, .unset] [(.int (3 : Int32)), (.int (3 : Int32)), (.ref b44), (.ref b44)])) rfl rfl (hb hby at_76)
    refine own_go st48 ?_
    have N48 := Fr.snoc X48 N47 g_b44
    have Z48 : n0 ≤ h48.size := Nat.le_trans Z47 (Keep.of_wr W48).1
    have VV : own_A Z h48 b44 .int 4 (own_arr 0 1 2 3) := own_A.congr V48 (fun j hj => by
      have hj' : j = 0 ∨ j = 1 ∨ j = 2 ∨ j = 3 := by omega
      rcases hj' with rfl | rfl | rfl | rfl <;> rfl)
    show own_G p.tables e below _ (T48.setTop (mkF m 77 #[.val (.int p0), .val (.int p1), .val (.int p2), .val (.int p3), .val (.int (own_n x0)), .val (.int (own_n x1)), .val (.int (own_n x2)), .val (.int (own_n x3)), .val (.int (own_n x4)), .val (.int (own_n x5)), .val (.int (own_n x6)), .val (.int (own_n x7)), .val (.int (own_n x8)), .unset, .unset, .unset, .unset, .unset, .unset, .unset, .unset] [(.ref b44)]))
    refine own_go (fun _ kt => XS.astore X48.here hx rfl (hb hby at_77) rfl rfl (l' := #[.val (.int p0), .val (.int p1), .val (.int p2), .val (.int p3), .val (.int (own_n x0)), .val (.int (own_n x1)), .val (.int (own_n x2)), .val (.int (own_n x3)), .val (.int (own_n x4)), .val (.int (own_n x5)), .val (.int (own_n x6)), .val (.int (own_n x7)), .val (.int (own_n x8)), .val (.ref b44), .unset, .unset, .unset, .unset, .unset, .unset, .unset]) rfl kt) ?_
    show own_G p.tables e below _ (T48.setTop (mkF m 79 #[.val (.int p0), .val (.int p1), .val (.int p2), .val (.int p3), .val (.int (own_n x0)), .val (.int (own_n x1)), .val (.int (own_n x2)), .val (.int (own_n x3)), .val (.int (own_n x4)), .val (.int (own_n x5)), .val (.int (own_n x6)), .val (.int (own_n x7)), .val (.int (own_n x8)), .val (.ref b44), .unset, .unset, .unset, .unset, .unset, .unset, .unset] []))
    obtain ⟨T49, h49, X49, e49, E49, A49, D49, -, st49⟩ := newO X48 hx hZ hown (hw _ (List.mem_of_getElem? (i := 1) rfl)) (hw _ (List.mem_of_getElem? (i := 2) rfl)) (hw _ (List.mem_of_getElem? (i := 3) rfl)) e48 (g := (mkF m 79 #[.val (.int p0), .val (.int p1), .val (.int p2), .val (.int p3), .val (.int (own_n x0)), .val (.int (own_n x1)), .val (.int (own_n x2)), .val (.int (own_n x3)), .val (.int (own_n x4)), .val (.int (own_n x5)), .val (.int (own_n x6)), .val (.int (own_n x7)), .val (.int (own_n x8)), .val (.ref b44), .unset, .unset, .unset, .unset, .unset, .unset, .unset] [])) rfl (hb hby at_79) (Nat.le_of_ble_eq_true rfl) (Nat.le_of_ble_eq_true rfl)
    obtain ⟨b49, g49⟩ : ∃ z, z = h48.size := ⟨_, rfl⟩
    rw [← g49] at A49 D49 st49
    have ne_b44_b49 : b44 ≠ b49 := Nat.ne_of_lt (Nat.lt_of_lt_of_le VV.lt (Nat.le_of_eq g49.symm))
    have g_b49 : n0 ≤ b49 := Nat.le_trans Z48 (Nat.le_of_eq g49.symm)
    refine own_go st49 ?_
    have Z49 : n0 ≤ h49.size := Nat.le_trans Z48 E49.1
    have F_parent_b49 : Fld Z h49 b49 "com/example/weftwork/weftwork/graph/DisjointSets" "parent" "[I" .null := D49 (Or.inr (hw _ (List.mem_of_getElem? (i := 11) rfl))) (ty := (.array .int)) (by decide)
    show own_G p.tables e below _ (T49.setTop (mkF m 82 #[.val (.int p0), .val (.int p1), .val (.int p2), .val (.int p3), .val (.int (own_n x0)), .val (.int (own_n x1)), .val (.int (own_n x2)), .val (.int (own_n x3)), .val (.int (own_n x4)), .val (.int (own_n x5)), .val (.int (own_n x6)), .val (.int (own_n x7)), .val (.int (own_n x8)), .val (.ref b44), .unset, .unset, .unset, .unset, .unset, .unset, .unset] [(.ref b49)]))
    refine own_go (fun _ kt => XS.dup X49.here hx rfl (hb hby at_82) rfl rfl kt) ?_
    show own_G p.tables e below _ (T49.setTop (mkF m 83 #[.val (.int p0), .val (.int p1), .val (.int p2), .val (.int p3), .val (.int (own_n x0)), .val (.int (own_n x1)), .val (.int (own_n x2)), .val (.int (own_n x3)), .val (.int (own_n x4)), .val (.int (own_n x5)), .val (.int (own_n x6)), .val (.int (own_n x7)), .val (.int (own_n x8)), .val (.ref b44), .unset, .unset, .unset, .unset, .unset, .unset, .unset] [(.ref b49), (.ref b49)]))
    refine own_go (fun _ kt => XS.iconst X49.here hx rfl (hb hby at_83) kt) ?_
    have u50 := (VV.ext E49)
    show own_G p.tables e below _ (T49.setTop (mkF m 84 #[.val (.int p0), .val (.int p1), .val (.int p2), .val (.int p3), .val (.int (own_n x0)), .val (.int (own_n x1)), .val (.int (own_n x2)), .val (.int (own_n x3)), .val (.int (own_n x4)), .val (.int (own_n x5)), .val (.int (own_n x6)), .val (.int (own_n x7)), .val (.int (own_n x8)), .val (.ref b44), .unset, .unset, .unset, .unset, .unset, .unset, .unset] [(.int (4 : Int32)), (.ref b49), (.ref b49)]))
    obtain ⟨_, _, ⟨T51, L51, k51, n51⟩, -, X51, ⟨Lc51, hQ51, l51, y51, z51⟩, st51⟩ := X49.specialBack hx (y := (⟨"com/example/weftwork/weftwork/graph/DisjointSets", "<init>", "(I)V"⟩ : MethodName)) rfl hown (mvT hZ (hw _ (List.mem_of_getElem? (i := 4) rfl))) (mvT hZ (hw _ (List.mem_of_getElem? (i := 5) rfl))) (mvT hZ (hw _ (List.mem_of_getElem? (i := 6) rfl))) (by decide) (backOf (W := 1) (rm_init l Z a0 hw [] b49 (4 : Int32)  h49 n0 Z49 rfl A49 F_parent_b49 g_b49) hZ (hw _ (List.mem_of_getElem? (i := 6) rfl)) (hw _ (List.mem_of_getElem? (i := 3) rfl)) (by decide) (by decide)) (g := (mkF m 84 #[.val (.int p0), .val (.int p1), .val (.int p2), .val (.int p3), .val (.int (own_n x0)), .val (.int (own_n x1)), .val (.int (own_n x2)), .val (.int (own_n x3)), .val (.int (own_n x4)), .val (.int (own_n x5)), .val (.int (own_n x6)), .val (.int (own_n x7)), .val (.int (own_n x8)), .val (.ref b44), .unset, .unset, .unset, .unset, .unset, .unset, .unset] [(.int (4 : Int32)), (.ref b49), (.ref b49)])) rfl (by rw [hml]; rfl) (Steps.refl _) (a := b49) (argsL := [(.int (4 : Int32))]) (rest := [(.ref b49)]) (lenOf pd__I_V rfl) rfl (by show 2 * 0 + _ ≤ _; exact Nat.le_of_eq rfl) (hb hby at_84) (fun _ _ => ⟨rfl, e49, (Nat.le_of_ble_eq_true rfl), (Nat.le_of_ble_eq_true rfl)⟩)
    dsimp only [Pt.U, Pt.locs, Pt.cells, Pt.slots] at X51 l51 y51 z51 st51 hQ51
    subst l51 y51 z51
    obtain ⟨rfl, Nq51, Kq51, w, sw, D0⟩ := hQ51
    have N51 := Fr.app N48 Nq51
    refine own_tr st51 ?_
    have Z51 : n0 ≤ T51.heap.size := Nat.le_trans Z49 Kq51.1
    have nw : b44 ≠ w := Nat.ne_of_lt (Nat.lt_of_lt_of_le u50.lt sw)
    have S0 := own_same0
    show own_G p.tables e below _ (T51.setTop (mkF m 87 #[.val (.int p0), .val (.int p1), .val (.int p2), .val (.int p3), .val (.int (own_n x0)), .val (.int (own_n x1)), .val (.int (own_n x2)), .val (.int (own_n x3)), .val (.int (own_n x4)), .val (.int (own_n x5)), .val (.int (own_n x6)), .val (.int (own_n x7)), .val (.int (own_n x8)), .val (.ref b44), .unset, .unset, .unset, .unset, .unset, .unset, .unset] [(.ref b49)]))
    refine own_go (fun _ kt => XS.astore X51.here hx rfl (hb hby at_87) rfl rfl (l' := #[.val (.int p0), .val (.int p1), .val (.int p2), .val (.int p3), .val (.int (own_n x0)), .val (.int (own_n x1)), .val (.int (own_n x2)), .val (.int (own_n x3)), .val (.int (own_n x4)), .val (.int (own_n x5)), .val (.int (own_n x6)), .val (.int (own_n x7)), .val (.int (own_n x8)), .val (.ref b44), .val (.ref b49), .unset, .unset, .unset, .unset, .unset, .unset]) rfl kt) ?_
    show own_G p.tables e below _ (T51.setTop (mkF m 89 #[.val (.int p0), .val (.int p1), .val (.int p2), .val (.int p3), .val (.int (own_n x0)), .val (.int (own_n x1)), .val (.int (own_n x2)), .val (.int (own_n x3)), .val (.int (own_n x4)), .val (.int (own_n x5)), .val (.int (own_n x6)), .val (.int (own_n x7)), .val (.int (own_n x8)), .val (.ref b44), .val (.ref b49), .unset, .unset, .unset, .unset, .unset, .unset] []))
    refine own_go (fun _ kt => XS.aload X51.here hx rfl (hb hby at_89) rfl rfl kt) ?_
    show own_G p.tables e below _ (T51.setTop (mkF m 91 #[.val (.int p0), .val (.int p1), .val (.int p2), .val (.int p3), .val (.int (own_n x0)), .val (.int (own_n x1)), .val (.int (own_n x2)), .val (.int (own_n x3)), .val (.int (own_n x4)), .val (.int (own_n x5)), .val (.int (own_n x6)), .val (.int (own_n x7)), .val (.int (own_n x8)), .val (.ref b44), .val (.ref b49), .unset, .unset, .unset, .unset, .unset, .unset] [(.ref b49)]))
    refine own_go (fun _ kt => XS.iload X51.here hx rfl (hb hby at_91) rfl kt) ?_
    show own_G p.tables e below _ (T51.setTop (mkF m 93 #[.val (.int p0), .val (.int p1), .val (.int p2), .val (.int p3), .val (.int (own_n x0)), .val (.int (own_n x1)), .val (.int (own_n x2)), .val (.int (own_n x3)), .val (.int (own_n x4)), .val (.int (own_n x5)), .val (.int (own_n x6)), .val (.int (own_n x7)), .val (.int (own_n x8)), .val (.ref b44), .val (.ref b49), .unset, .unset, .unset, .unset, .unset, .unset] [(.int (own_n x0)), (.ref b49)]))
    refine own_go (fun _ kt => XS.iload X51.here hx rfl (hb hby at_93) rfl kt) ?_
    show own_G p.tables e below _ (T51.setTop (mkF m 95 #[.val (.int p0), .val (.int p1), .val (.int p2), .val (.int p3), .val (.int (own_n x0)), .val (.int (own_n x1)), .val (.int (own_n x2)), .val (.int (own_n x3)), .val (.int (own_n x4)), .val (.int (own_n x5)), .val (.int (own_n x6)), .val (.int (own_n x7)), .val (.int (own_n x8)), .val (.ref b44), .val (.ref b49), .unset, .unset, .unset, .unset, .unset, .unset] [(.int (own_n x1)), (.int (own_n x0)), (.ref b49)]))
    obtain ⟨cq52, kq52, q52a, q52b, q52c⟩ := isOf hZ rfl D0.1
    obtain ⟨_, _, ⟨T52, L52, k52, n52⟩, -, X52, ⟨Lc52, hQ52, l52, y52, z52⟩, st52⟩ := X51.virtualBack hx (y := (⟨"com/example/weftwork/weftwork/graph/DisjointSets", "join", "(II)V"⟩ : MethodName)) (z := (⟨"com/example/weftwork/weftwork/graph/DisjointSets", "join", "(II)V"⟩ : MethodName)) hown (mvT hZ (hw _ (List.mem_of_getElem? (i := 12) rfl))) (mvT hZ (hw _ (List.mem_of_getElem? (i := 13) rfl))) (notFace_of_selects (args := #[]) (mvT hZ (hw _ (List.mem_of_getElem? (i := 15) rfl)))) (mvT hZ (hw _ (List.mem_of_getElem? (i := 15) rfl))) (mvT hZ (hw _ (List.mem_of_getElem? (i := 14) rfl))) (by decide) (backOf (W := 0) (rm_join l Z a0 hw [] b49 (own_n x0) (own_n x1) w 0 1 2 3 x0 x1 T51.heap n0 Z51 rfl rfl D0) hZ (hw _ (List.mem_of_getElem? (i := 16) rfl)) (hw _ (List.mem_of_getElem? (i := 3) rfl)) (by decide) (by decide)) q52a q52c (g := (mkF m 95 #[.val (.int p0), .val (.int p1), .val (.int p2), .val (.int p3), .val (.int (own_n x0)), .val (.int (own_n x1)), .val (.int (own_n x2)), .val (.int (own_n x3)), .val (.int (own_n x4)), .val (.int (own_n x5)), .val (.int (own_n x6)), .val (.int (own_n x7)), .val (.int (own_n x8)), .val (.ref b44), .val (.ref b49), .unset, .unset, .unset, .unset, .unset, .unset] [(.int (own_n x1)), (.int (own_n x0)), (.ref b49)])) rfl (by rw [hml]; rfl) (Steps.refl _) (argsL := [(.int (own_n x0)), (.int (own_n x1))]) (rest := []) (lenOf pd__II_V rfl) rfl (by show 2 * 0 + _ ≤ _; exact Nat.le_of_eq rfl) (hb hby at_95) (fun _ _ => ⟨rfl, rfl, (Nat.le_of_ble_eq_true rfl), (Nat.le_of_ble_eq_true rfl)⟩)
    dsimp only [Pt.U, Pt.locs, Pt.cells, Pt.slots] at X52 l52 y52 z52 st52 hQ52
    subst l52 y52 z52
    obtain ⟨a1, b1, c1, d1, rfl, Nq52, Kq52, Dj1, hj1⟩ := hQ52
    have N52 := Fr.app N51 Nq52
    refine own_tr st52 ?_
    have Z52 : n0 ≤ T52.heap.size := Nat.le_trans Z51 Kq52.1
    show own_G p.tables e below _ (T52.setTop (mkF m 98 #[.val (.int p0), .val (.int p1), .val (.int p2), .val (.int p3), .val (.int (own_n x0)), .val (.int (own_n x1)), .val (.int (own_n x2)), .val (.int (own_n x3)), .val (.int (own_n x4)), .val (.int (own_n x5)), .val (.int (own_n x6)), .val (.int (own_n x7)), .val (.int (own_n x8)), .val (.ref b44), .val (.ref b49), .unset, .unset, .unset, .unset, .unset, .unset] []))
    refine own_go (fun _ kt => XS.aload X52.here hx rfl (hb hby at_98) rfl rfl kt) ?_
    show own_G p.tables e below _ (T52.setTop (mkF m 100 #[.val (.int p0), .val (.int p1), .val (.int p2), .val (.int p3), .val (.int (own_n x0)), .val (.int (own_n x1)), .val (.int (own_n x2)), .val (.int (own_n x3)), .val (.int (own_n x4)), .val (.int (own_n x5)), .val (.int (own_n x6)), .val (.int (own_n x7)), .val (.int (own_n x8)), .val (.ref b44), .val (.ref b49), .unset, .unset, .unset, .unset, .unset, .unset] [(.ref b44)]))
    refine own_go (fun _ kt => XS.iload X52.here hx rfl (hb hby at_100) rfl kt) ?_
    show own_G p.tables e below _ (T52.setTop (mkF m 102 #[.val (.int p0), .val (.int p1), .val (.int p2), .val (.int p3), .val (.int (own_n x0)), .val (.int (own_n x1)), .val (.int (own_n x2)), .val (.int (own_n x3)), .val (.int (own_n x4)), .val (.int (own_n x5)), .val (.int (own_n x6)), .val (.int (own_n x7)), .val (.int (own_n x8)), .val (.ref b44), .val (.ref b49), .unset, .unset, .unset, .unset, .unset, .unset] [(.int (own_n x0)), (.ref b44)]))
    refine own_go (fun _ kt => XS.iload X52.here hx rfl (hb hby at_102) rfl kt) ?_
    have u53 := ((u50.keep Kq51 (ninS ne_b44_b49 nin0)).keep Kq52 (ninS nw nin0))
    show own_G p.tables e below _ (T52.setTop (mkF m 104 #[.val (.int p0), .val (.int p1), .val (.int p2), .val (.int p3), .val (.int (own_n x0)), .val (.int (own_n x1)), .val (.int (own_n x2)), .val (.int (own_n x3)), .val (.int (own_n x4)), .val (.int (own_n x5)), .val (.int (own_n x6)), .val (.int (own_n x7)), .val (.int (own_n x8)), .val (.ref b44), .val (.ref b49), .unset, .unset, .unset, .unset, .unset, .unset] [(.int (own_n x1)), (.int (own_n x0)), (.ref b44)]))
    obtain ⟨_, _, ⟨T54, L54, k54, n54⟩, -, X54, ⟨Lc54, hQ54, l54, y54, z54⟩, st54⟩ := Jvm.LawKit.callS X52 hx (y := (⟨"com/example/weftwork/weftwork/graph/DisjointSetsRootPinLaw", "merge", "([III)V"⟩ : MethodName)) hown (mvT hZ (hw _ (List.mem_of_getElem? (i := 22) rfl))) (mvT hZ (hw _ (List.mem_of_getElem? (i := 23) rfl))) (mvT hZ (hw _ (List.mem_of_getElem? (i := 24) rfl))) (mvT hZ (hw _ (List.mem_of_getElem? (i := 25) rfl))) (by decide) (backOf (W := 0) (rm_merge l Z a0 hw [] b44 (own_n x0) (own_n x1) 0 1 2 3 x0 x1 T52.heap n0 Z52 rfl rfl g_b44 u53) hZ (hw _ (List.mem_of_getElem? (i := 25) rfl)) (hw _ (List.mem_of_getElem? (i := 24) rfl)) (by decide) (by decide)) (g := (mkF m 104 #[.val (.int p0), .val (.int p1), .val (.int p2), .val (.int p3), .val (.int (own_n x0)), .val (.int (own_n x1)), .val (.int (own_n x2)), .val (.int (own_n x3)), .val (.int (own_n x4)), .val (.int (own_n x5)), .val (.int (own_n x6)), .val (.int (own_n x7)), .val (.int (own_n x8)), .val (.ref b44), .val (.ref b49), .unset, .unset, .unset, .unset, .unset, .unset] [(.int (own_n x1)), (.int (own_n x0)), (.ref b44)])) rfl (by rw [hml]; rfl) (argsL := [(.ref b44), (.int (own_n x0)), (.int (own_n x1))]) (rest := []) (lenOf pd___III_V rfl) rfl (by show 2 * 0 + _ ≤ _; exact Nat.le_of_eq rfl) (hb hby at_104) (fun _ _ => ⟨rfl, rfl, (Nat.le_of_ble_eq_true rfl), (Nat.le_of_ble_eq_true rfl)⟩)
    dsimp only [Pt.U, Pt.locs, Pt.cells, Pt.slots] at X54 l54 y54 z54 st54 hQ54
    subst l54 y54 z54
    obtain ⟨rfl, Nq54, Kq54, Vm1⟩ := hQ54
    have N54 := Fr.app N52 Nq54
    refine own_go st54 ?_
    have Z54 : n0 ≤ T54.heap.size := Nat.le_trans Z52 Kq54.1
    have Dm1 := Dj1.keep Kq54 (ninS (Ne.symm ne_b44_b49) nin0) (ninS nw.symm nin0)
    have Sm1 := own_same1 S0 hj1
    generalize (own_mg (own_f 0 1 2 3 x0) (own_f 0 1 2 3 x1) 0) = ea1 at Vm1 Sm1
    generalize (own_mg (own_f 0 1 2 3 x0) (own_f 0 1 2 3 x1) 1) = eb1 at Vm1 Sm1
    generalize (own_mg (own_f 0 1 2 3 x0) (own_f 0 1 2 3 x1) 2) = ec1 at Vm1 Sm1
    generalize (own_mg (own_f 0 1 2 3 x0) (own_f 0 1 2 3 x1) 3) = ed1 at Vm1 Sm1
    show own_G p.tables e below _ (T54.setTop (mkF m 107 #[.val (.int p0), .val (.int p1), .val (.int p2), .val (.int p3), .val (.int (own_n x0)), .val (.int (own_n x1)), .val (.int (own_n x2)), .val (.int (own_n x3)), .val (.int (own_n x4)), .val (.int (own_n x5)), .val (.int (own_n x6)), .val (.int (own_n x7)), .val (.int (own_n x8)), .val (.ref b44), .val (.ref b49), .unset, .unset, .unset, .unset, .unset, .unset] []))
    refine own_go (fun _ kt => XS.aload X54.here hx rfl (hb hby at_107) rfl rfl kt) ?_
    show own_G p.tables e below _ (T54.setTop (mkF m 109 #[.val (.int p0), .val (.int p1), .val (.int p2), .val (.int p3), .val (.int (own_n x0)), .val (.int (own_n x1)), .val (.int (own_n x2)), .val (.int (own_n x3)), .val (.int (own_n x4)), .val (.int (own_n x5)), .val (.int (own_n x6)), .val (.int (own_n x7)), .val (.int (own_n x8)), .val (.ref b44), .val (.ref b49), .unset, .unset, .unset, .unset, .unset, .unset] [(.ref b49)]))
    refine own_go (fun _ kt => XS.iload X54.here hx rfl (hb hby at_109) rfl kt) ?_
    show own_G p.tables e below _ (T54.setTop (mkF m 111 #[.val (.int p0), .val (.int p1), .val (.int p2), .val (.int p3), .val (.int (own_n x0)), .val (.int (own_n x1)), .val (.int (own_n x2)), .val (.int (own_n x3)), .val (.int (own_n x4)), .val (.int (own_n x5)), .val (.int (own_n x6)), .val (.int (own_n x7)), .val (.int (own_n x8)), .val (.ref b44), .val (.ref b49), .unset, .unset, .unset, .unset, .unset, .unset] [(.int (own_n x2)), (.ref b49)]))
    refine own_go (fun _ kt => XS.iload X54.here hx rfl (hb hby at_111) rfl kt) ?_
    show own_G p.tables e below _ (T54.setTop (mkF m 113 #[.val (.int p0), .val (.int p1), .val (.int p2), .val (.int p3), .val (.int (own_n x0)), .val (.int (own_n x1)), .val (.int (own_n x2)), .val (.int (own_n x3)), .val (.int (own_n x4)), .val (.int (own_n x5)), .val (.int (own_n x6)), .val (.int (own_n x7)), .val (.int (own_n x8)), .val (.ref b44), .val (.ref b49), .unset, .unset, .unset, .unset, .unset, .unset] [(.int (own_n x3)), (.int (own_n x2)), (.ref b49)]))
    obtain ⟨cq55, kq55, q55a, q55b, q55c⟩ := isOf hZ rfl Dm1.1
    obtain ⟨_, _, ⟨T55, L55, k55, n55⟩, -, X55, ⟨Lc55, hQ55, l55, y55, z55⟩, st55⟩ := X54.virtualBack hx (y := (⟨"com/example/weftwork/weftwork/graph/DisjointSets", "join", "(II)V"⟩ : MethodName)) (z := (⟨"com/example/weftwork/weftwork/graph/DisjointSets", "join", "(II)V"⟩ : MethodName)) hown (mvT hZ (hw _ (List.mem_of_getElem? (i := 12) rfl))) (mvT hZ (hw _ (List.mem_of_getElem? (i := 13) rfl))) (notFace_of_selects (args := #[]) (mvT hZ (hw _ (List.mem_of_getElem? (i := 15) rfl)))) (mvT hZ (hw _ (List.mem_of_getElem? (i := 15) rfl))) (mvT hZ (hw _ (List.mem_of_getElem? (i := 14) rfl))) (by decide) (backOf (W := 0) (rm_join l Z a0 hw [] b49 (own_n x2) (own_n x3) w a1 b1 c1 d1 x2 x3 T54.heap n0 Z54 rfl rfl Dm1) hZ (hw _ (List.mem_of_getElem? (i := 16) rfl)) (hw _ (List.mem_of_getElem? (i := 3) rfl)) (by decide) (by decide)) q55a q55c (g := (mkF m 113 #[.val (.int p0), .val (.int p1), .val (.int p2), .val (.int p3), .val (.int (own_n x0)), .val (.int (own_n x1)), .val (.int (own_n x2)), .val (.int (own_n x3)), .val (.int (own_n x4)), .val (.int (own_n x5)), .val (.int (own_n x6)), .val (.int (own_n x7)), .val (.int (own_n x8)), .val (.ref b44), .val (.ref b49), .unset, .unset, .unset, .unset, .unset, .unset] [(.int (own_n x3)), (.int (own_n x2)), (.ref b49)])) rfl (by rw [hml]; rfl) (Steps.refl _) (argsL := [(.int (own_n x2)), (.int (own_n x3))]) (rest := []) (lenOf pd__II_V rfl) rfl (by show 2 * 0 + _ ≤ _; exact Nat.le_of_eq rfl) (hb hby at_113) (fun _ _ => ⟨rfl, rfl, (Nat.le_of_ble_eq_true rfl), (Nat.le_of_ble_eq_true rfl)⟩)
    dsimp only [Pt.U, Pt.locs, Pt.cells, Pt.slots] at X55 l55 y55 z55 st55 hQ55
    subst l55 y55 z55
    obtain ⟨a2, b2, c2, d2, rfl, Nq55, Kq55, Dj2, hj2⟩ := hQ55
    have N55 := Fr.app N54 Nq55
    refine own_tr st55 ?_
    have Z55 : n0 ≤ T55.heap.size := Nat.le_trans Z54 Kq55.1
    show own_G p.tables e below _ (T55.setTop (mkF m 116 #[.val (.int p0), .val (.int p1), .val (.int p2), .val (.int p3), .val (.int (own_n x0)), .val (.int (own_n x1)), .val (.int (own_n x2)), .val (.int (own_n x3)), .val (.int (own_n x4)), .val (.int (own_n x5)), .val (.int (own_n x6)), .val (.int (own_n x7)), .val (.int (own_n x8)), .val (.ref b44), .val (.ref b49), .unset, .unset, .unset, .unset, .unset, .unset] []))
    refine own_go (fun _ kt => XS.aload X55.here hx rfl (hb hby at_116) rfl rfl kt) ?_
    show own_G p.tables e below _ (T55.setTop (mkF m 118 #[.val (.int p0), .val (.int p1), .val (.int p2), .val (.int p3), .val (.int (own_n x0)), .val (.int (own_n x1)), .val (.int (own_n x2)), .val (.int (own_n x3)), .val (.int (own_n x4)), .val (.int (own_n x5)), .val (.int (own_n x6)), .val (.int (own_n x7)), .val (.int (own_n x8)), .val (.ref b44), .val (.ref b49), .unset, .unset, .unset, .unset, .unset, .unset] [(.ref b44)]))
    refine own_go (fun _ kt => XS.iload X55.here hx rfl (hb hby at_118) rfl kt) ?_
    show own_G p.tables e below _ (T55.setTop (mkF m 120 #[.val (.int p0), .val (.int p1), .val (.int p2), .val (.int p3), .val (.int (own_n x0)), .val (.int (own_n x1)), .val (.int (own_n x2)), .val (.int (own_n x3)), .val (.int (own_n x4)), .val (.int (own_n x5)), .val (.int (own_n x6)), .val (.int (own_n x7)), .val (.int (own_n x8)), .val (.ref b44), .val (.ref b49), .unset, .unset, .unset, .unset, .unset, .unset] [(.int (own_n x2)), (.ref b44)]))
    refine own_go (fun _ kt => XS.iload X55.here hx rfl (hb hby at_120) rfl kt) ?_
    have u56 := (Vm1.keep Kq55 (ninS nw nin0))
    show own_G p.tables e below _ (T55.setTop (mkF m 122 #[.val (.int p0), .val (.int p1), .val (.int p2), .val (.int p3), .val (.int (own_n x0)), .val (.int (own_n x1)), .val (.int (own_n x2)), .val (.int (own_n x3)), .val (.int (own_n x4)), .val (.int (own_n x5)), .val (.int (own_n x6)), .val (.int (own_n x7)), .val (.int (own_n x8)), .val (.ref b44), .val (.ref b49), .unset, .unset, .unset, .unset, .unset, .unset] [(.int (own_n x3)), (.int (own_n x2)), (.ref b44)]))
    obtain ⟨_, _, ⟨T57, L57, k57, n57⟩, -, X57, ⟨Lc57, hQ57, l57, y57, z57⟩, st57⟩ := Jvm.LawKit.callS X55 hx (y := (⟨"com/example/weftwork/weftwork/graph/DisjointSetsRootPinLaw", "merge", "([III)V"⟩ : MethodName)) hown (mvT hZ (hw _ (List.mem_of_getElem? (i := 22) rfl))) (mvT hZ (hw _ (List.mem_of_getElem? (i := 23) rfl))) (mvT hZ (hw _ (List.mem_of_getElem? (i := 24) rfl))) (mvT hZ (hw _ (List.mem_of_getElem? (i := 25) rfl))) (by decide) (backOf (W := 0) (rm_merge l Z a0 hw [] b44 (own_n x2) (own_n x3) ea1 eb1 ec1 ed1 x2 x3 T55.heap n0 Z55 rfl rfl g_b44 u56) hZ (hw _ (List.mem_of_getElem? (i := 25) rfl)) (hw _ (List.mem_of_getElem? (i := 24) rfl)) (by decide) (by decide)) (g := (mkF m 122 #[.val (.int p0), .val (.int p1), .val (.int p2), .val (.int p3), .val (.int (own_n x0)), .val (.int (own_n x1)), .val (.int (own_n x2)), .val (.int (own_n x3)), .val (.int (own_n x4)), .val (.int (own_n x5)), .val (.int (own_n x6)), .val (.int (own_n x7)), .val (.int (own_n x8)), .val (.ref b44), .val (.ref b49), .unset, .unset, .unset, .unset, .unset, .unset] [(.int (own_n x3)), (.int (own_n x2)), (.ref b44)])) rfl (by rw [hml]; rfl) (argsL := [(.ref b44), (.int (own_n x2)), (.int (own_n x3))]) (rest := []) (lenOf pd___III_V rfl) rfl (by show 2 * 0 + _ ≤ _; exact Nat.le_of_eq rfl) (hb hby at_122) (fun _ _ => ⟨rfl, rfl, (Nat.le_of_ble_eq_true rfl), (Nat.le_of_ble_eq_true rfl)⟩)
    dsimp only [Pt.U, Pt.locs, Pt.cells, Pt.slots] at X57 l57 y57 z57 st57 hQ57
    subst l57 y57 z57
    obtain ⟨rfl, Nq57, Kq57, Vm2⟩ := hQ57
    have N57 := Fr.app N55 Nq57
    refine own_go st57 ?_
    have Z57 : n0 ≤ T57.heap.size := Nat.le_trans Z55 Kq57.1
    have Dm2 := Dj2.keep Kq57 (ninS (Ne.symm ne_b44_b49) nin0) (ninS nw.symm nin0)
    have Sm2 := own_same1 Sm1 hj2
    generalize (own_mg (own_f ea1 eb1 ec1 ed1 x2) (own_f ea1 eb1 ec1 ed1 x3) ea1) = ea2 at Vm2 Sm2
    generalize (own_mg (own_f ea1 eb1 ec1 ed1 x2) (own_f ea1 eb1 ec1 ed1 x3) eb1) = eb2 at Vm2 Sm2
    generalize (own_mg (own_f ea1 eb1 ec1 ed1 x2) (own_f ea1 eb1 ec1 ed1 x3) ec1) = ec2 at Vm2 Sm2
    generalize (own_mg (own_f ea1 eb1 ec1 ed1 x2) (own_f ea1 eb1 ec1 ed1 x3) ed1) = ed2 at Vm2 Sm2
    show own_G p.tables e below _ (T57.setTop (mkF m 125 #[.val (.int p0), .val (.int p1), .val (.int p2), .val (.int p3), .val (.int (own_n x0)), .val (.int (own_n x1)), .val (.int (own_n x2)), .val (.int (own_n x3)), .val (.int (own_n x4)), .val (.int (own_n x5)), .val (.int (own_n x6)), .val (.int (own_n x7)), .val (.int (own_n x8)), .val (.ref b44), .val (.ref b49), .unset, .unset, .unset, .unset, .unset, .unset] []))
    refine own_go (fun _ kt => XS.aload X57.here hx rfl (hb hby at_125) rfl rfl kt) ?_
    show own_G p.tables e below _ (T57.setTop (mkF m 127 #[.val (.int p0), .val (.int p1), .val (.int p2), .val (.int p3), .val (.int (own_n x0)), .val (.int (own_n x1)), .val (.int (own_n x2)), .val (.int (own_n x3)), .val (.int (own_n x4)), .val (.int (own_n x5)), .val (.int (own_n x6)), .val (.int (own_n x7)), .val (.int (own_n x8)), .val (.ref b44), .val (.ref b49), .unset, .unset, .unset, .unset, .unset, .unset] [(.ref b49)]))
    refine own_go (fun _ kt => XS.iload X57.here hx rfl (hb hby at_127) rfl kt) ?_
    show own_G p.tables e below _ (T57.setTop (mkF m 129 #[.val (.int p0), .val (.int p1), .val (.int p2), .val (.int p3), .val (.int (own_n x0)), .val (.int (own_n x1)), .val (.int (own_n x2)), .val (.int (own_n x3)), .val (.int (own_n x4)), .val (.int (own_n x5)), .val (.int (own_n x6)), .val (.int (own_n x7)), .val (.int (own_n x8)), .val (.ref b44), .val (.ref b49), .unset, .unset, .unset, .unset, .unset, .unset] [(.int (own_n x6)), (.ref b49)]))
    obtain ⟨cq58, kq58, q58a, q58b, q58c⟩ := isOf hZ rfl Dm2.1
    obtain ⟨_, _, ⟨T58, L58, k58, n58⟩, -, X58, ⟨Lc58, hQ58, l58, y58, z58⟩, st58⟩ := X57.virtualBack hx (y := (⟨"com/example/weftwork/weftwork/graph/DisjointSets", "root", "(I)I"⟩ : MethodName)) (z := (⟨"com/example/weftwork/weftwork/graph/DisjointSets", "root", "(I)I"⟩ : MethodName)) hown (mvT hZ (hw _ (List.mem_of_getElem? (i := 26) rfl))) (mvT hZ (hw _ (List.mem_of_getElem? (i := 18) rfl))) (notFace_of_selects (args := #[]) (mvT hZ (hw _ (List.mem_of_getElem? (i := 20) rfl)))) (mvT hZ (hw _ (List.mem_of_getElem? (i := 20) rfl))) (mvT hZ (hw _ (List.mem_of_getElem? (i := 19) rfl))) (by decide) (backOf (W := 0) (rm_root l Z a0 hw [] b49 (own_n x6) w a2 b2 c2 d2 x6 T57.heap n0 Z57 rfl Dm2) hZ (hw _ (List.mem_of_getElem? (i := 21) rfl)) (hw _ (List.mem_of_getElem? (i := 3) rfl)) (by decide) (by decide)) q58a q58c (g := (mkF m 129 #[.val (.int p0), .val (.int p1), .val (.int p2), .val (.int p3), .val (.int (own_n x0)), .val (.int (own_n x1)), .val (.int (own_n x2)), .val (.int (own_n x3)), .val (.int (own_n x4)), .val (.int (own_n x5)), .val (.int (own_n x6)), .val (.int (own_n x7)), .val (.int (own_n x8)), .val (.ref b44), .val (.ref b49), .unset, .unset, .unset, .unset, .unset, .unset] [(.int (own_n x6)), (.ref b49)])) rfl (by rw [hml]; rfl) (Steps.refl _) (argsL := [(.int (own_n x6))]) (rest := []) (lenOf pd__I_I rfl) rfl (by show 2 * 0 + _ ≤ _; exact Nat.le_of_eq rfl) (hb hby at_129) (fun _ _ => ⟨rfl, rfl, (Nat.le_of_ble_eq_true rfl), (Nat.le_of_ble_eq_true rfl)⟩)
    dsimp only [Pt.U, Pt.locs, Pt.cells, Pt.slots] at X58 l58 y58 z58 st58 hQ58
    subst l58 y58 z58
    obtain ⟨a3, b3, c3, d3, rfl, Nq58, Kq58, Dr3, hr3⟩ := hQ58
    have N58 := Fr.app N57 Nq58
    refine own_tr st58 ?_
    have Z58 : n0 ≤ T58.heap.size := Nat.le_trans Z57 Kq58.1
    have Sr3 : own_same a3 b3 c3 d3 ea2 eb2 ec2 ed2 := fun x y => by rw [hr3, hr3]; exact Sm2 x y
    show own_G p.tables e below _ (T58.setTop (mkF m 132 #[.val (.int p0), .val (.int p1), .val (.int p2), .val (.int p3), .val (.int (own_n x0)), .val (.int (own_n x1)), .val (.int (own_n x2)), .val (.int (own_n x3)), .val (.int (own_n x4)), .val (.int (own_n x5)), .val (.int (own_n x6)), .val (.int (own_n x7)), .val (.int (own_n x8)), .val (.ref b44), .val (.ref b49), .unset, .unset, .unset, .unset, .unset, .unset] [(.int (own_n (own_rt a2 b2 c2 d2 x6)))]))
    refine own_go (fun _ kt => XS.istore X58.here hx rfl (hb hby at_132) rfl (l' := #[.val (.int p0), .val (.int p1), .val (.int p2), .val (.int p3), .val (.int (own_n x0)), .val (.int (own_n x1)), .val (.int (own_n x2)), .val (.int (own_n x3)), .val (.int (own_n x4)), .val (.int (own_n x5)), .val (.int (own_n x6)), .val (.int (own_n x7)), .val (.int (own_n x8)), .val (.ref b44), .val (.ref b49), .val (.int (own_n (own_rt a2 b2 c2 d2 x6))), .unset, .unset, .unset, .unset, .unset]) rfl kt) ?_
    show own_G p.tables e below _ (T58.setTop (mkF m 134 #[.val (.int p0), .val (.int p1), .val (.int p2), .val (.int p3), .val (.int (own_n x0)), .val (.int (own_n x1)), .val (.int (own_n x2)), .val (.int (own_n x3)), .val (.int (own_n x4)), .val (.int (own_n x5)), .val (.int (own_n x6)), .val (.int (own_n x7)), .val (.int (own_n x8)), .val (.ref b44), .val (.ref b49), .val (.int (own_n (own_rt a2 b2 c2 d2 x6))), .unset, .unset, .unset, .unset, .unset] []))
    refine own_go (fun _ kt => XS.iload X58.here hx rfl (hb hby at_134) rfl kt) ?_
    show own_G p.tables e below _ (T58.setTop (mkF m 136 #[.val (.int p0), .val (.int p1), .val (.int p2), .val (.int p3), .val (.int (own_n x0)), .val (.int (own_n x1)), .val (.int (own_n x2)), .val (.int (own_n x3)), .val (.int (own_n x4)), .val (.int (own_n x5)), .val (.int (own_n x6)), .val (.int (own_n x7)), .val (.int (own_n x8)), .val (.ref b44), .val (.ref b49), .val (.int (own_n (own_rt a2 b2 c2 d2 x6))), .unset, .unset, .unset, .unset, .unset] [(.int (own_n (own_rt a2 b2 c2 d2 x6)))]))
    refine own_go (fun _ kt => XS.ifNo X58.here hx rfl (hb hby at_136) rfl ((if0 _ _).trans (flt (own_ge0 _ : ¬ ((own_n (own_rt a2 b2 c2 d2 x6)) < (0 : Int32)))).1) kt) ?_
    show own_G p.tables e below _ (T58.setTop (mkF m 139 #[.val (.int p0), .val (.int p1), .val (.int p2), .val (.int p3), .val (.int (own_n x0)), .val (.int (own_n x1)), .val (.int (own_n x2)), .val (.int (own_n x3)), .val (.int (own_n x4)), .val (.int (own_n x5)), .val (.int (own_n x6)), .val (.int (own_n x7)), .val (.int (own_n x8)), .val (.ref b44), .val (.ref b49), .val (.int (own_n (own_rt a2 b2 c2 d2 x6))), .unset, .unset, .unset, .unset, .unset] []))
    refine own_go (fun _ kt => XS.iload X58.here hx rfl (hb hby at_139) rfl kt) ?_
    show own_G p.tables e below _ (T58.setTop (mkF m 141 #[.val (.int p0), .val (.int p1), .val (.int p2), .val (.int p3), .val (.int (own_n x0)), .val (.int (own_n x1)), .val (.int (own_n x2)), .val (.int (own_n x3)), .val (.int (own_n x4)), .val (.int (own_n x5)), .val (.int (own_n x6)), .val (.int (own_n x7)), .val (.int (own_n x8)), .val (.ref b44), .val (.ref b49), .val (.int (own_n (own_rt a2 b2 c2 d2 x6))), .unset, .unset, .unset, .unset, .unset] [(.int (own_n (own_rt a2 b2 c2 d2 x6)))]))
    refine own_go (fun _ kt => XS.iconst X58.here hx rfl (hb hby at_141) kt) ?_
    show own_G p.tables e below _ (T58.setTop (mkF m 142 #[.val (.int p0), .val (.int p1), .val (.int p2), .val (.int p3), .val (.int (own_n x0)), .val (.int (own_n x1)), .val (.int (own_n x2)), .val (.int (own_n x3)), .val (.int (own_n x4)), .val (.int (own_n x5)), .val (.int (own_n x6)), .val (.int (own_n x7)), .val (.int (own_n x8)), .val (.ref b44), .val (.ref b49), .val (.int (own_n (own_rt a2 b2 c2 d2 x6))), .unset, .unset, .unset, .unset, .unset] [(.int (4 : Int32)), (.int (own_n (own_rt a2 b2 c2 d2 x6)))]))
    refine own_go (fun _ kt => XS.icmpNo X58.here hx rfl (hb hby at_142) rfl (tlt (own_lt4 _ : (own_n (own_rt a2 b2 c2 d2 x6)) < (4 : Int32))).2.1 kt) ?_
    show own_G p.tables e below _ (T58.setTop (mkF m 145 #[.val (.int p0), .val (.int p1), .val (.int p2), .val (.int p3), .val (.int (own_n x0)), .val (.int (own_n x1)), .val (.int (own_n x2)), .val (.int (own_n x3)), .val (.int (own_n x4)), .val (.int (own_n x5)), .val (.int (own_n x6)), .val (.int (own_n x7)), .val (.int (own_n x8)), .val (.ref b44), .val (.ref b49), .val (.int (own_n (own_rt a2 b2 c2 d2 x6))), .unset, .unset, .unset, .unset, .unset] []))
    refine own_go (fun _ kt => XS.aload X58.here hx rfl (hb hby at_145) rfl rfl kt) ?_
    show own_G p.tables e below _ (T58.setTop (mkF m 147 #[.val (.int p0), .val (.int p1), .val (.int p2), .val (.int p3), .val (.int (own_n x0)), .val (.int (own_n x1)), .val (.int (own_n x2)), .val (.int (own_n x3)), .val (.int (own_n x4)), .val (.int (own_n x5)), .val (.int (own_n x6)), .val (.int (own_n x7)), .val (.int (own_n x8)), .val (.ref b44), .val (.ref b49), .val (.int (own_n (own_rt a2 b2 c2 d2 x6))), .unset, .unset, .unset, .unset, .unset] [(.ref b44)]))
    refine own_go (fun _ kt => XS.iload X58.here hx rfl (hb hby at_147) rfl kt) ?_
    show own_G p.tables e below _ (T58.setTop (mkF m 149 #[.val (.int p0), .val (.int p1), .val (.int p2), .val (.int p3), .val (.int (own_n x0)), .val (.int (own_n x1)), .val (.int (own_n x2)), .val (.int (own_n x3)), .val (.int (own_n x4)), .val (.int (own_n x5)), .val (.int (own_n x6)), .val (.int (own_n x7)), .val (.int (own_n x8)), .val (.ref b44), .val (.ref b49), .val (.int (own_n (own_rt a2 b2 c2 d2 x6))), .unset, .unset, .unset, .unset, .unset] [(.int (own_n (own_rt a2 b2 c2 d2 x6))), (.ref b44)]))
    have u59 := (Vm2.keep Kq58 (ninS nw nin0))
    refine own_go (own_ldI X58 hx hZ rfl u59 (j := (own_n (own_rt a2 b2 c2 d2 x6))) (v := (.int (own_n (own_f ea2 eb2 ec2 ed2 (own_rt a2 b2 c2 d2 x6))))) (own_nb _).1 (own_nb _).2 (own_at _ _ _ _ _) (g := (mkF m 149 #[.val (.int p0), .val (.int p1), .val (.int p2), .val (.int p3), .val (.int (own_n x0)), .val (.int (own_n x1)), .val (.int (own_n x2)), .val (.int (own_n x3)), .val (.int (own_n x4)), .val (.int (own_n x5)), .val (.int (own_n x6)), .val (.int (own_n x7)), .val (.int (own_n x8)), .val (.ref b44), .val (.ref b49), .val (.int (own_n (own_rt a2 b2 c2 d2 x6))), .unset, .unset, .unset, .unset, .unset] [(.int (own_n (own_rt a2 b2 c2 d2 x6))), (.ref b44)])) rfl rfl (hb hby at_149)) ?_
    show own_G p.tables e below _ (T58.setTop (mkF m 150 #[.val (.int p0), .val (.int p1), .val (.int p2), .val (.int p3), .val (.int (own_n x0)), .val (.int (own_n x1)), .val (.int (own_n x2)), .val (.int (own_n x3)), .val (.int (own_n x4)), .val (.int (own_n x5)), .val (.int (own_n x6)), .val (.int (own_n x7)), .val (.int (own_n x8)), .val (.ref b44), .val (.ref b49), .val (.int (own_n (own_rt a2 b2 c2 d2 x6))), .unset, .unset, .unset, .unset, .unset] [(.int (own_n (own_f ea2 eb2 ec2 ed2 (own_rt a2 b2 c2 d2 x6))))]))
    refine own_go (fun _ kt => XS.aload X58.here hx rfl (hb hby at_150) rfl rfl kt) ?_
    show own_G p.tables e below _ (T58.setTop (mkF m 152 #[.val (.int p0), .val (.int p1), .val (.int p2), .val (.int p3), .val (.int (own_n x0)), .val (.int (own_n x1)), .val (.int (own_n x2)), .val (.int (own_n x3)), .val (.int (own_n x4)), .val (.int (own_n x5)), .val (.int (own_n x6)), .val (.int (own_n x7)), .val (.int (own_n x8)), .val (.ref b44), .val (.ref b49), .val (.int (own_n (own_rt a2 b2 c2 d2 x6))), .unset, .unset, .unset, .unset, .unset] [(.ref b44), (.int (own_n (own_f ea2 eb2 ec2 ed2 (own_rt a2 b2 c2 d2 x6))))]))
    refine own_go (fun _ kt => XS.iload X58.here hx rfl (hb hby at_152) rfl kt) ?_
    show own_G p.tables e below _ (T58.setTop (mkF m 154 #[.val (.int p0), .val (.int p1), .val (.int p2), .val (.int p3), .val (.int (own_n x0)), .val (.int (own_n x1)), .val (.int (own_n x2)), .val (.int (own_n x3)), .val (.int (own_n x4)), .val (.int (own_n x5)), .val (.int (own_n x6)), .val (.int (own_n x7)), .val (.int (own_n x8)), .val (.ref b44), .val (.ref b49), .val (.int (own_n (own_rt a2 b2 c2 d2 x6))), .unset, .unset, .unset, .unset, .unset] [(.int (own_n x6)), (.ref b44), (.int (own_n (own_f ea2 eb2 ec2 ed2 (own_rt a2 b2 c2 d2 x6))))]))
    refine own_go (own_ldI X58 hx hZ rfl u59 (j := (own_n x6)) (v := (.int (own_n (own_f ea2 eb2 ec2 ed2 x6)))) (own_nb _).1 (own_nb _).2 (own_at _ _ _ _ _) (g := (mkF m 154 #[.val (.int p0), .val (.int p1), .val (.int p2), .val (.int p3), .val (.int (own_n x0)), .val (.int (own_n x1)), .val (.int (own_n x2)), .val (.int (own_n x3)), .val (.int (own_n x4)), .val (.int (own_n x5)), .val (.int (own_n x6)), .val (.int (own_n x7)), .val (.int (own_n x8)), .val (.ref b44), .val (.ref b49), .val (.int (own_n (own_rt a2 b2 c2 d2 x6))), .unset, .unset, .unset, .unset, .unset] [(.int (own_n x6)), (.ref b44), (.int (own_n (own_f ea2 eb2 ec2 ed2 (own_rt a2 b2 c2 d2 x6))))])) rfl rfl (hb hby at_154)) ?_
    show own_G p.tables e below _ (T58.setTop (mkF m 155 #[.val (.int p0), .val (.int p1), .val (.int p2), .val (.int p3), .val (.int (own_n x0)), .val (.int (own_n x1)), .val (.int (own_n x2)), .val (.int (own_n x3)), .val (.int (own_n x4)), .val (.int (own_n x5)), .val (.int (own_n x6)), .val (.int (own_n x7)), .val (.int (own_n x8)), .val (.ref b44), .val (.ref b49), .val (.int (own_n (own_rt a2 b2 c2 d2 x6))), .unset, .unset, .unset, .unset, .unset] [(.int (own_n (own_f ea2 eb2 ec2 ed2 x6))), (.int (own_n (own_f ea2 eb2 ec2 ed2 (own_rt a2 b2 c2 d2 x6))))]))
    refine own_go (fun _ kt => XS.icmpNo X58.here hx rfl (hb hby at_155) rfl (teq (congrArg own_n ((Sm2 _ _).mp (own_idem Dm2.2.2.2.2.2.2 _)) : (own_n (own_f ea2 eb2 ec2 ed2 (own_rt a2 b2 c2 d2 x6))) = (own_n (own_f ea2 eb2 ec2 ed2 x6)))).2 kt) ?_
    show own_G p.tables e below _ (T58.setTop (mkF m 158 #[.val (.int p0), .val (.int p1), .val (.int p2), .val (.int p3), .val (.int (own_n x0)), .val (.int (own_n x1)), .val (.int (own_n x2)), .val (.int (own_n x3)), .val (.int (own_n x4)), .val (.int (own_n x5)), .val (.int (own_n x6)), .val (.int (own_n x7)), .val (.int (own_n x8)), .val (.ref b44), .val (.ref b49), .val (.int (own_n (own_rt a2 b2 c2 d2 x6))), .unset, .unset, .unset, .unset, .unset] []))
    refine own_go (fun _ kt => XS.iconst X58.here hx rfl (hb hby at_158) kt) ?_
    show own_G p.tables e below _ (T58.setTop (mkF m 159 #[.val (.int p0), .val (.int p1), .val (.int p2), .val (.int p3), .val (.int (own_n x0)), .val (.int (own_n x1)), .val (.int (own_n x2)), .val (.int (own_n x3)), .val (.int (own_n x4)), .val (.int (own_n x5)), .val (.int (own_n x6)), .val (.int (own_n x7)), .val (.int (own_n x8)), .val (.ref b44), .val (.ref b49), .val (.int (own_n (own_rt a2 b2 c2 d2 x6))), .unset, .unset, .unset, .unset, .unset] [(.int (1 : Int32))]))
    refine own_go (fun _ kt => XS.goto X58.here hx rfl (pc0 := 159) (pc' := 163) rfl (hb hby at_159) (by decide) (by decide) kt) ?_
    show own_G p.tables e below _ (T58.setTop (mkF m 163 #[.val (.int p0), .val (.int p1), .val (.int p2), .val (.int p3), .val (.int (own_n x0)), .val (.int (own_n x1)), .val (.int (own_n x2)), .val (.int (own_n x3)), .val (.int (own_n x4)), .val (.int (own_n x5)), .val (.int (own_n x6)), .val (.int (own_n x7)), .val (.int (own_n x8)), .val (.ref b44), .val (.ref b49), .val (.int (own_n (own_rt a2 b2 c2 d2 x6))), .unset, .unset, .unset, .unset, .unset] [(.int (1 : Int32))]))
    refine own_go (fun _ kt => XS.istore X58.here hx rfl (hb hby at_163) rfl (l' := #[.val (.int p0), .val (.int p1), .val (.int p2), .val (.int p3), .val (.int (own_n x0)), .val (.int (own_n x1)), .val (.int (own_n x2)), .val (.int (own_n x3)), .val (.int (own_n x4)), .val (.int (own_n x5)), .val (.int (own_n x6)), .val (.int (own_n x7)), .val (.int (own_n x8)), .val (.ref b44), .val (.ref b49), .val (.int (own_n (own_rt a2 b2 c2 d2 x6))), .val (.int (1 : Int32)), .unset, .unset, .unset, .unset]) rfl kt) ?_
    show own_G p.tables e below _ (T58.setTop (mkF m 165 #[.val (.int p0), .val (.int p1), .val (.int p2), .val (.int p3), .val (.int (own_n x0)), .val (.int (own_n x1)), .val (.int (own_n x2)), .val (.int (own_n x3)), .val (.int (own_n x4)), .val (.int (own_n x5)), .val (.int (own_n x6)), .val (.int (own_n x7)), .val (.int (own_n x8)), .val (.ref b44), .val (.ref b49), .val (.int (own_n (own_rt a2 b2 c2 d2 x6))), .val (.int (1 : Int32)), .unset, .unset, .unset, .unset] []))
    refine own_go (fun _ kt => XS.aload X58.here hx rfl (hb hby at_165) rfl rfl kt) ?_
    show own_G p.tables e below _ (T58.setTop (mkF m 167 #[.val (.int p0), .val (.int p1), .val (.int p2), .val (.int p3), .val (.int (own_n x0)), .val (.int (own_n x1)), .val (.int (own_n x2)), .val (.int (own_n x3)), .val (.int (own_n x4)), .val (.int (own_n x5)), .val (.int (own_n x6)), .val (.int (own_n x7)), .val (.int (own_n x8)), .val (.ref b44), .val (.ref b49), .val (.int (own_n (own_rt a2 b2 c2 d2 x6))), .val (.int (1 : Int32)), .unset, .unset, .unset, .unset] [(.ref b49)]))
    refine own_go (fun _ kt => XS.iload X58.here hx rfl (hb hby at_167) rfl kt) ?_
    show own_G p.tables e below _ (T58.setTop (mkF m 169 #[.val (.int p0), .val (.int p1), .val (.int p2), .val (.int p3), .val (.int (own_n x0)), .val (.int (own_n x1)), .val (.int (own_n x2)), .val (.int (own_n x3)), .val (.int (own_n x4)), .val (.int (own_n x5)), .val (.int (own_n x6)), .val (.int (own_n x7)), .val (.int (own_n x8)), .val (.ref b44), .val (.ref b49), .val (.int (own_n (own_rt a2 b2 c2 d2 x6))), .val (.int (1 : Int32)), .unset, .unset, .unset, .unset] [(.int (own_n x4)), (.ref b49)]))
    refine own_go (fun _ kt => XS.iload X58.here hx rfl (hb hby at_169) rfl kt) ?_
    show own_G p.tables e below _ (T58.setTop (mkF m 171 #[.val (.int p0), .val (.int p1), .val (.int p2), .val (.int p3), .val (.int (own_n x0)), .val (.int (own_n x1)), .val (.int (own_n x2)), .val (.int (own_n x3)), .val (.int (own_n x4)), .val (.int (own_n x5)), .val (.int (own_n x6)), .val (.int (own_n x7)), .val (.int (own_n x8)), .val (.ref b44), .val (.ref b49), .val (.int (own_n (own_rt a2 b2 c2 d2 x6))), .val (.int (1 : Int32)), .unset, .unset, .unset, .unset] [(.int (own_n x5)), (.int (own_n x4)), (.ref b49)]))
    obtain ⟨cq60, kq60, q60a, q60b, q60c⟩ := isOf hZ rfl Dr3.1
    obtain ⟨_, _, ⟨T60, L60, k60, n60⟩, -, X60, ⟨Lc60, hQ60, l60, y60, z60⟩, st60⟩ := X58.virtualBack hx (y := (⟨"com/example/weftwork/weftwork/graph/DisjointSets", "join", "(II)V"⟩ : MethodName)) (z := (⟨"com/example/weftwork/weftwork/graph/DisjointSets", "join", "(II)V"⟩ : MethodName)) hown (mvT hZ (hw _ (List.mem_of_getElem? (i := 12) rfl))) (mvT hZ (hw _ (List.mem_of_getElem? (i := 13) rfl))) (notFace_of_selects (args := #[]) (mvT hZ (hw _ (List.mem_of_getElem? (i := 15) rfl)))) (mvT hZ (hw _ (List.mem_of_getElem? (i := 15) rfl))) (mvT hZ (hw _ (List.mem_of_getElem? (i := 14) rfl))) (by decide) (backOf (W := 0) (rm_join l Z a0 hw [] b49 (own_n x4) (own_n x5) w a3 b3 c3 d3 x4 x5 T58.heap n0 Z58 rfl rfl Dr3) hZ (hw _ (List.mem_of_getElem? (i := 16) rfl)) (hw _ (List.mem_of_getElem? (i := 3) rfl)) (by decide) (by decide)) q60a q60c (g := (mkF m 171 #[.val (.int p0), .val (.int p1), .val (.int p2), .val (.int p3), .val (.int (own_n x0)), .val (.int (own_n x1)), .val (.int (own_n x2)), .val (.int (own_n x3)), .val (.int (own_n x4)), .val (.int (own_n x5)), .val (.int (own_n x6)), .val (.int (own_n x7)), .val (.int (own_n x8)), .val (.ref b44), .val (.ref b49), .val (.int (own_n (own_rt a2 b2 c2 d2 x6))), .val (.int (1 : Int32)), .unset, .unset, .unset, .unset] [(.int (own_n x5)), (.int (own_n x4)), (.ref b49)])) rfl (by rw [hml]; rfl) (Steps.refl _) (argsL := [(.int (own_n x4)), (.int (own_n x5))]) (rest := []) (lenOf pd__II_V rfl) rfl (by show 2 * 0 + _ ≤ _; exact Nat.le_of_eq rfl) (hb hby at_171) (fun _ _ => ⟨rfl, rfl, (Nat.le_of_ble_eq_true rfl), (Nat.le_of_ble_eq_true rfl)⟩)
    dsimp only [Pt.U, Pt.locs, Pt.cells, Pt.slots] at X60 l60 y60 z60 st60 hQ60
    subst l60 y60 z60
    obtain ⟨a4, b4, c4, d4, rfl, Nq60, Kq60, Dj4, hj4⟩ := hQ60
    have N60 := Fr.app N58 Nq60
    refine own_tr st60 ?_
    have Z60 : n0 ≤ T60.heap.size := Nat.le_trans Z58 Kq60.1
    show own_G p.tables e below _ (T60.setTop (mkF m 174 #[.val (.int p0), .val (.int p1), .val (.int p2), .val (.int p3), .val (.int (own_n x0)), .val (.int (own_n x1)), .val (.int (own_n x2)), .val (.int (own_n x3)), .val (.int (own_n x4)), .val (.int (own_n x5)), .val (.int (own_n x6)), .val (.int (own_n x7)), .val (.int (own_n x8)), .val (.ref b44), .val (.ref b49), .val (.int (own_n (own_rt a2 b2 c2 d2 x6))), .val (.int (1 : Int32)), .unset, .unset, .unset, .unset] []))
    refine own_go (fun _ kt => XS.aload X60.here hx rfl (hb hby at_174) rfl rfl kt) ?_
    show own_G p.tables e below _ (T60.setTop (mkF m 176 #[.val (.int p0), .val (.int p1), .val (.int p2), .val (.int p3), .val (.int (own_n x0)), .val (.int (own_n x1)), .val (.int (own_n x2)), .val (.int (own_n x3)), .val (.int (own_n x4)), .val (.int (own_n x5)), .val (.int (own_n x6)), .val (.int (own_n x7)), .val (.int (own_n x8)), .val (.ref b44), .val (.ref b49), .val (.int (own_n (own_rt a2 b2 c2 d2 x6))), .val (.int (1 : Int32)), .unset, .unset, .unset, .unset] [(.ref b44)]))
    refine own_go (fun _ kt => XS.iload X60.here hx rfl (hb hby at_176) rfl kt) ?_
    show own_G p.tables e below _ (T60.setTop (mkF m 178 #[.val (.int p0), .val (.int p1), .val (.int p2), .val (.int p3), .val (.int (own_n x0)), .val (.int (own_n x1)), .val (.int (own_n x2)), .val (.int (own_n x3)), .val (.int (own_n x4)), .val (.int (own_n x5)), .val (.int (own_n x6)), .val (.int (own_n x7)), .val (.int (own_n x8)), .val (.ref b44), .val (.ref b49), .val (.int (own_n (own_rt a2 b2 c2 d2 x6))), .val (.int (1 : Int32)), .unset, .unset, .unset, .unset] [(.int (own_n x4)), (.ref b44)]))
    refine own_go (fun _ kt => XS.iload X60.here hx rfl (hb hby at_178) rfl kt) ?_
    have u61 := (u59.keep Kq60 (ninS nw nin0))
    show own_G p.tables e below _ (T60.setTop (mkF m 180 #[.val (.int p0), .val (.int p1), .val (.int p2), .val (.int p3), .val (.int (own_n x0)), .val (.int (own_n x1)), .val (.int (own_n x2)), .val (.int (own_n x3)), .val (.int (own_n x4)), .val (.int (own_n x5)), .val (.int (own_n x6)), .val (.int (own_n x7)), .val (.int (own_n x8)), .val (.ref b44), .val (.ref b49), .val (.int (own_n (own_rt a2 b2 c2 d2 x6))), .val (.int (1 : Int32)), .unset, .unset, .unset, .unset] [(.int (own_n x5)), (.int (own_n x4)), (.ref b44)]))
    obtain ⟨_, _, ⟨T62, L62, k62, n62⟩, -, X62, ⟨Lc62, hQ62, l62, y62, z62⟩, st62⟩ := Jvm.LawKit.callS X60 hx (y := (⟨"com/example/weftwork/weftwork/graph/DisjointSetsRootPinLaw", "merge", "([III)V"⟩ : MethodName)) hown (mvT hZ (hw _ (List.mem_of_getElem? (i := 22) rfl))) (mvT hZ (hw _ (List.mem_of_getElem? (i := 23) rfl))) (mvT hZ (hw _ (List.mem_of_getElem? (i := 24) rfl))) (mvT hZ (hw _ (List.mem_of_getElem? (i := 25) rfl))) (by decide) (backOf (W := 0) (rm_merge l Z a0 hw [] b44 (own_n x4) (own_n x5) ea2 eb2 ec2 ed2 x4 x5 T60.heap n0 Z60 rfl rfl g_b44 u61) hZ (hw _ (List.mem_of_getElem? (i := 25) rfl)) (hw _ (List.mem_of_getElem? (i := 24) rfl)) (by decide) (by decide)) (g := (mkF m 180 #[.val (.int p0), .val (.int p1), .val (.int p2), .val (.int p3), .val (.int (own_n x0)), .val (.int (own_n x1)), .val (.int (own_n x2)), .val (.int (own_n x3)), .val (.int (own_n x4)), .val (.int (own_n x5)), .val (.int (own_n x6)), .val (.int (own_n x7)), .val (.int (own_n x8)), .val (.ref b44), .val (.ref b49), .val (.int (own_n (own_rt a2 b2 c2 d2 x6))), .val (.int (1 : Int32)), .unset, .unset, .unset, .unset] [(.int (own_n x5)), (.int (own_n x4)), (.ref b44)])) rfl (by rw [hml]; rfl) (argsL := [(.ref b44), (.int (own_n x4)), (.int (own_n x5))]) (rest := []) (lenOf pd___III_V rfl) rfl (by show 2 * 0 + _ ≤ _; exact Nat.le_of_eq rfl) (hb hby at_180) (fun _ _ => ⟨rfl, rfl, (Nat.le_of_ble_eq_true rfl), (Nat.le_of_ble_eq_true rfl)⟩)
    dsimp only [Pt.U, Pt.locs, Pt.cells, Pt.slots] at X62 l62 y62 z62 st62 hQ62
    subst l62 y62 z62
    obtain ⟨rfl, Nq62, Kq62, Vm4⟩ := hQ62
    have N62 := Fr.app N60 Nq62
    refine own_go st62 ?_
    have Z62 : n0 ≤ T62.heap.size := Nat.le_trans Z60 Kq62.1
    have Dm4 := Dj4.keep Kq62 (ninS (Ne.symm ne_b44_b49) nin0) (ninS nw.symm nin0)
    have Sm4 := own_same1 Sr3 hj4
    generalize (own_mg (own_f ea2 eb2 ec2 ed2 x4) (own_f ea2 eb2 ec2 ed2 x5) ea2) = ea4 at Vm4 Sm4
    generalize (own_mg (own_f ea2 eb2 ec2 ed2 x4) (own_f ea2 eb2 ec2 ed2 x5) eb2) = eb4 at Vm4 Sm4
    generalize (own_mg (own_f ea2 eb2 ec2 ed2 x4) (own_f ea2 eb2 ec2 ed2 x5) ec2) = ec4 at Vm4 Sm4
    generalize (own_mg (own_f ea2 eb2 ec2 ed2 x4) (own_f ea2 eb2 ec2 ed2 x5) ed2) = ed4 at Vm4 Sm4
    show own_G p.tables e below _ (T62.setTop (mkF m 183 #[.val (.int p0), .val (.int p1), .val (.int p2), .val (.int p3), .val (.int (own_n x0)), .val (.int (own_n x1)), .val (.int (own_n x2)), .val (.int (own_n x3)), .val (.int (own_n x4)), .val (.int (own_n x5)), .val (.int (own_n x6)), .val (.int (own_n x7)), .val (.int (own_n x8)), .val (.ref b44), .val (.ref b49), .val (.int (own_n (own_rt a2 b2 c2 d2 x6))), .val (.int (1 : Int32)), .unset, .unset, .unset, .unset] []))
    refine own_go (fun _ kt => XS.aload X62.here hx rfl (hb hby at_183) rfl rfl kt) ?_
    show own_G p.tables e below _ (T62.setTop (mkF m 185 #[.val (.int p0), .val (.int p1), .val (.int p2), .val (.int p3), .val (.int (own_n x0)), .val (.int (own_n x1)), .val (.int (own_n x2)), .val (.int (own_n x3)), .val (.int (own_n x4)), .val (.int (own_n x5)), .val (.int (own_n x6)), .val (.int (own_n x7)), .val (.int (own_n x8)), .val (.ref b44), .val (.ref b49), .val (.int (own_n (own_rt a2 b2 c2 d2 x6))), .val (.int (1 : Int32)), .unset, .unset, .unset, .unset] [(.ref b49)]))
    refine own_go (fun _ kt => XS.iload X62.here hx rfl (hb hby at_185) rfl kt) ?_
    show own_G p.tables e below _ (T62.setTop (mkF m 187 #[.val (.int p0), .val (.int p1), .val (.int p2), .val (.int p3), .val (.int (own_n x0)), .val (.int (own_n x1)), .val (.int (own_n x2)), .val (.int (own_n x3)), .val (.int (own_n x4)), .val (.int (own_n x5)), .val (.int (own_n x6)), .val (.int (own_n x7)), .val (.int (own_n x8)), .val (.ref b44), .val (.ref b49), .val (.int (own_n (own_rt a2 b2 c2 d2 x6))), .val (.int (1 : Int32)), .unset, .unset, .unset, .unset] [(.int (own_n x7)), (.ref b49)]))
    obtain ⟨cq63, kq63, q63a, q63b, q63c⟩ := isOf hZ rfl Dm4.1
    obtain ⟨_, _, ⟨T63, L63, k63, n63⟩, -, X63, ⟨Lc63, hQ63, l63, y63, z63⟩, st63⟩ := X62.virtualBack hx (y := (⟨"com/example/weftwork/weftwork/graph/DisjointSets", "root", "(I)I"⟩ : MethodName)) (z := (⟨"com/example/weftwork/weftwork/graph/DisjointSets", "root", "(I)I"⟩ : MethodName)) hown (mvT hZ (hw _ (List.mem_of_getElem? (i := 26) rfl))) (mvT hZ (hw _ (List.mem_of_getElem? (i := 18) rfl))) (notFace_of_selects (args := #[]) (mvT hZ (hw _ (List.mem_of_getElem? (i := 20) rfl)))) (mvT hZ (hw _ (List.mem_of_getElem? (i := 20) rfl))) (mvT hZ (hw _ (List.mem_of_getElem? (i := 19) rfl))) (by decide) (backOf (W := 0) (rm_root l Z a0 hw [] b49 (own_n x7) w a4 b4 c4 d4 x7 T62.heap n0 Z62 rfl Dm4) hZ (hw _ (List.mem_of_getElem? (i := 21) rfl)) (hw _ (List.mem_of_getElem? (i := 3) rfl)) (by decide) (by decide)) q63a q63c (g := (mkF m 187 #[.val (.int p0), .val (.int p1), .val (.int p2), .val (.int p3), .val (.int (own_n x0)), .val (.int (own_n x1)), .val (.int (own_n x2)), .val (.int (own_n x3)), .val (.int (own_n x4)), .val (.int (own_n x5)), .val (.int (own_n x6)), .val (.int (own_n x7)), .val (.int (own_n x8)), .val (.ref b44), .val (.ref b49), .val (.int (own_n (own_rt a2 b2 c2 d2 x6))), .val (.int (1 : Int32)), .unset, .unset, .unset, .unset] [(.int (own_n x7)), (.ref b49)])) rfl (by rw [hml]; rfl) (Steps.refl _) (argsL := [(.int (own_n x7))]) (rest := []) (lenOf pd__I_I rfl) rfl (by show 2 * 0 + _ ≤ _; exact Nat.le_of_eq rfl) (hb hby at_187) (fun _ _ => ⟨rfl, rfl, (Nat.le_of_ble_eq_true rfl), (Nat.le_of_ble_eq_true rfl)⟩)
    dsimp only [Pt.U, Pt.locs, Pt.cells, Pt.slots] at X63 l63 y63 z63 st63 hQ63
    subst l63 y63 z63
    obtain ⟨a5, b5, c5, d5, rfl, Nq63, Kq63, Dr5, hr5⟩ := hQ63
    have N63 := Fr.app N62 Nq63
    refine own_tr st63 ?_
    have Z63 : n0 ≤ T63.heap.size := Nat.le_trans Z62 Kq63.1
    have Sr5 : own_same a5 b5 c5 d5 ea4 eb4 ec4 ed4 := fun x y => by rw [hr5, hr5]; exact Sm4 x y
    show own_G p.tables e below _ (T63.setTop (mkF m 190 #[.val (.int p0), .val (.int p1), .val (.int p2), .val (.int p3), .val (.int (own_n x0)), .val (.int (own_n x1)), .val (.int (own_n x2)), .val (.int (own_n x3)), .val (.int (own_n x4)), .val (.int (own_n x5)), .val (.int (own_n x6)), .val (.int (own_n x7)), .val (.int (own_n x8)), .val (.ref b44), .val (.ref b49), .val (.int (own_n (own_rt a2 b2 c2 d2 x6))), .val (.int (1 : Int32)), .unset, .unset, .unset, .unset] [(.int (own_n (own_rt a4 b4 c4 d4 x7)))]))
    refine own_go (fun _ kt => XS.istore X63.here hx rfl (hb hby at_190) rfl (l' := #[.val (.int p0), .val (.int p1), .val (.int p2), .val (.int p3), .val (.int (own_n x0)), .val (.int (own_n x1)), .val (.int (own_n x2)), .val (.int (own_n x3)), .val (.int (own_n x4)), .val (.int (own_n x5)), .val (.int (own_n x6)), .val (.int (own_n x7)), .val (.int (own_n x8)), .val (.ref b44), .val (.ref b49), .val (.int (own_n (own_rt a2 b2 c2 d2 x6))), .val (.int (1 : Int32)), .val (.int (own_n (own_rt a4 b4 c4 d4 x7))), .unset, .unset, .unset]) rfl kt) ?_
    show own_G p.tables e below _ (T63.setTop (mkF m 192 #[.val (.int p0), .val (.int p1), .val (.int p2), .val (.int p3), .val (.int (own_n x0)), .val (.int (own_n x1)), .val (.int (own_n x2)), .val (.int (own_n x3)), .val (.int (own_n x4)), .val (.int (own_n x5)), .val (.int (own_n x6)), .val (.int (own_n x7)), .val (.int (own_n x8)), .val (.ref b44), .val (.ref b49), .val (.int (own_n (own_rt a2 b2 c2 d2 x6))), .val (.int (1 : Int32)), .val (.int (own_n (own_rt a4 b4 c4 d4 x7))), .unset, .unset, .unset] []))
    refine own_go (fun _ kt => XS.aload X63.here hx rfl (hb hby at_192) rfl rfl kt) ?_
    show own_G p.tables e below _ (T63.setTop (mkF m 194 #[.val (.int p0), .val (.int p1), .val (.int p2), .val (.int p3), .val (.int (own_n x0)), .val (.int (own_n x1)), .val (.int (own_n x2)), .val (.int (own_n x3)), .val (.int (own_n x4)), .val (.int (own_n x5)), .val (.int (own_n x6)), .val (.int (own_n x7)), .val (.int (own_n x8)), .val (.ref b44), .val (.ref b49), .val (.int (own_n (own_rt a2 b2 c2 d2 x6))), .val (.int (1 : Int32)), .val (.int (own_n (own_rt a4 b4 c4 d4 x7))), .unset, .unset, .unset] [(.ref b49)]))
    refine own_go (fun _ kt => XS.iload X63.here hx rfl (hb hby at_194) rfl kt) ?_
    show own_G p.tables e below _ (T63.setTop (mkF m 196 #[.val (.int p0), .val (.int p1), .val (.int p2), .val (.int p3), .val (.int (own_n x0)), .val (.int (own_n x1)), .val (.int (own_n x2)), .val (.int (own_n x3)), .val (.int (own_n x4)), .val (.int (own_n x5)), .val (.int (own_n x6)), .val (.int (own_n x7)), .val (.int (own_n x8)), .val (.ref b44), .val (.ref b49), .val (.int (own_n (own_rt a2 b2 c2 d2 x6))), .val (.int (1 : Int32)), .val (.int (own_n (own_rt a4 b4 c4 d4 x7))), .unset, .unset, .unset] [(.int (own_n x8)), (.ref b49)]))
    obtain ⟨cq64, kq64, q64a, q64b, q64c⟩ := isOf hZ rfl Dr5.1
    obtain ⟨_, _, ⟨T64, L64, k64, n64⟩, -, X64, ⟨Lc64, hQ64, l64, y64, z64⟩, st64⟩ := X63.virtualBack hx (y := (⟨"com/example/weftwork/weftwork/graph/DisjointSets", "root", "(I)I"⟩ : MethodName)) (z := (⟨"com/example/weftwork/weftwork/graph/DisjointSets", "root", "(I)I"⟩ : MethodName)) hown (mvT hZ (hw _ (List.mem_of_getElem? (i := 26) rfl))) (mvT hZ (hw _ (List.mem_of_getElem? (i := 18) rfl))) (notFace_of_selects (args := #[]) (mvT hZ (hw _ (List.mem_of_getElem? (i := 20) rfl)))) (mvT hZ (hw _ (List.mem_of_getElem? (i := 20) rfl))) (mvT hZ (hw _ (List.mem_of_getElem? (i := 19) rfl))) (by decide) (backOf (W := 0) (rm_root l Z a0 hw [] b49 (own_n x8) w a5 b5 c5 d5 x8 T63.heap n0 Z63 rfl Dr5) hZ (hw _ (List.mem_of_getElem? (i := 21) rfl)) (hw _ (List.mem_of_getElem? (i := 3) rfl)) (by decide) (by decide)) q64a q64c (g := (mkF m 196 #[.val (.int p0), .val (.int p1), .val (.int p2), .val (.int p3), .val (.int (own_n x0)), .val (.int (own_n x1)), .val (.int (own_n x2)), .val (.int (own_n x3)), .val (.int (own_n x4)), .val (.int (own_n x5)), .val (.int (own_n x6)), .val (.int (own_n x7)), .val (.int (own_n x8)), .val (.ref b44), .val (.ref b49), .val (.int (own_n (own_rt a2 b2 c2 d2 x6))), .val (.int (1 : Int32)), .val (.int (own_n (own_rt a4 b4 c4 d4 x7))), .unset, .unset, .unset] [(.int (own_n x8)), (.ref b49)])) rfl (by rw [hml]; rfl) (Steps.refl _) (argsL := [(.int (own_n x8))]) (rest := []) (lenOf pd__I_I rfl) rfl (by show 2 * 0 + _ ≤ _; exact Nat.le_of_eq rfl) (hb hby at_196) (fun _ _ => ⟨rfl, rfl, (Nat.le_of_ble_eq_true rfl), (Nat.le_of_ble_eq_true rfl)⟩)
    dsimp only [Pt.U, Pt.locs, Pt.cells, Pt.slots] at X64 l64 y64 z64 st64 hQ64
    subst l64 y64 z64
    obtain ⟨a6, b6, c6, d6, rfl, Nq64, Kq64, Dr6, hr6⟩ := hQ64
    have N64 := Fr.app N63 Nq64
    refine own_tr st64 ?_
    have Z64 : n0 ≤ T64.heap.size := Nat.le_trans Z63 Kq64.1
    have Sr6 : own_same a6 b6 c6 d6 ea4 eb4 ec4 ed4 := fun x y => by rw [hr6, hr6]; exact Sr5 x y
    rw [hr5]
    show own_G p.tables e below _ (T64.setTop (mkF m 199 #[.val (.int p0), .val (.int p1), .val (.int p2), .val (.int p3), .val (.int (own_n x0)), .val (.int (own_n x1)), .val (.int (own_n x2)), .val (.int (own_n x3)), .val (.int (own_n x4)), .val (.int (own_n x5)), .val (.int (own_n x6)), .val (.int (own_n x7)), .val (.int (own_n x8)), .val (.ref b44), .val (.ref b49), .val (.int (own_n (own_rt a2 b2 c2 d2 x6))), .val (.int (1 : Int32)), .val (.int (own_n (own_rt a4 b4 c4 d4 x7))), .unset, .unset, .unset] [(.int (own_n (own_rt a4 b4 c4 d4 x8)))]))
    refine own_go (fun _ kt => XS.istore X64.here hx rfl (hb hby at_199) rfl (l' := #[.val (.int p0), .val (.int p1), .val (.int p2), .val (.int p3), .val (.int (own_n x0)), .val (.int (own_n x1)), .val (.int (own_n x2)), .val (.int (own_n x3)), .val (.int (own_n x4)), .val (.int (own_n x5)), .val (.int (own_n x6)), .val (.int (own_n x7)), .val (.int (own_n x8)), .val (.ref b44), .val (.ref b49), .val (.int (own_n (own_rt a2 b2 c2 d2 x6))), .val (.int (1 : Int32)), .val (.int (own_n (own_rt a4 b4 c4 d4 x7))), .val (.int (own_n (own_rt a4 b4 c4 d4 x8))), .unset, .unset]) rfl kt) ?_
    show own_G p.tables e below _ (T64.setTop (mkF m 201 #[.val (.int p0), .val (.int p1), .val (.int p2), .val (.int p3), .val (.int (own_n x0)), .val (.int (own_n x1)), .val (.int (own_n x2)), .val (.int (own_n x3)), .val (.int (own_n x4)), .val (.int (own_n x5)), .val (.int (own_n x6)), .val (.int (own_n x7)), .val (.int (own_n x8)), .val (.ref b44), .val (.ref b49), .val (.int (own_n (own_rt a2 b2 c2 d2 x6))), .val (.int (1 : Int32)), .val (.int (own_n (own_rt a4 b4 c4 d4 x7))), .val (.int (own_n (own_rt a4 b4 c4 d4 x8))), .unset, .unset] []))
    refine own_go (fun _ kt => XS.iload X64.here hx rfl (hb hby at_201) rfl kt) ?_
    show own_G p.tables e below _ (T64.setTop (mkF m 203 #[.val (.int p0), .val (.int p1), .val (.int p2), .val (.int p3), .val (.int (own_n x0)), .val (.int (own_n x1)), .val (.int (own_n x2)), .val (.int (own_n x3)), .val (.int (own_n x4)), .val (.int (own_n x5)), .val (.int (own_n x6)), .val (.int (own_n x7)), .val (.int (own_n x8)), .val (.ref b44), .val (.ref b49), .val (.int (own_n (own_rt a2 b2 c2 d2 x6))), .val (.int (1 : Int32)), .val (.int (own_n (own_rt a4 b4 c4 d4 x7))), .val (.int (own_n (own_rt a4 b4 c4 d4 x8))), .unset, .unset] [(.int (1 : Int32))]))
    refine own_go (fun _ kt => XS.ifNo X64.here hx rfl (hb hby at_203) rfl ((if0 _ _).trans (feq (by decide : ¬ ((1 : Int32) = (0 : Int32)))).1) kt) ?_
    show own_G p.tables e below _ (T64.setTop (mkF m 206 #[.val (.int p0), .val (.int p1), .val (.int p2), .val (.int p3), .val (.int (own_n x0)), .val (.int (own_n x1)), .val (.int (own_n x2)), .val (.int (own_n x3)), .val (.int (own_n x4)), .val (.int (own_n x5)), .val (.int (own_n x6)), .val (.int (own_n x7)), .val (.int (own_n x8)), .val (.ref b44), .val (.ref b49), .val (.int (own_n (own_rt a2 b2 c2 d2 x6))), .val (.int (1 : Int32)), .val (.int (own_n (own_rt a4 b4 c4 d4 x7))), .val (.int (own_n (own_rt a4 b4 c4 d4 x8))), .unset, .unset] []))
    refine own_go (fun _ kt => XS.iload X64.here hx rfl (hb hby at_206) rfl kt) ?_
    show own_G p.tables e below _ (T64.setTop (mkF m 208 #[.val (.int p0), .val (.int p1), .val (.int p2), .val (.int p3), .val (.int (own_n x0)), .val (.int (own_n x1)), .val (.int (own_n x2)), .val (.int (own_n x3)), .val (.int (own_n x4)), .val (.int (own_n x5)), .val (.int (own_n x6)), .val (.int (own_n x7)), .val (.int (own_n x8)), .val (.ref b44), .val (.ref b49), .val (.int (own_n (own_rt a2 b2 c2 d2 x6))), .val (.int (1 : Int32)), .val (.int (own_n (own_rt a4 b4 c4 d4 x7))), .val (.int (own_n (own_rt a4 b4 c4 d4 x8))), .unset, .unset] [(.int (own_n (own_rt a4 b4 c4 d4 x7)))]))
    refine own_go (fun _ kt => XS.ifNo X64.here hx rfl (hb hby at_208) rfl ((if0 _ _).trans (flt (own_ge0 _ : ¬ ((own_n (own_rt a4 b4 c4 d4 x7)) < (0 : Int32)))).1) kt) ?_
    show own_G p.tables e below _ (T64.setTop (mkF m 211 #[.val (.int p0), .val (.int p1), .val (.int p2), .val (.int p3), .val (.int (own_n x0)), .val (.int (own_n x1)), .val (.int (own_n x2)), .val (.int (own_n x3)), .val (.int (own_n x4)), .val (.int (own_n x5)), .val (.int (own_n x6)), .val (.int (own_n x7)), .val (.int (own_n x8)), .val (.ref b44), .val (.ref b49), .val (.int (own_n (own_rt a2 b2 c2 d2 x6))), .val (.int (1 : Int32)), .val (.int (own_n (own_rt a4 b4 c4 d4 x7))), .val (.int (own_n (own_rt a4 b4 c4 d4 x8))), .unset, .unset] []))
    refine own_go (fun _ kt => XS.iload X64.here hx rfl (hb hby at_211) rfl kt) ?_
    show own_G p.tables e below _ (T64.setTop (mkF m 213 #[.val (.int p0), .val (.int p1), .val (.int p2), .val (.int p3), .val (.int (own_n x0)), .val (.int (own_n x1)), .val (.int (own_n x2)), .val (.int (own_n x3)), .val (.int (own_n x4)), .val (.int (own_n x5)), .val (.int (own_n x6)), .val (.int (own_n x7)), .val (.int (own_n x8)), .val (.ref b44), .val (.ref b49), .val (.int (own_n (own_rt a2 b2 c2 d2 x6))), .val (.int (1 : Int32)), .val (.int (own_n (own_rt a4 b4 c4 d4 x7))), .val (.int (own_n (own_rt a4 b4 c4 d4 x8))), .unset, .unset] [(.int (own_n (own_rt a4 b4 c4 d4 x7)))]))
    refine own_go (fun _ kt => XS.iconst X64.here hx rfl (hb hby at_213) kt) ?_
    show own_G p.tables e below _ (T64.setTop (mkF m 214 #[.val (.int p0), .val (.int p1), .val (.int p2), .val (.int p3), .val (.int (own_n x0)), .val (.int (own_n x1)), .val (.int (own_n x2)), .val (.int (own_n x3)), .val (.int (own_n x4)), .val (.int (own_n x5)), .val (.int (own_n x6)), .val (.int (own_n x7)), .val (.int (own_n x8)), .val (.ref b44), .val (.ref b49), .val (.int (own_n (own_rt a2 b2 c2 d2 x6))), .val (.int (1 : Int32)), .val (.int (own_n (own_rt a4 b4 c4 d4 x7))), .val (.int (own_n (own_rt a4 b4 c4 d4 x8))), .unset, .unset] [(.int (4 : Int32)), (.int (own_n (own_rt a4 b4 c4 d4 x7)))]))
    refine own_go (fun _ kt => XS.icmpNo X64.here hx rfl (hb hby at_214) rfl (tlt (own_lt4 _ : (own_n (own_rt a4 b4 c4 d4 x7)) < (4 : Int32))).2.1 kt) ?_
    show own_G p.tables e below _ (T64.setTop (mkF m 217 #[.val (.int p0), .val (.int p1), .val (.int p2), .val (.int p3), .val (.int (own_n x0)), .val (.int (own_n x1)), .val (.int (own_n x2)), .val (.int (own_n x3)), .val (.int (own_n x4)), .val (.int (own_n x5)), .val (.int (own_n x6)), .val (.int (own_n x7)), .val (.int (own_n x8)), .val (.ref b44), .val (.ref b49), .val (.int (own_n (own_rt a2 b2 c2 d2 x6))), .val (.int (1 : Int32)), .val (.int (own_n (own_rt a4 b4 c4 d4 x7))), .val (.int (own_n (own_rt a4 b4 c4 d4 x8))), .unset, .unset] []))
    refine own_go (fun _ kt => XS.iload X64.here hx rfl (hb hby at_217) rfl kt) ?_
    show own_G p.tables e below _ (T64.setTop (mkF m 219 #[.val (.int p0), .val (.int p1), .val (.int p2), .val (.int p3), .val (.int (own_n x0)), .val (.int (own_n x1)), .val (.int (own_n x2)), .val (.int (own_n x3)), .val (.int (own_n x4)), .val (.int (own_n x5)), .val (.int (own_n x6)), .val (.int (own_n x7)), .val (.int (own_n x8)), .val (.ref b44), .val (.ref b49), .val (.int (own_n (own_rt a2 b2 c2 d2 x6))), .val (.int (1 : Int32)), .val (.int (own_n (own_rt a4 b4 c4 d4 x7))), .val (.int (own_n (own_rt a4 b4 c4 d4 x8))), .unset, .unset] [(.int (own_n (own_rt a4 b4 c4 d4 x8)))]))
    refine own_go (fun _ kt => XS.ifNo X64.here hx rfl (hb hby at_219) rfl ((if0 _ _).trans (flt (own_ge0 _ : ¬ ((own_n (own_rt a4 b4 c4 d4 x8)) < (0 : Int32)))).1) kt) ?_
    show own_G p.tables e below _ (T64.setTop (mkF m 222 #[.val (.int p0), .val (.int p1), .val (.int p2), .val (.int p3), .val (.int (own_n x0)), .val (.int (own_n x1)), .val (.int (own_n x2)), .val (.int (own_n x3)), .val (.int (own_n x4)), .val (.int (own_n x5)), .val (.int (own_n x6)), .val (.int (own_n x7)), .val (.int (own_n x8)), .val (.ref b44), .val (.ref b49), .val (.int (own_n (own_rt a2 b2 c2 d2 x6))), .val (.int (1 : Int32)), .val (.int (own_n (own_rt a4 b4 c4 d4 x7))), .val (.int (own_n (own_rt a4 b4 c4 d4 x8))), .unset, .unset] []))
    refine own_go (fun _ kt => XS.iload X64.here hx rfl (hb hby at_222) rfl kt) ?_
    show own_G p.tables e below _ (T64.setTop (mkF m 224 #[.val (.int p0), .val (.int p1), .val (.int p2), .val (.int p3), .val (.int (own_n x0)), .val (.int (own_n x1)), .val (.int (own_n x2)), .val (.int (own_n x3)), .val (.int (own_n x4)), .val (.int (own_n x5)), .val (.int (own_n x6)), .val (.int (own_n x7)), .val (.int (own_n x8)), .val (.ref b44), .val (.ref b49), .val (.int (own_n (own_rt a2 b2 c2 d2 x6))), .val (.int (1 : Int32)), .val (.int (own_n (own_rt a4 b4 c4 d4 x7))), .val (.int (own_n (own_rt a4 b4 c4 d4 x8))), .unset, .unset] [(.int (own_n (own_rt a4 b4 c4 d4 x8)))]))
    refine own_go (fun _ kt => XS.iconst X64.here hx rfl (hb hby at_224) kt) ?_
    show own_G p.tables e below _ (T64.setTop (mkF m 225 #[.val (.int p0), .val (.int p1), .val (.int p2), .val (.int p3), .val (.int (own_n x0)), .val (.int (own_n x1)), .val (.int (own_n x2)), .val (.int (own_n x3)), .val (.int (own_n x4)), .val (.int (own_n x5)), .val (.int (own_n x6)), .val (.int (own_n x7)), .val (.int (own_n x8)), .val (.ref b44), .val (.ref b49), .val (.int (own_n (own_rt a2 b2 c2 d2 x6))), .val (.int (1 : Int32)), .val (.int (own_n (own_rt a4 b4 c4 d4 x7))), .val (.int (own_n (own_rt a4 b4 c4 d4 x8))), .unset, .unset] [(.int (4 : Int32)), (.int (own_n (own_rt a4 b4 c4 d4 x8)))]))
    refine own_go (fun _ kt => XS.icmpNo X64.here hx rfl (hb hby at_225) rfl (tlt (own_lt4 _ : (own_n (own_rt a4 b4 c4 d4 x8)) < (4 : Int32))).2.1 kt) ?_
    show own_G p.tables e below _ (T64.setTop (mkF m 228 #[.val (.int p0), .val (.int p1), .val (.int p2), .val (.int p3), .val (.int (own_n x0)), .val (.int (own_n x1)), .val (.int (own_n x2)), .val (.int (own_n x3)), .val (.int (own_n x4)), .val (.int (own_n x5)), .val (.int (own_n x6)), .val (.int (own_n x7)), .val (.int (own_n x8)), .val (.ref b44), .val (.ref b49), .val (.int (own_n (own_rt a2 b2 c2 d2 x6))), .val (.int (1 : Int32)), .val (.int (own_n (own_rt a4 b4 c4 d4 x7))), .val (.int (own_n (own_rt a4 b4 c4 d4 x8))), .unset, .unset] []))
    refine own_go (fun _ kt => XS.iconst X64.here hx rfl (hb hby at_228) kt) ?_
    show own_G p.tables e below _ (T64.setTop (mkF m 229 #[.val (.int p0), .val (.int p1), .val (.int p2), .val (.int p3), .val (.int (own_n x0)), .val (.int (own_n x1)), .val (.int (own_n x2)), .val (.int (own_n x3)), .val (.int (own_n x4)), .val (.int (own_n x5)), .val (.int (own_n x6)), .val (.int (own_n x7)), .val (.int (own_n x8)), .val (.ref b44), .val (.ref b49), .val (.int (own_n (own_rt a2 b2 c2 d2 x6))), .val (.int (1 : Int32)), .val (.int (own_n (own_rt a4 b4 c4 d4 x7))), .val (.int (own_n (own_rt a4 b4 c4 d4 x8))), .unset, .unset] [(.int (1 : Int32))]))
    refine own_go (fun _ kt => XS.goto X64.here hx rfl (pc0 := 229) (pc' := 233) rfl (hb hby at_229) (by decide) (by decide) kt) ?_
    show own_G p.tables e below _ (T64.setTop (mkF m 233 #[.val (.int p0), .val (.int p1), .val (.int p2), .val (.int p3), .val (.int (own_n x0)), .val (.int (own_n x1)), .val (.int (own_n x2)), .val (.int (own_n x3)), .val (.int (own_n x4)), .val (.int (own_n x5)), .val (.int (own_n x6)), .val (.int (own_n x7)), .val (.int (own_n x8)), .val (.ref b44), .val (.ref b49), .val (.int (own_n (own_rt a2 b2 c2 d2 x6))), .val (.int (1 : Int32)), .val (.int (own_n (own_rt a4 b4 c4 d4 x7))), .val (.int (own_n (own_rt a4 b4 c4 d4 x8))), .unset, .unset] [(.int (1 : Int32))]))
    refine own_go (fun _ kt => XS.istore X64.here hx rfl (hb hby at_233) rfl (l' := #[.val (.int p0), .val (.int p1), .val (.int p2), .val (.int p3), .val (.int (own_n x0)), .val (.int (own_n x1)), .val (.int (own_n x2)), .val (.int (own_n x3)), .val (.int (own_n x4)), .val (.int (own_n x5)), .val (.int (own_n x6)), .val (.int (own_n x7)), .val (.int (own_n x8)), .val (.ref b44), .val (.ref b49), .val (.int (own_n (own_rt a2 b2 c2 d2 x6))), .val (.int (1 : Int32)), .val (.int (own_n (own_rt a4 b4 c4 d4 x7))), .val (.int (own_n (own_rt a4 b4 c4 d4 x8))), .unset, .unset]) rfl kt) ?_
    show own_G p.tables e below _ (T64.setTop (mkF m 235 #[.val (.int p0), .val (.int p1), .val (.int p2), .val (.int p3), .val (.int (own_n x0)), .val (.int (own_n x1)), .val (.int (own_n x2)), .val (.int (own_n x3)), .val (.int (own_n x4)), .val (.int (own_n x5)), .val (.int (own_n x6)), .val (.int (own_n x7)), .val (.int (own_n x8)), .val (.ref b44), .val (.ref b49), .val (.int (own_n (own_rt a2 b2 c2 d2 x6))), .val (.int (1 : Int32)), .val (.int (own_n (own_rt a4 b4 c4 d4 x7))), .val (.int (own_n (own_rt a4 b4 c4 d4 x8))), .unset, .unset] []))
    refine own_go (fun _ kt => XS.iload X64.here hx rfl (hb hby at_235) rfl kt) ?_
    show own_G p.tables e below _ (T64.setTop (mkF m 237 #[.val (.int p0), .val (.int p1), .val (.int p2), .val (.int p3), .val (.int (own_n x0)), .val (.int (own_n x1)), .val (.int (own_n x2)), .val (.int (own_n x3)), .val (.int (own_n x4)), .val (.int (own_n x5)), .val (.int (own_n x6)), .val (.int (own_n x7)), .val (.int (own_n x8)), .val (.ref b44), .val (.ref b49), .val (.int (own_n (own_rt a2 b2 c2 d2 x6))), .val (.int (1 : Int32)), .val (.int (own_n (own_rt a4 b4 c4 d4 x7))), .val (.int (own_n (own_rt a4 b4 c4 d4 x8))), .unset, .unset] [(.int (1 : Int32))]))
    refine own_go (fun _ kt => XS.ifYes X64.here hx rfl (pc0 := 237) (pc' := 242) rfl (hb hby at_237) rfl ((if0 _ _).trans (feq (by decide : ¬ ((1 : Int32) = (0 : Int32)))).2) (by decide) (by decide) kt) ?_
    show own_G p.tables e below _ (T64.setTop (mkF m 242 #[.val (.int p0), .val (.int p1), .val (.int p2), .val (.int p3), .val (.int (own_n x0)), .val (.int (own_n x1)), .val (.int (own_n x2)), .val (.int (own_n x3)), .val (.int (own_n x4)), .val (.int (own_n x5)), .val (.int (own_n x6)), .val (.int (own_n x7)), .val (.int (own_n x8)), .val (.ref b44), .val (.ref b49), .val (.int (own_n (own_rt a2 b2 c2 d2 x6))), .val (.int (1 : Int32)), .val (.int (own_n (own_rt a4 b4 c4 d4 x7))), .val (.int (own_n (own_rt a4 b4 c4 d4 x8))), .unset, .unset] []))
    refine own_go (fun _ kt => XS.aload X64.here hx rfl (hb hby at_242) rfl rfl kt) ?_
    show own_G p.tables e below _ (T64.setTop (mkF m 244 #[.val (.int p0), .val (.int p1), .val (.int p2), .val (.int p3), .val (.int (own_n x0)), .val (.int (own_n x1)), .val (.int (own_n x2)), .val (.int (own_n x3)), .val (.int (own_n x4)), .val (.int (own_n x5)), .val (.int (own_n x6)), .val (.int (own_n x7)), .val (.int (own_n x8)), .val (.ref b44), .val (.ref b49), .val (.int (own_n (own_rt a2 b2 c2 d2 x6))), .val (.int (1 : Int32)), .val (.int (own_n (own_rt a4 b4 c4 d4 x7))), .val (.int (own_n (own_rt a4 b4 c4 d4 x8))), .unset, .unset] [(.ref b44)]))
    refine own_go (fun _ kt => XS.iload X64.here hx rfl (hb hby at_244) rfl kt) ?_
    show own_G p.tables e below _ (T64.setTop (mkF m 246 #[.val (.int p0), .val (.int p1), .val (.int p2), .val (.int p3), .val (.int (own_n x0)), .val (.int (own_n x1)), .val (.int (own_n x2)), .val (.int (own_n x3)), .val (.int (own_n x4)), .val (.int (own_n x5)), .val (.int (own_n x6)), .val (.int (own_n x7)), .val (.int (own_n x8)), .val (.ref b44), .val (.ref b49), .val (.int (own_n (own_rt a2 b2 c2 d2 x6))), .val (.int (1 : Int32)), .val (.int (own_n (own_rt a4 b4 c4 d4 x7))), .val (.int (own_n (own_rt a4 b4 c4 d4 x8))), .unset, .unset] [(.int (own_n (own_rt a4 b4 c4 d4 x7))), (.ref b44)]))
    have u65 := ((Vm4.keep Kq63 (ninS nw nin0)).keep Kq64 (ninS nw nin0))
    refine own_go (own_ldI X64 hx hZ rfl u65 (j := (own_n (own_rt a4 b4 c4 d4 x7))) (v := (.int (own_n (own_f ea4 eb4 ec4 ed4 (own_rt a4 b4 c4 d4 x7))))) (own_nb _).1 (own_nb _).2 (own_at _ _ _ _ _) (g := (mkF m 246 #[.val (.int p0), .val (.int p1), .val (.int p2), .val (.int p3), .val (.int (own_n x0)), .val (.int (own_n x1)), .val (.int (own_n x2)), .val (.int (own_n x3)), .val (.int (own_n x4)), .val (.int (own_n x5)), .val (.int (own_n x6)), .val (.int (own_n x7)), .val (.int (own_n x8)), .val (.ref b44), .val (.ref b49), .val (.int (own_n (own_rt a2 b2 c2 d2 x6))), .val (.int (1 : Int32)), .val (.int (own_n (own_rt a4 b4 c4 d4 x7))), .val (.int (own_n (own_rt a4 b4 c4 d4 x8))), .unset, .unset] [(.int (own_n (own_rt a4 b4 c4 d4 x7))), (.ref b44)])) rfl rfl (hb hby at_246)) ?_
    show own_G p.tables e below _ (T64.setTop (mkF m 247 #[.val (.int p0), .val (.int p1), .val (.int p2), .val (.int p3), .val (.int (own_n x0)), .val (.int (own_n x1)), .val (.int (own_n x2)), .val (.int (own_n x3)), .val (.int (own_n x4)), .val (.int (own_n x5)), .val (.int (own_n x6)), .val (.int (own_n x7)), .val (.int (own_n x8)), .val (.ref b44), .val (.ref b49), .val (.int (own_n (own_rt a2 b2 c2 d2 x6))), .val (.int (1 : Int32)), .val (.int (own_n (own_rt a4 b4 c4 d4 x7))), .val (.int (own_n (own_rt a4 b4 c4 d4 x8))), .unset, .unset] [(.int (own_n (own_f ea4 eb4 ec4 ed4 (own_rt a4 b4 c4 d4 x7))))]))
    refine own_go (fun _ kt => XS.aload X64.here hx rfl (hb hby at_247) rfl rfl kt) ?_
    show own_G p.tables e below _ (T64.setTop (mkF m 249 #[.val (.int p0), .val (.int p1), .val (.int p2), .val (.int p3), .val (.int (own_n x0)), .val (.int (own_n x1)), .val (.int (own_n x2)), .val (.int (own_n x3)), .val (.int (own_n x4)), .val (.int (own_n x5)), .val (.int (own_n x6)), .val (.int (own_n x7)), .val (.int (own_n x8)), .val (.ref b44), .val (.ref b49), .val (.int (own_n (own_rt a2 b2 c2 d2 x6))), .val (.int (1 : Int32)), .val (.int (own_n (own_rt a4 b4 c4 d4 x7))), .val (.int (own_n (own_rt a4 b4 c4 d4 x8))), .unset, .unset] [(.ref b44), (.int (own_n (own_f ea4 eb4 ec4 ed4 (own_rt a4 b4 c4 d4 x7))))]))
    refine own_go (fun _ kt => XS.iload X64.here hx rfl (hb hby at_249) rfl kt) ?_
    show own_G p.tables e below _ (T64.setTop (mkF m 251 #[.val (.int p0), .val (.int p1), .val (.int p2), .val (.int p3), .val (.int (own_n x0)), .val (.int (own_n x1)), .val (.int (own_n x2)), .val (.int (own_n x3)), .val (.int (own_n x4)), .val (.int (own_n x5)), .val (.int (own_n x6)), .val (.int (own_n x7)), .val (.int (own_n x8)), .val (.ref b44), .val (.ref b49), .val (.int (own_n (own_rt a2 b2 c2 d2 x6))), .val (.int (1 : Int32)), .val (.int (own_n (own_rt a4 b4 c4 d4 x7))), .val (.int (own_n (own_rt a4 b4 c4 d4 x8))), .unset, .unset] [(.int (own_n x7)), (.ref b44), (.int (own_n (own_f ea4 eb4 ec4 ed4 (own_rt a4 b4 c4 d4 x7))))]))
    refine own_go (own_ldI X64 hx hZ rfl u65 (j := (own_n x7)) (v := (.int (own_n (own_f ea4 eb4 ec4 ed4 x7)))) (own_nb _).1 (own_nb _).2 (own_at _ _ _ _ _) (g := (mkF m 251 #[.val (.int p0), .val (.int p1), .val (.int p2), .val (.int p3), .val (.int (own_n x0)), .val (.int (own_n x1)), .val (.int (own_n x2)), .val (.int (own_n x3)), .val (.int (own_n x4)), .val (.int (own_n x5)), .val (.int (own_n x6)), .val (.int (own_n x7)), .val (.int (own_n x8)), .val (.ref b44), .val (.ref b49), .val (.int (own_n (own_rt a2 b2 c2 d2 x6))), .val (.int (1 : Int32)), .val (.int (own_n (own_rt a4 b4 c4 d4 x7))), .val (.int (own_n (own_rt a4 b4 c4 d4 x8))), .unset, .unset] [(.int (own_n x7)), (.ref b44), (.int (own_n (own_f ea4 eb4 ec4 ed4 (own_rt a4 b4 c4 d4 x7))))])) rfl rfl (hb hby at_251)) ?_
    show own_G p.tables e below _ (T64.setTop (mkF m 252 #[.val (.int p0), .val (.int p1), .val (.int p2), .val (.int p3), .val (.int (own_n x0)), .val (.int (own_n x1)), .val (.int (own_n x2)), .val (.int (own_n x3)), .val (.int (own_n x4)), .val (.int (own_n x5)), .val (.int (own_n x6)), .val (.int (own_n x7)), .val (.int (own_n x8)), .val (.ref b44), .val (.ref b49), .val (.int (own_n (own_rt a2 b2 c2 d2 x6))), .val (.int (1 : Int32)), .val (.int (own_n (own_rt a4 b4 c4 d4 x7))), .val (.int (own_n (own_rt a4 b4 c4 d4 x8))), .unset, .unset] [(.int (own_n (own_f ea4 eb4 ec4 ed4 x7))), (.int (own_n (own_f ea4 eb4 ec4 ed4 (own_rt a4 b4 c4 d4 x7))))]))
    refine own_go (fun _ kt => XS.icmpNo X64.here hx rfl (hb hby at_252) rfl (teq (congrArg own_n ((Sm4 _ _).mp (own_idem Dm4.2.2.2.2.2.2 _)) : (own_n (own_f ea4 eb4 ec4 ed4 (own_rt a4 b4 c4 d4 x7))) = (own_n (own_f ea4 eb4 ec4 ed4 x7)))).2 kt) ?_
    show own_G p.tables e below _ (T64.setTop (mkF m 255 #[.val (.int p0), .val (.int p1), .val (.int p2), .val (.int p3), .val (.int (own_n x0)), .val (.int (own_n x1)), .val (.int (own_n x2)), .val (.int (own_n x3)), .val (.int (own_n x4)), .val (.int (own_n x5)), .val (.int (own_n x6)), .val (.int (own_n x7)), .val (.int (own_n x8)), .val (.ref b44), .val (.ref b49), .val (.int (own_n (own_rt a2 b2 c2 d2 x6))), .val (.int (1 : Int32)), .val (.int (own_n (own_rt a4 b4 c4 d4 x7))), .val (.int (own_n (own_rt a4 b4 c4 d4 x8))), .unset, .unset] []))
    refine own_go (fun _ kt => XS.aload X64.here hx rfl (hb hby at_255) rfl rfl kt) ?_
    show own_G p.tables e below _ (T64.setTop (mkF m 257 #[.val (.int p0), .val (.int p1), .val (.int p2), .val (.int p3), .val (.int (own_n x0)), .val (.int (own_n x1)), .val (.int (own_n x2)), .val (.int (own_n x3)), .val (.int (own_n x4)), .val (.int (own_n x5)), .val (.int (own_n x6)), .val (.int (own_n x7)), .val (.int (own_n x8)), .val (.ref b44), .val (.ref b49), .val (.int (own_n (own_rt a2 b2 c2 d2 x6))), .val (.int (1 : Int32)), .val (.int (own_n (own_rt a4 b4 c4 d4 x7))), .val (.int (own_n (own_rt a4 b4 c4 d4 x8))), .unset, .unset] [(.ref b44)]))
    refine own_go (fun _ kt => XS.iload X64.here hx rfl (hb hby at_257) rfl kt) ?_
    show own_G p.tables e below _ (T64.setTop (mkF m 259 #[.val (.int p0), .val (.int p1), .val (.int p2), .val (.int p3), .val (.int (own_n x0)), .val (.int (own_n x1)), .val (.int (own_n x2)), .val (.int (own_n x3)), .val (.int (own_n x4)), .val (.int (own_n x5)), .val (.int (own_n x6)), .val (.int (own_n x7)), .val (.int (own_n x8)), .val (.ref b44), .val (.ref b49), .val (.int (own_n (own_rt a2 b2 c2 d2 x6))), .val (.int (1 : Int32)), .val (.int (own_n (own_rt a4 b4 c4 d4 x7))), .val (.int (own_n (own_rt a4 b4 c4 d4 x8))), .unset, .unset] [(.int (own_n (own_rt a4 b4 c4 d4 x8))), (.ref b44)]))
    refine own_go (own_ldI X64 hx hZ rfl u65 (j := (own_n (own_rt a4 b4 c4 d4 x8))) (v := (.int (own_n (own_f ea4 eb4 ec4 ed4 (own_rt a4 b4 c4 d4 x8))))) (own_nb _).1 (own_nb _).2 (own_at _ _ _ _ _) (g := (mkF m 259 #[.val (.int p0), .val (.int p1), .val (.int p2), .val (.int p3), .val (.int (own_n x0)), .val (.int (own_n x1)), .val (.int (own_n x2)), .val (.int (own_n x3)), .val (.int (own_n x4)), .val (.int (own_n x5)), .val (.int (own_n x6)), .val (.int (own_n x7)), .val (.int (own_n x8)), .val (.ref b44), .val (.ref b49), .val (.int (own_n (own_rt a2 b2 c2 d2 x6))), .val (.int (1 : Int32)), .val (.int (own_n (own_rt a4 b4 c4 d4 x7))), .val (.int (own_n (own_rt a4 b4 c4 d4 x8))), .unset, .unset] [(.int (own_n (own_rt a4 b4 c4 d4 x8))), (.ref b44)])) rfl rfl (hb hby at_259)) ?_
    show own_G p.tables e below _ (T64.setTop (mkF m 260 #[.val (.int p0), .val (.int p1), .val (.int p2), .val (.int p3), .val (.int (own_n x0)), .val (.int (own_n x1)), .val (.int (own_n x2)), .val (.int (own_n x3)), .val (.int (own_n x4)), .val (.int (own_n x5)), .val (.int (own_n x6)), .val (.int (own_n x7)), .val (.int (own_n x8)), .val (.ref b44), .val (.ref b49), .val (.int (own_n (own_rt a2 b2 c2 d2 x6))), .val (.int (1 : Int32)), .val (.int (own_n (own_rt a4 b4 c4 d4 x7))), .val (.int (own_n (own_rt a4 b4 c4 d4 x8))), .unset, .unset] [(.int (own_n (own_f ea4 eb4 ec4 ed4 (own_rt a4 b4 c4 d4 x8))))]))
    refine own_go (fun _ kt => XS.aload X64.here hx rfl (hb hby at_260) rfl rfl kt) ?_
    show own_G p.tables e below _ (T64.setTop (mkF m 262 #[.val (.int p0), .val (.int p1), .val (.int p2), .val (.int p3), .val (.int (own_n x0)), .val (.int (own_n x1)), .val (.int (own_n x2)), .val (.int (own_n x3)), .val (.int (own_n x4)), .val (.int (own_n x5)), .val (.int (own_n x6)), .val (.int (own_n x7)), .val (.int (own_n x8)), .val (.ref b44), .val (.ref b49), .val (.int (own_n (own_rt a2 b2 c2 d2 x6))), .val (.int (1 : Int32)), .val (.int (own_n (own_rt a4 b4 c4 d4 x7))), .val (.int (own_n (own_rt a4 b4 c4 d4 x8))), .unset, .unset] [(.ref b44), (.int (own_n (own_f ea4 eb4 ec4 ed4 (own_rt a4 b4 c4 d4 x8))))]))
    refine own_go (fun _ kt => XS.iload X64.here hx rfl (hb hby at_262) rfl kt) ?_
    show own_G p.tables e below _ (T64.setTop (mkF m 264 #[.val (.int p0), .val (.int p1), .val (.int p2), .val (.int p3), .val (.int (own_n x0)), .val (.int (own_n x1)), .val (.int (own_n x2)), .val (.int (own_n x3)), .val (.int (own_n x4)), .val (.int (own_n x5)), .val (.int (own_n x6)), .val (.int (own_n x7)), .val (.int (own_n x8)), .val (.ref b44), .val (.ref b49), .val (.int (own_n (own_rt a2 b2 c2 d2 x6))), .val (.int (1 : Int32)), .val (.int (own_n (own_rt a4 b4 c4 d4 x7))), .val (.int (own_n (own_rt a4 b4 c4 d4 x8))), .unset, .unset] [(.int (own_n x8)), (.ref b44), (.int (own_n (own_f ea4 eb4 ec4 ed4 (own_rt a4 b4 c4 d4 x8))))]))
    refine own_go (own_ldI X64 hx hZ rfl u65 (j := (own_n x8)) (v := (.int (own_n (own_f ea4 eb4 ec4 ed4 x8)))) (own_nb _).1 (own_nb _).2 (own_at _ _ _ _ _) (g := (mkF m 264 #[.val (.int p0), .val (.int p1), .val (.int p2), .val (.int p3), .val (.int (own_n x0)), .val (.int (own_n x1)), .val (.int (own_n x2)), .val (.int (own_n x3)), .val (.int (own_n x4)), .val (.int (own_n x5)), .val (.int (own_n x6)), .val (.int (own_n x7)), .val (.int (own_n x8)), .val (.ref b44), .val (.ref b49), .val (.int (own_n (own_rt a2 b2 c2 d2 x6))), .val (.int (1 : Int32)), .val (.int (own_n (own_rt a4 b4 c4 d4 x7))), .val (.int (own_n (own_rt a4 b4 c4 d4 x8))), .unset, .unset] [(.int (own_n x8)), (.ref b44), (.int (own_n (own_f ea4 eb4 ec4 ed4 (own_rt a4 b4 c4 d4 x8))))])) rfl rfl (hb hby at_264)) ?_
    show own_G p.tables e below _ (T64.setTop (mkF m 265 #[.val (.int p0), .val (.int p1), .val (.int p2), .val (.int p3), .val (.int (own_n x0)), .val (.int (own_n x1)), .val (.int (own_n x2)), .val (.int (own_n x3)), .val (.int (own_n x4)), .val (.int (own_n x5)), .val (.int (own_n x6)), .val (.int (own_n x7)), .val (.int (own_n x8)), .val (.ref b44), .val (.ref b49), .val (.int (own_n (own_rt a2 b2 c2 d2 x6))), .val (.int (1 : Int32)), .val (.int (own_n (own_rt a4 b4 c4 d4 x7))), .val (.int (own_n (own_rt a4 b4 c4 d4 x8))), .unset, .unset] [(.int (own_n (own_f ea4 eb4 ec4 ed4 x8))), (.int (own_n (own_f ea4 eb4 ec4 ed4 (own_rt a4 b4 c4 d4 x8))))]))
    refine own_go (fun _ kt => XS.icmpNo X64.here hx rfl (hb hby at_265) rfl (teq (congrArg own_n ((Sm4 _ _).mp (own_idem Dm4.2.2.2.2.2.2 _)) : (own_n (own_f ea4 eb4 ec4 ed4 (own_rt a4 b4 c4 d4 x8))) = (own_n (own_f ea4 eb4 ec4 ed4 x8)))).2 kt) ?_
    show own_G p.tables e below _ (T64.setTop (mkF m 268 #[.val (.int p0), .val (.int p1), .val (.int p2), .val (.int p3), .val (.int (own_n x0)), .val (.int (own_n x1)), .val (.int (own_n x2)), .val (.int (own_n x3)), .val (.int (own_n x4)), .val (.int (own_n x5)), .val (.int (own_n x6)), .val (.int (own_n x7)), .val (.int (own_n x8)), .val (.ref b44), .val (.ref b49), .val (.int (own_n (own_rt a2 b2 c2 d2 x6))), .val (.int (1 : Int32)), .val (.int (own_n (own_rt a4 b4 c4 d4 x7))), .val (.int (own_n (own_rt a4 b4 c4 d4 x8))), .unset, .unset] []))
    refine own_go (fun _ kt => XS.iload X64.here hx rfl (hb hby at_268) rfl kt) ?_
    show own_G p.tables e below _ (T64.setTop (mkF m 270 #[.val (.int p0), .val (.int p1), .val (.int p2), .val (.int p3), .val (.int (own_n x0)), .val (.int (own_n x1)), .val (.int (own_n x2)), .val (.int (own_n x3)), .val (.int (own_n x4)), .val (.int (own_n x5)), .val (.int (own_n x6)), .val (.int (own_n x7)), .val (.int (own_n x8)), .val (.ref b44), .val (.ref b49), .val (.int (own_n (own_rt a2 b2 c2 d2 x6))), .val (.int (1 : Int32)), .val (.int (own_n (own_rt a4 b4 c4 d4 x7))), .val (.int (own_n (own_rt a4 b4 c4 d4 x8))), .unset, .unset] [(.int (own_n (own_rt a4 b4 c4 d4 x7)))]))
    refine own_go (fun _ kt => XS.iload X64.here hx rfl (hb hby at_270) rfl kt) ?_
    by_cases he : (own_n (own_rt a4 b4 c4 d4 x7)) = (own_n (own_rt a4 b4 c4 d4 x8))
    · show own_G p.tables e below _ (T64.setTop (mkF m 272 #[.val (.int p0), .val (.int p1), .val (.int p2), .val (.int p3), .val (.int (own_n x0)), .val (.int (own_n x1)), .val (.int (own_n x2)), .val (.int (own_n x3)), .val (.int (own_n x4)), .val (.int (own_n x5)), .val (.int (own_n x6)), .val (.int (own_n x7)), .val (.int (own_n x8)), .val (.ref b44), .val (.ref b49), .val (.int (own_n (own_rt a2 b2 c2 d2 x6))), .val (.int (1 : Int32)), .val (.int (own_n (own_rt a4 b4 c4 d4 x7))), .val (.int (own_n (own_rt a4 b4 c4 d4 x8))), .unset, .unset] [(.int (own_n (own_rt a4 b4 c4 d4 x8))), (.int (own_n (own_rt a4 b4 c4 d4 x7)))]))
      refine own_go (fun _ kt => XS.icmpNo X64.here hx rfl (hb hby at_272) rfl (teq (he : (own_n (own_rt a4 b4 c4 d4 x7)) = (own_n (own_rt a4 b4 c4 d4 x8)))).2 kt) ?_
      show own_G p.tables e below _ (T64.setTop (mkF m 275 #[.val (.int p0), .val (.int p1), .val (.int p2), .val (.int p3), .val (.int (own_n x0)), .val (.int (own_n x1)), .val (.int (own_n x2)), .val (.int (own_n x3)), .val (.int (own_n x4)), .val (.int (own_n x5)), .val (.int (own_n x6)), .val (.int (own_n x7)), .val (.int (own_n x8)), .val (.ref b44), .val (.ref b49), .val (.int (own_n (own_rt a2 b2 c2 d2 x6))), .val (.int (1 : Int32)), .val (.int (own_n (own_rt a4 b4 c4 d4 x7))), .val (.int (own_n (own_rt a4 b4 c4 d4 x8))), .unset, .unset] []))
      refine own_go (fun _ kt => XS.iconst X64.here hx rfl (hb hby at_275) kt) ?_
      show own_G p.tables e below _ (T64.setTop (mkF m 276 #[.val (.int p0), .val (.int p1), .val (.int p2), .val (.int p3), .val (.int (own_n x0)), .val (.int (own_n x1)), .val (.int (own_n x2)), .val (.int (own_n x3)), .val (.int (own_n x4)), .val (.int (own_n x5)), .val (.int (own_n x6)), .val (.int (own_n x7)), .val (.int (own_n x8)), .val (.ref b44), .val (.ref b49), .val (.int (own_n (own_rt a2 b2 c2 d2 x6))), .val (.int (1 : Int32)), .val (.int (own_n (own_rt a4 b4 c4 d4 x7))), .val (.int (own_n (own_rt a4 b4 c4 d4 x8))), .unset, .unset] [(.int (1 : Int32))]))
      refine own_go (fun _ kt => XS.goto X64.here hx rfl (pc0 := 276) (pc' := 280) rfl (hb hby at_276) (by decide) (by decide) kt) ?_
      show own_G p.tables e below _ (T64.setTop (mkF m 280 #[.val (.int p0), .val (.int p1), .val (.int p2), .val (.int p3), .val (.int (own_n x0)), .val (.int (own_n x1)), .val (.int (own_n x2)), .val (.int (own_n x3)), .val (.int (own_n x4)), .val (.int (own_n x5)), .val (.int (own_n x6)), .val (.int (own_n x7)), .val (.int (own_n x8)), .val (.ref b44), .val (.ref b49), .val (.int (own_n (own_rt a2 b2 c2 d2 x6))), .val (.int (1 : Int32)), .val (.int (own_n (own_rt a4 b4 c4 d4 x7))), .val (.int (own_n (own_rt a4 b4 c4 d4 x8))), .unset, .unset] [(.int (1 : Int32))]))
      refine own_go (fun _ kt => XS.aload X64.here hx rfl (hb hby at_280) rfl rfl kt) ?_
      show own_G p.tables e below _ (T64.setTop (mkF m 282 #[.val (.int p0), .val (.int p1), .val (.int p2), .val (.int p3), .val (.int (own_n x0)), .val (.int (own_n x1)), .val (.int (own_n x2)), .val (.int (own_n x3)), .val (.int (own_n x4)), .val (.int (own_n x5)), .val (.int (own_n x6)), .val (.int (own_n x7)), .val (.int (own_n x8)), .val (.ref b44), .val (.ref b49), .val (.int (own_n (own_rt a2 b2 c2 d2 x6))), .val (.int (1 : Int32)), .val (.int (own_n (own_rt a4 b4 c4 d4 x7))), .val (.int (own_n (own_rt a4 b4 c4 d4 x8))), .unset, .unset] [(.ref b44), (.int (1 : Int32))]))
      refine own_go (fun _ kt => XS.iload X64.here hx rfl (hb hby at_282) rfl kt) ?_
      show own_G p.tables e below _ (T64.setTop (mkF m 284 #[.val (.int p0), .val (.int p1), .val (.int p2), .val (.int p3), .val (.int (own_n x0)), .val (.int (own_n x1)), .val (.int (own_n x2)), .val (.int (own_n x3)), .val (.int (own_n x4)), .val (.int (own_n x5)), .val (.int (own_n x6)), .val (.int (own_n x7)), .val (.int (own_n x8)), .val (.ref b44), .val (.ref b49), .val (.int (own_n (own_rt a2 b2 c2 d2 x6))), .val (.int (1 : Int32)), .val (.int (own_n (own_rt a4 b4 c4 d4 x7))), .val (.int (own_n (own_rt a4 b4 c4 d4 x8))), .unset, .unset] [(.int (own_n x7)), (.ref b44), (.int (1 : Int32))]))
      refine own_go (own_ldI X64 hx hZ rfl u65 (j := (own_n x7)) (v := (.int (own_n (own_f ea4 eb4 ec4 ed4 x7)))) (own_nb _).1 (own_nb _).2 (own_at _ _ _ _ _) (g := (mkF m 284 #[.val (.int p0), .val (.int p1), .val (.int p2), .val (.int p3), .val (.int (own_n x0)), .val (.int (own_n x1)), .val (.int (own_n x2)), .val (.int (own_n x3)), .val (.int (own_n x4)), .val (.int (own_n x5)), .val (.int (own_n x6)), .val (.int (own_n x7)), .val (.int (own_n x8)), .val (.ref b44), .val (.ref b49), .val (.int (own_n (own_rt a2 b2 c2 d2 x6))), .val (.int (1 : Int32)), .val (.int (own_n (own_rt a4 b4 c4 d4 x7))), .val (.int (own_n (own_rt a4 b4 c4 d4 x8))), .unset, .unset] [(.int (own_n x7)), (.ref b44), (.int (1 : Int32))])) rfl rfl (hb hby at_284)) ?_
      show own_G p.tables e below _ (T64.setTop (mkF m 285 #[.val (.int p0), .val (.int p1), .val (.int p2), .val (.int p3), .val (.int (own_n x0)), .val (.int (own_n x1)), .val (.int (own_n x2)), .val (.int (own_n x3)), .val (.int (own_n x4)), .val (.int (own_n x5)), .val (.int (own_n x6)), .val (.int (own_n x7)), .val (.int (own_n x8)), .val (.ref b44), .val (.ref b49), .val (.int (own_n (own_rt a2 b2 c2 d2 x6))), .val (.int (1 : Int32)), .val (.int (own_n (own_rt a4 b4 c4 d4 x7))), .val (.int (own_n (own_rt a4 b4 c4 d4 x8))), .unset, .unset] [(.int (own_n (own_f ea4 eb4 ec4 ed4 x7))), (.int (1 : Int32))]))
      refine own_go (fun _ kt => XS.aload X64.here hx rfl (hb hby at_285) rfl rfl kt) ?_
      show own_G p.tables e below _ (T64.setTop (mkF m 287 #[.val (.int p0), .val (.int p1), .val (.int p2), .val (.int p3), .val (.int (own_n x0)), .val (.int (own_n x1)), .val (.int (own_n x2)), .val (.int (own_n x3)), .val (.int (own_n x4)), .val (.int (own_n x5)), .val (.int (own_n x6)), .val (.int (own_n x7)), .val (.int (own_n x8)), .val (.ref b44), .val (.ref b49), .val (.int (own_n (own_rt a2 b2 c2 d2 x6))), .val (.int (1 : Int32)), .val (.int (own_n (own_rt a4 b4 c4 d4 x7))), .val (.int (own_n (own_rt a4 b4 c4 d4 x8))), .unset, .unset] [(.ref b44), (.int (own_n (own_f ea4 eb4 ec4 ed4 x7))), (.int (1 : Int32))]))
      refine own_go (fun _ kt => XS.iload X64.here hx rfl (hb hby at_287) rfl kt) ?_
      show own_G p.tables e below _ (T64.setTop (mkF m 289 #[.val (.int p0), .val (.int p1), .val (.int p2), .val (.int p3), .val (.int (own_n x0)), .val (.int (own_n x1)), .val (.int (own_n x2)), .val (.int (own_n x3)), .val (.int (own_n x4)), .val (.int (own_n x5)), .val (.int (own_n x6)), .val (.int (own_n x7)), .val (.int (own_n x8)), .val (.ref b44), .val (.ref b49), .val (.int (own_n (own_rt a2 b2 c2 d2 x6))), .val (.int (1 : Int32)), .val (.int (own_n (own_rt a4 b4 c4 d4 x7))), .val (.int (own_n (own_rt a4 b4 c4 d4 x8))), .unset, .unset] [(.int (own_n x8)), (.ref b44), (.int (own_n (own_f ea4 eb4 ec4 ed4 x7))), (.int (1 : Int32))]))
      refine own_go (own_ldI X64 hx hZ rfl u65 (j := (own_n x8)) (v := (.int (own_n (own_f ea4 eb4 ec4 ed4 x8)))) (own_nb _).1 (own_nb _).2 (own_at _ _ _ _ _) (g := (mkF m 289 #[.val (.int p0), .val (.int p1), .val (.int p2), .val (.int p3), .val (.int (own_n x0)), .val (.int (own_n x1)), .val (.int (own_n x2)), .val (.int (own_n x3)), .val (.int (own_n x4)), .val (.int (own_n x5)), .val (.int (own_n x6)), .val (.int (own_n x7)), .val (.int (own_n x8)), .val (.ref b44), .val (.ref b49), .val (.int (own_n (own_rt a2 b2 c2 d2 x6))), .val (.int (1 : Int32)), .val (.int (own_n (own_rt a4 b4 c4 d4 x7))), .val (.int (own_n (own_rt a4 b4 c4 d4 x8))), .unset, .unset] [(.int (own_n x8)), (.ref b44), (.int (own_n (own_f ea4 eb4 ec4 ed4 x7))), (.int (1 : Int32))])) rfl rfl (hb hby at_289)) ?_
      show own_G p.tables e below _ (T64.setTop (mkF m 290 #[.val (.int p0), .val (.int p1), .val (.int p2), .val (.int p3), .val (.int (own_n x0)), .val (.int (own_n x1)), .val (.int (own_n x2)), .val (.int (own_n x3)), .val (.int (own_n x4)), .val (.int (own_n x5)), .val (.int (own_n x6)), .val (.int (own_n x7)), .val (.int (own_n x8)), .val (.ref b44), .val (.ref b49), .val (.int (own_n (own_rt a2 b2 c2 d2 x6))), .val (.int (1 : Int32)), .val (.int (own_n (own_rt a4 b4 c4 d4 x7))), .val (.int (own_n (own_rt a4 b4 c4 d4 x8))), .unset, .unset] [(.int (own_n (own_f ea4 eb4 ec4 ed4 x8))), (.int (own_n (own_f ea4 eb4 ec4 ed4 x7))), (.int (1 : Int32))]))
      refine own_go (fun _ kt => XS.icmpNo X64.here hx rfl (hb hby at_290) rfl (teq (congrArg own_n ((Sm4 _ _).mp (own_inj _ _ he)) : (own_n (own_f ea4 eb4 ec4 ed4 x7)) = (own_n (own_f ea4 eb4 ec4 ed4 x8)))).2 kt) ?_
      show own_G p.tables e below _ (T64.setTop (mkF m 293 #[.val (.int p0), .val (.int p1), .val (.int p2), .val (.int p3), .val (.int (own_n x0)), .val (.int (own_n x1)), .val (.int (own_n x2)), .val (.int (own_n x3)), .val (.int (own_n x4)), .val (.int (own_n x5)), .val (.int (own_n x6)), .val (.int (own_n x7)), .val (.int (own_n x8)), .val (.ref b44), .val (.ref b49), .val (.int (own_n (own_rt a2 b2 c2 d2 x6))), .val (.int (1 : Int32)), .val (.int (own_n (own_rt a4 b4 c4 d4 x7))), .val (.int (own_n (own_rt a4 b4 c4 d4 x8))), .unset, .unset] [(.int (1 : Int32))]))
      refine own_go (fun _ kt => XS.iconst X64.here hx rfl (hb hby at_293) kt) ?_
      show own_G p.tables e below _ (T64.setTop (mkF m 294 #[.val (.int p0), .val (.int p1), .val (.int p2), .val (.int p3), .val (.int (own_n x0)), .val (.int (own_n x1)), .val (.int (own_n x2)), .val (.int (own_n x3)), .val (.int (own_n x4)), .val (.int (own_n x5)), .val (.int (own_n x6)), .val (.int (own_n x7)), .val (.int (own_n x8)), .val (.ref b44), .val (.ref b49), .val (.int (own_n (own_rt a2 b2 c2 d2 x6))), .val (.int (1 : Int32)), .val (.int (own_n (own_rt a4 b4 c4 d4 x7))), .val (.int (own_n (own_rt a4 b4 c4 d4 x8))), .unset, .unset] [(.int (1 : Int32)), (.int (1 : Int32))]))
      refine own_go (fun _ kt => XS.goto X64.here hx rfl (pc0 := 294) (pc' := 298) rfl (hb hby at_294) (by decide) (by decide) kt) ?_
      show own_G p.tables e below _ (T64.setTop (mkF m 298 #[.val (.int p0), .val (.int p1), .val (.int p2), .val (.int p3), .val (.int (own_n x0)), .val (.int (own_n x1)), .val (.int (own_n x2)), .val (.int (own_n x3)), .val (.int (own_n x4)), .val (.int (own_n x5)), .val (.int (own_n x6)), .val (.int (own_n x7)), .val (.int (own_n x8)), .val (.ref b44), .val (.ref b49), .val (.int (own_n (own_rt a2 b2 c2 d2 x6))), .val (.int (1 : Int32)), .val (.int (own_n (own_rt a4 b4 c4 d4 x7))), .val (.int (own_n (own_rt a4 b4 c4 d4 x8))), .unset, .unset] [(.int (1 : Int32)), (.int (1 : Int32))]))
      refine own_go (fun _ kt => XS.icmpNo X64.here hx rfl (hb hby at_298) rfl (teq (rfl : (1 : Int32) = (1 : Int32))).2 kt) ?_
      show own_G p.tables e below _ (T64.setTop (mkF m 301 #[.val (.int p0), .val (.int p1), .val (.int p2), .val (.int p3), .val (.int (own_n x0)), .val (.int (own_n x1)), .val (.int (own_n x2)), .val (.int (own_n x3)), .val (.int (own_n x4)), .val (.int (own_n x5)), .val (.int (own_n x6)), .val (.int (own_n x7)), .val (.int (own_n x8)), .val (.ref b44), .val (.ref b49), .val (.int (own_n (own_rt a2 b2 c2 d2 x6))), .val (.int (1 : Int32)), .val (.int (own_n (own_rt a4 b4 c4 d4 x7))), .val (.int (own_n (own_rt a4 b4 c4 d4 x8))), .unset, .unset] []))
      refine own_go (fun _ kt => XS.iconst X64.here hx rfl (hb hby at_301) kt) ?_
      show own_G p.tables e below _ (T64.setTop (mkF m 302 #[.val (.int p0), .val (.int p1), .val (.int p2), .val (.int p3), .val (.int (own_n x0)), .val (.int (own_n x1)), .val (.int (own_n x2)), .val (.int (own_n x3)), .val (.int (own_n x4)), .val (.int (own_n x5)), .val (.int (own_n x6)), .val (.int (own_n x7)), .val (.int (own_n x8)), .val (.ref b44), .val (.ref b49), .val (.int (own_n (own_rt a2 b2 c2 d2 x6))), .val (.int (1 : Int32)), .val (.int (own_n (own_rt a4 b4 c4 d4 x7))), .val (.int (own_n (own_rt a4 b4 c4 d4 x8))), .unset, .unset] [(.int (1 : Int32))]))
      refine own_go (fun _ kt => XS.goto X64.here hx rfl (pc0 := 302) (pc' := 306) rfl (hb hby at_302) (by decide) (by decide) kt) ?_
      show own_G p.tables e below _ (T64.setTop (mkF m 306 #[.val (.int p0), .val (.int p1), .val (.int p2), .val (.int p3), .val (.int (own_n x0)), .val (.int (own_n x1)), .val (.int (own_n x2)), .val (.int (own_n x3)), .val (.int (own_n x4)), .val (.int (own_n x5)), .val (.int (own_n x6)), .val (.int (own_n x7)), .val (.int (own_n x8)), .val (.ref b44), .val (.ref b49), .val (.int (own_n (own_rt a2 b2 c2 d2 x6))), .val (.int (1 : Int32)), .val (.int (own_n (own_rt a4 b4 c4 d4 x7))), .val (.int (own_n (own_rt a4 b4 c4 d4 x8))), .unset, .unset] [(.int (1 : Int32))]))
      refine own_go (fun _ kt => XS.istore X64.here hx rfl (hb hby at_306) rfl (l' := #[.val (.int p0), .val (.int p1), .val (.int p2), .val (.int p3), .val (.int (own_n x0)), .val (.int (own_n x1)), .val (.int (own_n x2)), .val (.int (own_n x3)), .val (.int (own_n x4)), .val (.int (own_n x5)), .val (.int (own_n x6)), .val (.int (own_n x7)), .val (.int (own_n x8)), .val (.ref b44), .val (.ref b49), .val (.int (own_n (own_rt a2 b2 c2 d2 x6))), .val (.int (1 : Int32)), .val (.int (own_n (own_rt a4 b4 c4 d4 x7))), .val (.int (own_n (own_rt a4 b4 c4 d4 x8))), .unset, .unset]) rfl kt) ?_
      show own_G p.tables e below _ (T64.setTop (mkF m 308 #[.val (.int p0), .val (.int p1), .val (.int p2), .val (.int p3), .val (.int (own_n x0)), .val (.int (own_n x1)), .val (.int (own_n x2)), .val (.int (own_n x3)), .val (.int (own_n x4)), .val (.int (own_n x5)), .val (.int (own_n x6)), .val (.int (own_n x7)), .val (.int (own_n x8)), .val (.ref b44), .val (.ref b49), .val (.int (own_n (own_rt a2 b2 c2 d2 x6))), .val (.int (1 : Int32)), .val (.int (own_n (own_rt a4 b4 c4 d4 x7))), .val (.int (own_n (own_rt a4 b4 c4 d4 x8))), .unset, .unset] []))
      refine own_go (fun _ kt => XS.aload X64.here hx rfl (hb hby at_308) rfl rfl kt) ?_
      show own_G p.tables e below _ (T64.setTop (mkF m 310 #[.val (.int p0), .val (.int p1), .val (.int p2), .val (.int p3), .val (.int (own_n x0)), .val (.int (own_n x1)), .val (.int (own_n x2)), .val (.int (own_n x3)), .val (.int (own_n x4)), .val (.int (own_n x5)), .val (.int (own_n x6)), .val (.int (own_n x7)), .val (.int (own_n x8)), .val (.ref b44), .val (.ref b49), .val (.int (own_n (own_rt a2 b2 c2 d2 x6))), .val (.int (1 : Int32)), .val (.int (own_n (own_rt a4 b4 c4 d4 x7))), .val (.int (own_n (own_rt a4 b4 c4 d4 x8))), .unset, .unset] [(.ref b49)]))
      refine own_go (fun _ kt => XS.iload X64.here hx rfl (hb hby at_310) rfl kt) ?_
      show own_G p.tables e below _ (T64.setTop (mkF m 312 #[.val (.int p0), .val (.int p1), .val (.int p2), .val (.int p3), .val (.int (own_n x0)), .val (.int (own_n x1)), .val (.int (own_n x2)), .val (.int (own_n x3)), .val (.int (own_n x4)), .val (.int (own_n x5)), .val (.int (own_n x6)), .val (.int (own_n x7)), .val (.int (own_n x8)), .val (.ref b44), .val (.ref b49), .val (.int (own_n (own_rt a2 b2 c2 d2 x6))), .val (.int (1 : Int32)), .val (.int (own_n (own_rt a4 b4 c4 d4 x7))), .val (.int (own_n (own_rt a4 b4 c4 d4 x8))), .unset, .unset] [(.int (own_n (own_rt a4 b4 c4 d4 x7))), (.ref b49)]))
      obtain ⟨cq66, kq66, q66a, q66b, q66c⟩ := isOf hZ rfl Dr6.1
      obtain ⟨_, _, ⟨T66, L66, k66, n66⟩, -, X66, ⟨Lc66, hQ66, l66, y66, z66⟩, st66⟩ := X64.virtualBack hx (y := (⟨"com/example/weftwork/weftwork/graph/DisjointSets", "root", "(I)I"⟩ : MethodName)) (z := (⟨"com/example/weftwork/weftwork/graph/DisjointSets", "root", "(I)I"⟩ : MethodName)) hown (mvT hZ (hw _ (List.mem_of_getElem? (i := 26) rfl))) (mvT hZ (hw _ (List.mem_of_getElem? (i := 18) rfl))) (notFace_of_selects (args := #[]) (mvT hZ (hw _ (List.mem_of_getElem? (i := 20) rfl)))) (mvT hZ (hw _ (List.mem_of_getElem? (i := 20) rfl))) (mvT hZ (hw _ (List.mem_of_getElem? (i := 19) rfl))) (by decide) (backOf (W := 0) (rm_root l Z a0 hw [] b49 (own_n (own_rt a4 b4 c4 d4 x7)) w a6 b6 c6 d6 (own_rt a4 b4 c4 d4 x7) T64.heap n0 Z64 rfl Dr6) hZ (hw _ (List.mem_of_getElem? (i := 21) rfl)) (hw _ (List.mem_of_getElem? (i := 3) rfl)) (by decide) (by decide)) q66a q66c (g := (mkF m 312 #[.val (.int p0), .val (.int p1), .val (.int p2), .val (.int p3), .val (.int (own_n x0)), .val (.int (own_n x1)), .val (.int (own_n x2)), .val (.int (own_n x3)), .val (.int (own_n x4)), .val (.int (own_n x5)), .val (.int (own_n x6)), .val (.int (own_n x7)), .val (.int (own_n x8)), .val (.ref b44), .val (.ref b49), .val (.int (own_n (own_rt a2 b2 c2 d2 x6))), .val (.int (1 : Int32)), .val (.int (own_n (own_rt a4 b4 c4 d4 x7))), .val (.int (own_n (own_rt a4 b4 c4 d4 x8))), .unset, .unset] [(.int (own_n (own_rt a4 b4 c4 d4 x7))), (.ref b49)])) rfl (by rw [hml]; rfl) (Steps.refl _) (argsL := [(.int (own_n (own_rt a4 b4 c4 d4 x7)))]) (rest := []) (lenOf pd__I_I rfl) rfl (by show 2 * 0 + _ ≤ _; exact Nat.le_of_eq rfl) (hb hby at_312) (fun _ _ => ⟨rfl, rfl, (Nat.le_of_ble_eq_true rfl), (Nat.le_of_ble_eq_true rfl)⟩)
      dsimp only [Pt.U, Pt.locs, Pt.cells, Pt.slots] at X66 l66 y66 z66 st66 hQ66
      subst l66 y66 z66
      obtain ⟨a7, b7, c7, d7, rfl, Nq66, Kq66, Dr7, hr7⟩ := hQ66
      have N66 := Fr.app N64 Nq66
      refine own_tr st66 ?_
      have Z66 : n0 ≤ T66.heap.size := Nat.le_trans Z64 Kq66.1
      show own_G p.tables e below _ (T66.setTop (mkF m 315 #[.val (.int p0), .val (.int p1), .val (.int p2), .val (.int p3), .val (.int (own_n x0)), .val (.int (own_n x1)), .val (.int (own_n x2)), .val (.int (own_n x3)), .val (.int (own_n x4)), .val (.int (own_n x5)), .val (.int (own_n x6)), .val (.int (own_n x7)), .val (.int (own_n x8)), .val (.ref b44), .val (.ref b49), .val (.int (own_n (own_rt a2 b2 c2 d2 x6))), .val (.int (1 : Int32)), .val (.int (own_n (own_rt a4 b4 c4 d4 x7))), .val (.int (own_n (own_rt a4 b4 c4 d4 x8))), .unset, .unset] [(.int (own_n (own_rt a6 b6 c6 d6 (own_rt a4 b4 c4 d4 x7))))]))
      refine own_go (fun _ kt => XS.istore X66.here hx rfl (hb hby at_315) rfl (l' := #[.val (.int p0), .val (.int p1), .val (.int p2), .val (.int p3), .val (.int (own_n x0)), .val (.int (own_n x1)), .val (.int (own_n x2)), .val (.int (own_n x3)), .val (.int (own_n x4)), .val (.int (own_n x5)), .val (.int (own_n x6)), .val (.int (own_n x7)), .val (.int (own_n x8)), .val (.ref b44), .val (.ref b49), .val (.int (own_n (own_rt a2 b2 c2 d2 x6))), .val (.int (1 : Int32)), .val (.int (own_n (own_rt a4 b4 c4 d4 x7))), .val (.int (own_n (own_rt a4 b4 c4 d4 x8))), .val (.int (own_n (own_rt a6 b6 c6 d6 (own_rt a4 b4 c4 d4 x7)))), .unset]) rfl kt) ?_
      show own_G p.tables e below _ (T66.setTop (mkF m 317 #[.val (.int p0), .val (.int p1), .val (.int p2), .val (.int p3), .val (.int (own_n x0)), .val (.int (own_n x1)), .val (.int (own_n x2)), .val (.int (own_n x3)), .val (.int (own_n x4)), .val (.int (own_n x5)), .val (.int (own_n x6)), .val (.int (own_n x7)), .val (.int (own_n x8)), .val (.ref b44), .val (.ref b49), .val (.int (own_n (own_rt a2 b2 c2 d2 x6))), .val (.int (1 : Int32)), .val (.int (own_n (own_rt a4 b4 c4 d4 x7))), .val (.int (own_n (own_rt a4 b4 c4 d4 x8))), .val (.int (own_n (own_rt a6 b6 c6 d6 (own_rt a4 b4 c4 d4 x7)))), .unset] []))
      refine own_go (fun _ kt => XS.aload X66.here hx rfl (hb hby at_317) rfl rfl kt) ?_
      show own_G p.tables e below _ (T66.setTop (mkF m 319 #[.val (.int p0), .val (.int p1), .val (.int p2), .val (.int p3), .val (.int (own_n x0)), .val (.int (own_n x1)), .val (.int (own_n x2)), .val (.int (own_n x3)), .val (.int (own_n x4)), .val (.int (own_n x5)), .val (.int (own_n x6)), .val (.int (own_n x7)), .val (.int (own_n x8)), .val (.ref b44), .val (.ref b49), .val (.int (own_n (own_rt a2 b2 c2 d2 x6))), .val (.int (1 : Int32)), .val (.int (own_n (own_rt a4 b4 c4 d4 x7))), .val (.int (own_n (own_rt a4 b4 c4 d4 x8))), .val (.int (own_n (own_rt a6 b6 c6 d6 (own_rt a4 b4 c4 d4 x7)))), .unset] [(.ref b49)]))
      refine own_go (fun _ kt => XS.iload X66.here hx rfl (hb hby at_319) rfl kt) ?_
      show own_G p.tables e below _ (T66.setTop (mkF m 321 #[.val (.int p0), .val (.int p1), .val (.int p2), .val (.int p3), .val (.int (own_n x0)), .val (.int (own_n x1)), .val (.int (own_n x2)), .val (.int (own_n x3)), .val (.int (own_n x4)), .val (.int (own_n x5)), .val (.int (own_n x6)), .val (.int (own_n x7)), .val (.int (own_n x8)), .val (.ref b44), .val (.ref b49), .val (.int (own_n (own_rt a2 b2 c2 d2 x6))), .val (.int (1 : Int32)), .val (.int (own_n (own_rt a4 b4 c4 d4 x7))), .val (.int (own_n (own_rt a4 b4 c4 d4 x8))), .val (.int (own_n (own_rt a6 b6 c6 d6 (own_rt a4 b4 c4 d4 x7)))), .unset] [(.int (own_n x7)), (.ref b49)]))
      obtain ⟨cq67, kq67, q67a, q67b, q67c⟩ := isOf hZ rfl Dr7.1
      obtain ⟨_, _, ⟨T67, L67, k67, n67⟩, -, X67, ⟨Lc67, hQ67, l67, y67, z67⟩, st67⟩ := X66.virtualBack hx (y := (⟨"com/example/weftwork/weftwork/graph/DisjointSets", "root", "(I)I"⟩ : MethodName)) (z := (⟨"com/example/weftwork/weftwork/graph/DisjointSets", "root", "(I)I"⟩ : MethodName)) hown (mvT hZ (hw _ (List.mem_of_getElem? (i := 26) rfl))) (mvT hZ (hw _ (List.mem_of_getElem? (i := 18) rfl))) (notFace_of_selects (args := #[]) (mvT hZ (hw _ (List.mem_of_getElem? (i := 20) rfl)))) (mvT hZ (hw _ (List.mem_of_getElem? (i := 20) rfl))) (mvT hZ (hw _ (List.mem_of_getElem? (i := 19) rfl))) (by decide) (backOf (W := 0) (rm_root l Z a0 hw [] b49 (own_n x7) w a7 b7 c7 d7 x7 T66.heap n0 Z66 rfl Dr7) hZ (hw _ (List.mem_of_getElem? (i := 21) rfl)) (hw _ (List.mem_of_getElem? (i := 3) rfl)) (by decide) (by decide)) q67a q67c (g := (mkF m 321 #[.val (.int p0), .val (.int p1), .val (.int p2), .val (.int p3), .val (.int (own_n x0)), .val (.int (own_n x1)), .val (.int (own_n x2)), .val (.int (own_n x3)), .val (.int (own_n x4)), .val (.int (own_n x5)), .val (.int (own_n x6)), .val (.int (own_n x7)), .val (.int (own_n x8)), .val (.ref b44), .val (.ref b49), .val (.int (own_n (own_rt a2 b2 c2 d2 x6))), .val (.int (1 : Int32)), .val (.int (own_n (own_rt a4 b4 c4 d4 x7))), .val (.int (own_n (own_rt a4 b4 c4 d4 x8))), .val (.int (own_n (own_rt a6 b6 c6 d6 (own_rt a4 b4 c4 d4 x7)))), .unset] [(.int (own_n x7)), (.ref b49)])) rfl (by rw [hml]; rfl) (Steps.refl _) (argsL := [(.int (own_n x7))]) (rest := []) (lenOf pd__I_I rfl) rfl (by show 2 * 0 + _ ≤ _; exact Nat.le_of_eq rfl) (hb hby at_321) (fun _ _ => ⟨rfl, rfl, (Nat.le_of_ble_eq_true rfl), (Nat.le_of_ble_eq_true rfl)⟩)
      dsimp only [Pt.U, Pt.locs, Pt.cells, Pt.slots] at X67 l67 y67 z67 st67 hQ67
      subst l67 y67 z67
      obtain ⟨a8, b8, c8, d8, rfl, Nq67, Kq67, Dr8, hr8⟩ := hQ67
      have N67 := Fr.app N66 Nq67
      refine own_tr st67 ?_
      have Z67 : n0 ≤ T67.heap.size := Nat.le_trans Z66 Kq67.1
      show own_G p.tables e below _ (T67.setTop (mkF m 324 #[.val (.int p0), .val (.int p1), .val (.int p2), .val (.int p3), .val (.int (own_n x0)), .val (.int (own_n x1)), .val (.int (own_n x2)), .val (.int (own_n x3)), .val (.int (own_n x4)), .val (.int (own_n x5)), .val (.int (own_n x6)), .val (.int (own_n x7)), .val (.int (own_n x8)), .val (.ref b44), .val (.ref b49), .val (.int (own_n (own_rt a2 b2 c2 d2 x6))), .val (.int (1 : Int32)), .val (.int (own_n (own_rt a4 b4 c4 d4 x7))), .val (.int (own_n (own_rt a4 b4 c4 d4 x8))), .val (.int (own_n (own_rt a6 b6 c6 d6 (own_rt a4 b4 c4 d4 x7)))), .unset] [(.int (own_n (own_rt a7 b7 c7 d7 x7)))]))
      refine own_go (fun _ kt => XS.istore X67.here hx rfl (hb hby at_324) rfl (l' := #[.val (.int p0), .val (.int p1), .val (.int p2), .val (.int p3), .val (.int (own_n x0)), .val (.int (own_n x1)), .val (.int (own_n x2)), .val (.int (own_n x3)), .val (.int (own_n x4)), .val (.int (own_n x5)), .val (.int (own_n x6)), .val (.int (own_n x7)), .val (.int (own_n x8)), .val (.ref b44), .val (.ref b49), .val (.int (own_n (own_rt a2 b2 c2 d2 x6))), .val (.int (1 : Int32)), .val (.int (own_n (own_rt a4 b4 c4 d4 x7))), .val (.int (own_n (own_rt a4 b4 c4 d4 x8))), .val (.int (own_n (own_rt a6 b6 c6 d6 (own_rt a4 b4 c4 d4 x7)))), .val (.int (own_n (own_rt a7 b7 c7 d7 x7)))]) rfl kt) ?_
      show own_G p.tables e below _ (T67.setTop (mkF m 326 #[.val (.int p0), .val (.int p1), .val (.int p2), .val (.int p3), .val (.int (own_n x0)), .val (.int (own_n x1)), .val (.int (own_n x2)), .val (.int (own_n x3)), .val (.int (own_n x4)), .val (.int (own_n x5)), .val (.int (own_n x6)), .val (.int (own_n x7)), .val (.int (own_n x8)), .val (.ref b44), .val (.ref b49), .val (.int (own_n (own_rt a2 b2 c2 d2 x6))), .val (.int (1 : Int32)), .val (.int (own_n (own_rt a4 b4 c4 d4 x7))), .val (.int (own_n (own_rt a4 b4 c4 d4 x8))), .val (.int (own_n (own_rt a6 b6 c6 d6 (own_rt a4 b4 c4 d4 x7)))), .val (.int (own_n (own_rt a7 b7 c7 d7 x7)))] []))
      refine own_go (fun _ kt => XS.iload X67.here hx rfl (hb hby at_326) rfl kt) ?_
      show own_G p.tables e below _ (T67.setTop (mkF m 328 #[.val (.int p0), .val (.int p1), .val (.int p2), .val (.int p3), .val (.int (own_n x0)), .val (.int (own_n x1)), .val (.int (own_n x2)), .val (.int (own_n x3)), .val (.int (own_n x4)), .val (.int (own_n x5)), .val (.int (own_n x6)), .val (.int (own_n x7)), .val (.int (own_n x8)), .val (.ref b44), .val (.ref b49), .val (.int (own_n (own_rt a2 b2 c2 d2 x6))), .val (.int (1 : Int32)), .val (.int (own_n (own_rt a4 b4 c4 d4 x7))), .val (.int (own_n (own_rt a4 b4 c4 d4 x8))), .val (.int (own_n (own_rt a6 b6 c6 d6 (own_rt a4 b4 c4 d4 x7)))), .val (.int (own_n (own_rt a7 b7 c7 d7 x7)))] [(.int (1 : Int32))]))
      refine own_go (fun _ kt => XS.ifNo X67.here hx rfl (hb hby at_328) rfl ((if0 _ _).trans (feq (by decide : ¬ ((1 : Int32) = (0 : Int32)))).1) kt) ?_
      show own_G p.tables e below _ (T67.setTop (mkF m 331 #[.val (.int p0), .val (.int p1), .val (.int p2), .val (.int p3), .val (.int (own_n x0)), .val (.int (own_n x1)), .val (.int (own_n x2)), .val (.int (own_n x3)), .val (.int (own_n x4)), .val (.int (own_n x5)), .val (.int (own_n x6)), .val (.int (own_n x7)), .val (.int (own_n x8)), .val (.ref b44), .val (.ref b49), .val (.int (own_n (own_rt a2 b2 c2 d2 x6))), .val (.int (1 : Int32)), .val (.int (own_n (own_rt a4 b4 c4 d4 x7))), .val (.int (own_n (own_rt a4 b4 c4 d4 x8))), .val (.int (own_n (own_rt a6 b6 c6 d6 (own_rt a4 b4 c4 d4 x7)))), .val (.int (own_n (own_rt a7 b7 c7 d7 x7)))] []))
      refine own_go (fun _ kt => XS.iload X67.here hx rfl (hb hby at_331) rfl kt) ?_
      show own_G p.tables e below _ (T67.setTop (mkF m 333 #[.val (.int p0), .val (.int p1), .val (.int p2), .val (.int p3), .val (.int (own_n x0)), .val (.int (own_n x1)), .val (.int (own_n x2)), .val (.int (own_n x3)), .val (.int (own_n x4)), .val (.int (own_n x5)), .val (.int (own_n x6)), .val (.int (own_n x7)), .val (.int (own_n x8)), .val (.ref b44), .val (.ref b49), .val (.int (own_n (own_rt a2 b2 c2 d2 x6))), .val (.int (1 : Int32)), .val (.int (own_n (own_rt a4 b4 c4 d4 x7))), .val (.int (own_n (own_rt a4 b4 c4 d4 x8))), .val (.int (own_n (own_rt a6 b6 c6 d6 (own_rt a4 b4 c4 d4 x7)))), .val (.int (own_n (own_rt a7 b7 c7 d7 x7)))] [(.int (own_n (own_rt a6 b6 c6 d6 (own_rt a4 b4 c4 d4 x7))))]))
      refine own_go (fun _ kt => XS.iload X67.here hx rfl (hb hby at_333) rfl kt) ?_
      show own_G p.tables e below _ (T67.setTop (mkF m 335 #[.val (.int p0), .val (.int p1), .val (.int p2), .val (.int p3), .val (.int (own_n x0)), .val (.int (own_n x1)), .val (.int (own_n x2)), .val (.int (own_n x3)), .val (.int (own_n x4)), .val (.int (own_n x5)), .val (.int (own_n x6)), .val (.int (own_n x7)), .val (.int (own_n x8)), .val (.ref b44), .val (.ref b49), .val (.int (own_n (own_rt a2 b2 c2 d2 x6))), .val (.int (1 : Int32)), .val (.int (own_n (own_rt a4 b4 c4 d4 x7))), .val (.int (own_n (own_rt a4 b4 c4 d4 x8))), .val (.int (own_n (own_rt a6 b6 c6 d6 (own_rt a4 b4 c4 d4 x7)))), .val (.int (own_n (own_rt a7 b7 c7 d7 x7)))] [(.int (own_n (own_rt a4 b4 c4 d4 x7))), (.int (own_n (own_rt a6 b6 c6 d6 (own_rt a4 b4 c4 d4 x7))))]))
      refine own_go (fun _ kt => XS.icmpNo X67.here hx rfl (hb hby at_335) rfl (teq (congrArg own_n (by rw [hr6, hr5]; exact own_idem Dm4.2.2.2.2.2.2 _) : (own_n (own_rt a6 b6 c6 d6 (own_rt a4 b4 c4 d4 x7))) = (own_n (own_rt a4 b4 c4 d4 x7)))).2 kt) ?_
      show own_G p.tables e below _ (T67.setTop (mkF m 338 #[.val (.int p0), .val (.int p1), .val (.int p2), .val (.int p3), .val (.int (own_n x0)), .val (.int (own_n x1)), .val (.int (own_n x2)), .val (.int (own_n x3)), .val (.int (own_n x4)), .val (.int (own_n x5)), .val (.int (own_n x6)), .val (.int (own_n x7)), .val (.int (own_n x8)), .val (.ref b44), .val (.ref b49), .val (.int (own_n (own_rt a2 b2 c2 d2 x6))), .val (.int (1 : Int32)), .val (.int (own_n (own_rt a4 b4 c4 d4 x7))), .val (.int (own_n (own_rt a4 b4 c4 d4 x8))), .val (.int (own_n (own_rt a6 b6 c6 d6 (own_rt a4 b4 c4 d4 x7)))), .val (.int (own_n (own_rt a7 b7 c7 d7 x7)))] []))
      refine own_go (fun _ kt => XS.iload X67.here hx rfl (hb hby at_338) rfl kt) ?_
      show own_G p.tables e below _ (T67.setTop (mkF m 340 #[.val (.int p0), .val (.int p1), .val (.int p2), .val (.int p3), .val (.int (own_n x0)), .val (.int (own_n x1)), .val (.int (own_n x2)), .val (.int (own_n x3)), .val (.int (own_n x4)), .val (.int (own_n x5)), .val (.int (own_n x6)), .val (.int (own_n x7)), .val (.int (own_n x8)), .val (.ref b44), .val (.ref b49), .val (.int (own_n (own_rt a2 b2 c2 d2 x6))), .val (.int (1 : Int32)), .val (.int (own_n (own_rt a4 b4 c4 d4 x7))), .val (.int (own_n (own_rt a4 b4 c4 d4 x8))), .val (.int (own_n (own_rt a6 b6 c6 d6 (own_rt a4 b4 c4 d4 x7)))), .val (.int (own_n (own_rt a7 b7 c7 d7 x7)))] [(.int (own_n (own_rt a7 b7 c7 d7 x7)))]))
      refine own_go (fun _ kt => XS.iload X67.here hx rfl (hb hby at_340) rfl kt) ?_
      show own_G p.tables e below _ (T67.setTop (mkF m 342 #[.val (.int p0), .val (.int p1), .val (.int p2), .val (.int p3), .val (.int (own_n x0)), .val (.int (own_n x1)), .val (.int (own_n x2)), .val (.int (own_n x3)), .val (.int (own_n x4)), .val (.int (own_n x5)), .val (.int (own_n x6)), .val (.int (own_n x7)), .val (.int (own_n x8)), .val (.ref b44), .val (.ref b49), .val (.int (own_n (own_rt a2 b2 c2 d2 x6))), .val (.int (1 : Int32)), .val (.int (own_n (own_rt a4 b4 c4 d4 x7))), .val (.int (own_n (own_rt a4 b4 c4 d4 x8))), .val (.int (own_n (own_rt a6 b6 c6 d6 (own_rt a4 b4 c4 d4 x7)))), .val (.int (own_n (own_rt a7 b7 c7 d7 x7)))] [(.int (own_n (own_rt a4 b4 c4 d4 x7))), (.int (own_n (own_rt a7 b7 c7 d7 x7)))]))
      refine own_go (fun _ kt => XS.icmpNo X67.here hx rfl (hb hby at_342) rfl (teq (congrArg own_n (by rw [hr7, hr6, hr5]) : (own_n (own_rt a7 b7 c7 d7 x7)) = (own_n (own_rt a4 b4 c4 d4 x7)))).2 kt) ?_
      show own_G p.tables e below _ (T67.setTop (mkF m 345 #[.val (.int p0), .val (.int p1), .val (.int p2), .val (.int p3), .val (.int (own_n x0)), .val (.int (own_n x1)), .val (.int (own_n x2)), .val (.int (own_n x3)), .val (.int (own_n x4)), .val (.int (own_n x5)), .val (.int (own_n x6)), .val (.int (own_n x7)), .val (.int (own_n x8)), .val (.ref b44), .val (.ref b49), .val (.int (own_n (own_rt a2 b2 c2 d2 x6))), .val (.int (1 : Int32)), .val (.int (own_n (own_rt a4 b4 c4 d4 x7))), .val (.int (own_n (own_rt a4 b4 c4 d4 x8))), .val (.int (own_n (own_rt a6 b6 c6 d6 (own_rt a4 b4 c4 d4 x7)))), .val (.int (own_n (own_rt a7 b7 c7 d7 x7)))] []))
      refine own_go (fun _ kt => XS.iconst X67.here hx rfl (hb hby at_345) kt) ?_
      show own_G p.tables e below _ (T67.setTop (mkF m 346 #[.val (.int p0), .val (.int p1), .val (.int p2), .val (.int p3), .val (.int (own_n x0)), .val (.int (own_n x1)), .val (.int (own_n x2)), .val (.int (own_n x3)), .val (.int (own_n x4)), .val (.int (own_n x5)), .val (.int (own_n x6)), .val (.int (own_n x7)), .val (.int (own_n x8)), .val (.ref b44), .val (.ref b49), .val (.int (own_n (own_rt a2 b2 c2 d2 x6))), .val (.int (1 : Int32)), .val (.int (own_n (own_rt a4 b4 c4 d4 x7))), .val (.int (own_n (own_rt a4 b4 c4 d4 x8))), .val (.int (own_n (own_rt a6 b6 c6 d6 (own_rt a4 b4 c4 d4 x7)))), .val (.int (own_n (own_rt a7 b7 c7 d7 x7)))] [(.int (1 : Int32))]))
      refine own_go (fun _ kt => XS.goto X67.here hx rfl (pc0 := 346) (pc' := 350) rfl (hb hby at_346) (by decide) (by decide) kt) ?_
      show own_G p.tables e below _ (T67.setTop (mkF m 350 #[.val (.int p0), .val (.int p1), .val (.int p2), .val (.int p3), .val (.int (own_n x0)), .val (.int (own_n x1)), .val (.int (own_n x2)), .val (.int (own_n x3)), .val (.int (own_n x4)), .val (.int (own_n x5)), .val (.int (own_n x6)), .val (.int (own_n x7)), .val (.int (own_n x8)), .val (.ref b44), .val (.ref b49), .val (.int (own_n (own_rt a2 b2 c2 d2 x6))), .val (.int (1 : Int32)), .val (.int (own_n (own_rt a4 b4 c4 d4 x7))), .val (.int (own_n (own_rt a4 b4 c4 d4 x8))), .val (.int (own_n (own_rt a6 b6 c6 d6 (own_rt a4 b4 c4 d4 x7)))), .val (.int (own_n (own_rt a7 b7 c7 d7 x7)))] [(.int (1 : Int32))]))
      exact own_retN X67 hx (t := .boolean) Bd.returns (by simp) hlk (hb hby at_350) (Nat.le_of_ble_eq_true rfl) (Nat.le_of_ble_eq_true rfl) rfl ⟨rfl, N67⟩
    · show own_G p.tables e below _ (T64.setTop (mkF m 272 #[.val (.int p0), .val (.int p1), .val (.int p2), .val (.int p3), .val (.int (own_n x0)), .val (.int (own_n x1)), .val (.int (own_n x2)), .val (.int (own_n x3)), .val (.int (own_n x4)), .val (.int (own_n x5)), .val (.int (own_n x6)), .val (.int (own_n x7)), .val (.int (own_n x8)), .val (.ref b44), .val (.ref b49), .val (.int (own_n (own_rt a2 b2 c2 d2 x6))), .val (.int (1 : Int32)), .val (.int (own_n (own_rt a4 b4 c4 d4 x7))), .val (.int (own_n (own_rt a4 b4 c4 d4 x8))), .unset, .unset] [(.int (own_n (own_rt a4 b4 c4 d4 x8))), (.int (own_n (own_rt a4 b4 c4 d4 x7)))]))
      refine own_go (fun _ kt => XS.icmpYes X64.here hx rfl (pc0 := 272) (pc' := 279) rfl (hb hby at_272) rfl (feq (he : ¬ ((own_n (own_rt a4 b4 c4 d4 x7)) = (own_n (own_rt a4 b4 c4 d4 x8))))).2 (by decide) (by decide) kt) ?_
      show own_G p.tables e below _ (T64.setTop (mkF m 279 #[.val (.int p0), .val (.int p1), .val (.int p2), .val (.int p3), .val (.int (own_n x0)), .val (.int (own_n x1)), .val (.int (own_n x2)), .val (.int (own_n x3)), .val (.int (own_n x4)), .val (.int (own_n x5)), .val (.int (own_n x6)), .val (.int (own_n x7)), .val (.int (own_n x8)), .val (.ref b44), .val (.ref b49), .val (.int (own_n (own_rt a2 b2 c2 d2 x6))), .val (.int (1 : Int32)), .val (.int (own_n (own_rt a4 b4 c4 d4 x7))), .val (.int (own_n (own_rt a4 b4 c4 d4 x8))), .unset, .unset] []))
      refine own_go (fun _ kt => XS.iconst X64.here hx rfl (hb hby at_279) kt) ?_
      show own_G p.tables e below _ (T64.setTop (mkF m 280 #[.val (.int p0), .val (.int p1), .val (.int p2), .val (.int p3), .val (.int (own_n x0)), .val (.int (own_n x1)), .val (.int (own_n x2)), .val (.int (own_n x3)), .val (.int (own_n x4)), .val (.int (own_n x5)), .val (.int (own_n x6)), .val (.int (own_n x7)), .val (.int (own_n x8)), .val (.ref b44), .val (.ref b49), .val (.int (own_n (own_rt a2 b2 c2 d2 x6))), .val (.int (1 : Int32)), .val (.int (own_n (own_rt a4 b4 c4 d4 x7))), .val (.int (own_n (own_rt a4 b4 c4 d4 x8))), .unset, .unset] [(.int (0 : Int32))]))
      refine own_go (fun _ kt => XS.aload X64.here hx rfl (hb hby at_280) rfl rfl kt) ?_
      show own_G p.tables e below _ (T64.setTop (mkF m 282 #[.val (.int p0), .val (.int p1), .val (.int p2), .val (.int p3), .val (.int (own_n x0)), .val (.int (own_n x1)), .val (.int (own_n x2)), .val (.int (own_n x3)), .val (.int (own_n x4)), .val (.int (own_n x5)), .val (.int (own_n x6)), .val (.int (own_n x7)), .val (.int (own_n x8)), .val (.ref b44), .val (.ref b49), .val (.int (own_n (own_rt a2 b2 c2 d2 x6))), .val (.int (1 : Int32)), .val (.int (own_n (own_rt a4 b4 c4 d4 x7))), .val (.int (own_n (own_rt a4 b4 c4 d4 x8))), .unset, .unset] [(.ref b44), (.int (0 : Int32))]))
      refine own_go (fun _ kt => XS.iload X64.here hx rfl (hb hby at_282) rfl kt) ?_
      show own_G p.tables e below _ (T64.setTop (mkF m 284 #[.val (.int p0), .val (.int p1), .val (.int p2), .val (.int p3), .val (.int (own_n x0)), .val (.int (own_n x1)), .val (.int (own_n x2)), .val (.int (own_n x3)), .val (.int (own_n x4)), .val (.int (own_n x5)), .val (.int (own_n x6)), .val (.int (own_n x7)), .val (.int (own_n x8)), .val (.ref b44), .val (.ref b49), .val (.int (own_n (own_rt a2 b2 c2 d2 x6))), .val (.int (1 : Int32)), .val (.int (own_n (own_rt a4 b4 c4 d4 x7))), .val (.int (own_n (own_rt a4 b4 c4 d4 x8))), .unset, .unset] [(.int (own_n x7)), (.ref b44), (.int (0 : Int32))]))
      refine own_go (own_ldI X64 hx hZ rfl u65 (j := (own_n x7)) (v := (.int (own_n (own_f ea4 eb4 ec4 ed4 x7)))) (own_nb _).1 (own_nb _).2 (own_at _ _ _ _ _) (g := (mkF m 284 #[.val (.int p0), .val (.int p1), .val (.int p2), .val (.int p3), .val (.int (own_n x0)), .val (.int (own_n x1)), .val (.int (own_n x2)), .val (.int (own_n x3)), .val (.int (own_n x4)), .val (.int (own_n x5)), .val (.int (own_n x6)), .val (.int (own_n x7)), .val (.int (own_n x8)), .val (.ref b44), .val (.ref b49), .val (.int (own_n (own_rt a2 b2 c2 d2 x6))), .val (.int (1 : Int32)), .val (.int (own_n (own_rt a4 b4 c4 d4 x7))), .val (.int (own_n (own_rt a4 b4 c4 d4 x8))), .unset, .unset] [(.int (own_n x7)), (.ref b44), (.int (0 : Int32))])) rfl rfl (hb hby at_284)) ?_
      show own_G p.tables e below _ (T64.setTop (mkF m 285 #[.val (.int p0), .val (.int p1), .val (.int p2), .val (.int p3), .val (.int (own_n x0)), .val (.int (own_n x1)), .val (.int (own_n x2)), .val (.int (own_n x3)), .val (.int (own_n x4)), .val (.int (own_n x5)), .val (.int (own_n x6)), .val (.int (own_n x7)), .val (.int (own_n x8)), .val (.ref b44), .val (.ref b49), .val (.int (own_n (own_rt a2 b2 c2 d2 x6))), .val (.int (1 : Int32)), .val (.int (own_n (own_rt a4 b4 c4 d4 x7))), .val (.int (own_n (own_rt a4 b4 c4 d4 x8))), .unset, .unset] [(.int (own_n (own_f ea4 eb4 ec4 ed4 x7))), (.int (0 : Int32))]))
      refine own_go (fun _ kt => XS.aload X64.here hx rfl (hb hby at_285) rfl rfl kt) ?_
      show own_G p.tables e below _ (T64.setTop (mkF m 287 #[.val (.int p0), .val (.int p1), .val (.int p2), .val (.int p3), .val (.int (own_n x0)), .val (.int (own_n x1)), .val (.int (own_n x2)), .val (.int (own_n x3)), .val (.int (own_n x4)), .val (.int (own_n x5)), .val (.int (own_n x6)), .val (.int (own_n x7)), .val (.int (own_n x8)), .val (.ref b44), .val (.ref b49), .val (.int (own_n (own_rt a2 b2 c2 d2 x6))), .val (.int (1 : Int32)), .val (.int (own_n (own_rt a4 b4 c4 d4 x7))), .val (.int (own_n (own_rt a4 b4 c4 d4 x8))), .unset, .unset] [(.ref b44), (.int (own_n (own_f ea4 eb4 ec4 ed4 x7))), (.int (0 : Int32))]))
      refine own_go (fun _ kt => XS.iload X64.here hx rfl (hb hby at_287) rfl kt) ?_
      show own_G p.tables e below _ (T64.setTop (mkF m 289 #[.val (.int p0), .val (.int p1), .val (.int p2), .val (.int p3), .val (.int (own_n x0)), .val (.int (own_n x1)), .val (.int (own_n x2)), .val (.int (own_n x3)), .val (.int (own_n x4)), .val (.int (own_n x5)), .val (.int (own_n x6)), .val (.int (own_n x7)), .val (.int (own_n x8)), .val (.ref b44), .val (.ref b49), .val (.int (own_n (own_rt a2 b2 c2 d2 x6))), .val (.int (1 : Int32)), .val (.int (own_n (own_rt a4 b4 c4 d4 x7))), .val (.int (own_n (own_rt a4 b4 c4 d4 x8))), .unset, .unset] [(.int (own_n x8)), (.ref b44), (.int (own_n (own_f ea4 eb4 ec4 ed4 x7))), (.int (0 : Int32))]))
      refine own_go (own_ldI X64 hx hZ rfl u65 (j := (own_n x8)) (v := (.int (own_n (own_f ea4 eb4 ec4 ed4 x8)))) (own_nb _).1 (own_nb _).2 (own_at _ _ _ _ _) (g := (mkF m 289 #[.val (.int p0), .val (.int p1), .val (.int p2), .val (.int p3), .val (.int (own_n x0)), .val (.int (own_n x1)), .val (.int (own_n x2)), .val (.int (own_n x3)), .val (.int (own_n x4)), .val (.int (own_n x5)), .val (.int (own_n x6)), .val (.int (own_n x7)), .val (.int (own_n x8)), .val (.ref b44), .val (.ref b49), .val (.int (own_n (own_rt a2 b2 c2 d2 x6))), .val (.int (1 : Int32)), .val (.int (own_n (own_rt a4 b4 c4 d4 x7))), .val (.int (own_n (own_rt a4 b4 c4 d4 x8))), .unset, .unset] [(.int (own_n x8)), (.ref b44), (.int (own_n (own_f ea4 eb4 ec4 ed4 x7))), (.int (0 : Int32))])) rfl rfl (hb hby at_289)) ?_
      show own_G p.tables e below _ (T64.setTop (mkF m 290 #[.val (.int p0), .val (.int p1), .val (.int p2), .val (.int p3), .val (.int (own_n x0)), .val (.int (own_n x1)), .val (.int (own_n x2)), .val (.int (own_n x3)), .val (.int (own_n x4)), .val (.int (own_n x5)), .val (.int (own_n x6)), .val (.int (own_n x7)), .val (.int (own_n x8)), .val (.ref b44), .val (.ref b49), .val (.int (own_n (own_rt a2 b2 c2 d2 x6))), .val (.int (1 : Int32)), .val (.int (own_n (own_rt a4 b4 c4 d4 x7))), .val (.int (own_n (own_rt a4 b4 c4 d4 x8))), .unset, .unset] [(.int (own_n (own_f ea4 eb4 ec4 ed4 x8))), (.int (own_n (own_f ea4 eb4 ec4 ed4 x7))), (.int (0 : Int32))]))
      refine own_go (fun _ kt => XS.icmpYes X64.here hx rfl (pc0 := 290) (pc' := 297) rfl (hb hby at_290) rfl (feq (fun q => he (congrArg own_n ((Sm4 _ _).mpr (own_inj _ _ q))) : ¬ ((own_n (own_f ea4 eb4 ec4 ed4 x7)) = (own_n (own_f ea4 eb4 ec4 ed4 x8))))).2 (by decide) (by decide) kt) ?_
      show own_G p.tables e below _ (T64.setTop (mkF m 297 #[.val (.int p0), .val (.int p1), .val (.int p2), .val (.int p3), .val (.int (own_n x0)), .val (.int (own_n x1)), .val (.int (own_n x2)), .val (.int (own_n x3)), .val (.int (own_n x4)), .val (.int (own_n x5)), .val (.int (own_n x6)), .val (.int (own_n x7)), .val (.int (own_n x8)), .val (.ref b44), .val (.ref b49), .val (.int (own_n (own_rt a2 b2 c2 d2 x6))), .val (.int (1 : Int32)), .val (.int (own_n (own_rt a4 b4 c4 d4 x7))), .val (.int (own_n (own_rt a4 b4 c4 d4 x8))), .unset, .unset] [(.int (0 : Int32))]))
      refine own_go (fun _ kt => XS.iconst X64.here hx rfl (hb hby at_297) kt) ?_
      show own_G p.tables e below _ (T64.setTop (mkF m 298 #[.val (.int p0), .val (.int p1), .val (.int p2), .val (.int p3), .val (.int (own_n x0)), .val (.int (own_n x1)), .val (.int (own_n x2)), .val (.int (own_n x3)), .val (.int (own_n x4)), .val (.int (own_n x5)), .val (.int (own_n x6)), .val (.int (own_n x7)), .val (.int (own_n x8)), .val (.ref b44), .val (.ref b49), .val (.int (own_n (own_rt a2 b2 c2 d2 x6))), .val (.int (1 : Int32)), .val (.int (own_n (own_rt a4 b4 c4 d4 x7))), .val (.int (own_n (own_rt a4 b4 c4 d4 x8))), .unset, .unset] [(.int (0 : Int32)), (.int (0 : Int32))]))
      refine own_go (fun _ kt => XS.icmpNo X64.here hx rfl (hb hby at_298) rfl (teq (rfl : (0 : Int32) = (0 : Int32))).2 kt) ?_
      show own_G p.tables e below _ (T64.setTop (mkF m 301 #[.val (.int p0), .val (.int p1), .val (.int p2), .val (.int p3), .val (.int (own_n x0)), .val (.int (own_n x1)), .val (.int (own_n x2)), .val (.int (own_n x3)), .val (.int (own_n x4)), .val (.int (own_n x5)), .val (.int (own_n x6)), .val (.int (own_n x7)), .val (.int (own_n x8)), .val (.ref b44), .val (.ref b49), .val (.int (own_n (own_rt a2 b2 c2 d2 x6))), .val (.int (1 : Int32)), .val (.int (own_n (own_rt a4 b4 c4 d4 x7))), .val (.int (own_n (own_rt a4 b4 c4 d4 x8))), .unset, .unset] []))
      refine own_go (fun _ kt => XS.iconst X64.here hx rfl (hb hby at_301) kt) ?_
      show own_G p.tables e below _ (T64.setTop (mkF m 302 #[.val (.int p0), .val (.int p1), .val (.int p2), .val (.int p3), .val (.int (own_n x0)), .val (.int (own_n x1)), .val (.int (own_n x2)), .val (.int (own_n x3)), .val (.int (own_n x4)), .val (.int (own_n x5)), .val (.int (own_n x6)), .val (.int (own_n x7)), .val (.int (own_n x8)), .val (.ref b44), .val (.ref b49), .val (.int (own_n (own_rt a2 b2 c2 d2 x6))), .val (.int (1 : Int32)), .val (.int (own_n (own_rt a4 b4 c4 d4 x7))), .val (.int (own_n (own_rt a4 b4 c4 d4 x8))), .unset, .unset] [(.int (1 : Int32))]))
      refine own_go (fun _ kt => XS.goto X64.here hx rfl (pc0 := 302) (pc' := 306) rfl (hb hby at_302) (by decide) (by decide) kt) ?_
      show own_G p.tables e below _ (T64.setTop (mkF m 306 #[.val (.int p0), .val (.int p1), .val (.int p2), .val (.int p3), .val (.int (own_n x0)), .val (.int (own_n x1)), .val (.int (own_n x2)), .val (.int (own_n x3)), .val (.int (own_n x4)), .val (.int (own_n x5)), .val (.int (own_n x6)), .val (.int (own_n x7)), .val (.int (own_n x8)), .val (.ref b44), .val (.ref b49), .val (.int (own_n (own_rt a2 b2 c2 d2 x6))), .val (.int (1 : Int32)), .val (.int (own_n (own_rt a4 b4 c4 d4 x7))), .val (.int (own_n (own_rt a4 b4 c4 d4 x8))), .unset, .unset] [(.int (1 : Int32))]))
      refine own_go (fun _ kt => XS.istore X64.here hx rfl (hb hby at_306) rfl (l' := #[.val (.int p0), .val (.int p1), .val (.int p2), .val (.int p3), .val (.int (own_n x0)), .val (.int (own_n x1)), .val (.int (own_n x2)), .val (.int (own_n x3)), .val (.int (own_n x4)), .val (.int (own_n x5)), .val (.int (own_n x6)), .val (.int (own_n x7)), .val (.int (own_n x8)), .val (.ref b44), .val (.ref b49), .val (.int (own_n (own_rt a2 b2 c2 d2 x6))), .val (.int (1 : Int32)), .val (.int (own_n (own_rt a4 b4 c4 d4 x7))), .val (.int (own_n (own_rt a4 b4 c4 d4 x8))), .unset, .unset]) rfl kt) ?_
      show own_G p.tables e below _ (T64.setTop (mkF m 308 #[.val (.int p0), .val (.int p1), .val (.int p2), .val (.int p3), .val (.int (own_n x0)), .val (.int (own_n x1)), .val (.int (own_n x2)), .val (.int (own_n x3)), .val (.int (own_n x4)), .val (.int (own_n x5)), .val (.int (own_n x6)), .val (.int (own_n x7)), .val (.int (own_n x8)), .val (.ref b44), .val (.ref b49), .val (.int (own_n (own_rt a2 b2 c2 d2 x6))), .val (.int (1 : Int32)), .val (.int (own_n (own_rt a4 b4 c4 d4 x7))), .val (.int (own_n (own_rt a4 b4 c4 d4 x8))), .unset, .unset] []))
      refine own_go (fun _ kt => XS.aload X64.here hx rfl (hb hby at_308) rfl rfl kt) ?_
      show own_G p.tables e below _ (T64.setTop (mkF m 310 #[.val (.int p0), .val (.int p1), .val (.int p2), .val (.int p3), .val (.int (own_n x0)), .val (.int (own_n x1)), .val (.int (own_n x2)), .val (.int (own_n x3)), .val (.int (own_n x4)), .val (.int (own_n x5)), .val (.int (own_n x6)), .val (.int (own_n x7)), .val (.int (own_n x8)), .val (.ref b44), .val (.ref b49), .val (.int (own_n (own_rt a2 b2 c2 d2 x6))), .val (.int (1 : Int32)), .val (.int (own_n (own_rt a4 b4 c4 d4 x7))), .val (.int (own_n (own_rt a4 b4 c4 d4 x8))), .unset, .unset] [(.ref b49)]))
      refine own_go (fun _ kt => XS.iload X64.here hx rfl (hb hby at_310) rfl kt) ?_
      show own_G p.tables e below _ (T64.setTop (mkF m 312 #[.val (.int p0), .val (.int p1), .val (.int p2), .val (.int p3), .val (.int (own_n x0)), .val (.int (own_n x1)), .val (.int (own_n x2)), .val (.int (own_n x3)), .val (.int (own_n x4)), .val (.int (own_n x5)), .val (.int (own_n x6)), .val (.int (own_n x7)), .val (.int (own_n x8)), .val (.ref b44), .val (.ref b49), .val (.int (own_n (own_rt a2 b2 c2 d2 x6))), .val (.int (1 : Int32)), .val (.int (own_n (own_rt a4 b4 c4 d4 x7))), .val (.int (own_n (own_rt a4 b4 c4 d4 x8))), .unset, .unset] [(.int (own_n (own_rt a4 b4 c4 d4 x7))), (.ref b49)]))
      obtain ⟨cq68, kq68, q68a, q68b, q68c⟩ := isOf hZ rfl Dr6.1
      obtain ⟨_, _, ⟨T68, L68, k68, n68⟩, -, X68, ⟨Lc68, hQ68, l68, y68, z68⟩, st68⟩ := X64.virtualBack hx (y := (⟨"com/example/weftwork/weftwork/graph/DisjointSets", "root", "(I)I"⟩ : MethodName)) (z := (⟨"com/example/weftwork/weftwork/graph/DisjointSets", "root", "(I)I"⟩ : MethodName)) hown (mvT hZ (hw _ (List.mem_of_getElem? (i := 26) rfl))) (mvT hZ (hw _ (List.mem_of_getElem? (i := 18) rfl))) (notFace_of_selects (args := #[]) (mvT hZ (hw _ (List.mem_of_getElem? (i := 20) rfl)))) (mvT hZ (hw _ (List.mem_of_getElem? (i := 20) rfl))) (mvT hZ (hw _ (List.mem_of_getElem? (i := 19) rfl))) (by decide) (backOf (W := 0) (rm_root l Z a0 hw [] b49 (own_n (own_rt a4 b4 c4 d4 x7)) w a6 b6 c6 d6 (own_rt a4 b4 c4 d4 x7) T64.heap n0 Z64 rfl Dr6) hZ (hw _ (List.mem_of_getElem? (i := 21) rfl)) (hw _ (List.mem_of_getElem? (i := 3) rfl)) (by decide) (by decide)) q68a q68c (g := (mkF m 312 #[.val (.int p0), .val (.int p1), .val (.int p2), .val (.int p3), .val (.int (own_n x0)), .val (.int (own_n x1)), .val (.int (own_n x2)), .val (.int (own_n x3)), .val (.int (own_n x4)), .val (.int (own_n x5)), .val (.int (own_n x6)), .val (.int (own_n x7)), .val (.int (own_n x8)), .val (.ref b44), .val (.ref b49), .val (.int (own_n (own_rt a2 b2 c2 d2 x6))), .val (.int (1 : Int32)), .val (.int (own_n (own_rt a4 b4 c4 d4 x7))), .val (.int (own_n (own_rt a4 b4 c4 d4 x8))), .unset, .unset] [(.int (own_n (own_rt a4 b4 c4 d4 x7))), (.ref b49)])) rfl (by rw [hml]; rfl) (Steps.refl _) (argsL := [(.int (own_n (own_rt a4 b4 c4 d4 x7)))]) (rest := []) (lenOf pd__I_I rfl) rfl (by show 2 * 0 + _ ≤ _; exact Nat.le_of_eq rfl) (hb hby at_312) (fun _ _ => ⟨rfl, rfl, (Nat.le_of_ble_eq_true rfl), (Nat.le_of_ble_eq_true rfl)⟩)
      dsimp only [Pt.U, Pt.locs, Pt.cells, Pt.slots] at X68 l68 y68 z68 st68 hQ68
      subst l68 y68 z68
      obtain ⟨a9, b9, c9, d9, rfl, Nq68, Kq68, Dr9, hr9⟩ := hQ68
      have N68 := Fr.app N64 Nq68
      refine own_tr st68 ?_
      have Z68 : n0 ≤ T68.heap.size := Nat.le_trans Z64 Kq68.1
      show own_G p.tables e below _ (T68.setTop (mkF m 315 #[.val (.int p0), .val (.int p1), .val (.int p2), .val (.int p3), .val (.int (own_n x0)), .val (.int (own_n x1)), .val (.int (own_n x2)), .val (.int (own_n x3)), .val (.int (own_n x4)), .val (.int (own_n x5)), .val (.int (own_n x6)), .val (.int (own_n x7)), .val (.int (own_n x8)), .val (.ref b44), .val (.ref b49), .val (.int (own_n (own_rt a2 b2 c2 d2 x6))), .val (.int (1 : Int32)), .val (.int (own_n (own_rt a4 b4 c4 d4 x7))), .val (.int (own_n (own_rt a4 b4 c4 d4 x8))), .unset, .unset] [(.int (own_n (own_rt a6 b6 c6 d6 (own_rt a4 b4 c4 d4 x7))))]))
      refine own_go (fun _ kt => XS.istore X68.here hx rfl (hb hby at_315) rfl (l' := #[.val (.int p0), .val (.int p1), .val (.int p2), .val (.int p3), .val (.int (own_n x0)), .val (.int (own_n x1)), .val (.int (own_n x2)), .val (.int (own_n x3)), .val (.int (own_n x4)), .val (.int (own_n x5)), .val (.int (own_n x6)), .val (.int (own_n x7)), .val (.int (own_n x8)), .val (.ref b44), .val (.ref b49), .val (.int (own_n (own_rt a2 b2 c2 d2 x6))), .val (.int (1 : Int32)), .val (.int (own_n (own_rt a4 b4 c4 d4 x7))), .val (.int (own_n (own_rt a4 b4 c4 d4 x8))), .val (.int (own_n (own_rt a6 b6 c6 d6 (own_rt a4 b4 c4 d4 x7)))), .unset]) rfl kt) ?_
      show own_G p.tables e below _ (T68.setTop (mkF m 317 #[.val (.int p0), .val (.int p1), .val (.int p2), .val (.int p3), .val (.int (own_n x0)), .val (.int (own_n x1)), .val (.int (own_n x2)), .val (.int (own_n x3)), .val (.int (own_n x4)), .val (.int (own_n x5)), .val (.int (own_n x6)), .val (.int (own_n x7)), .val (.int (own_n x8)), .val (.ref b44), .val (.ref b49), .val (.int (own_n (own_rt a2 b2 c2 d2 x6))), .val (.int (1 : Int32)), .val (.int (own_n (own_rt a4 b4 c4 d4 x7))), .val (.int (own_n (own_rt a4 b4 c4 d4 x8))), .val (.int (own_n (own_rt a6 b6 c6 d6 (own_rt a4 b4 c4 d4 x7)))), .unset] []))
      refine own_go (fun _ kt => XS.aload X68.here hx rfl (hb hby at_317) rfl rfl kt) ?_
      show own_G p.tables e below _ (T68.setTop (mkF m 319 #[.val (.int p0), .val (.int p1), .val (.int p2), .val (.int p3), .val (.int (own_n x0)), .val (.int (own_n x1)), .val (.int (own_n x2)), .val (.int (own_n x3)), .val (.int (own_n x4)), .val (.int (own_n x5)), .val (.int (own_n x6)), .val (.int (own_n x7)), .val (.int (own_n x8)), .val (.ref b44), .val (.ref b49), .val (.int (own_n (own_rt a2 b2 c2 d2 x6))), .val (.int (1 : Int32)), .val (.int (own_n (own_rt a4 b4 c4 d4 x7))), .val (.int (own_n (own_rt a4 b4 c4 d4 x8))), .val (.int (own_n (own_rt a6 b6 c6 d6 (own_rt a4 b4 c4 d4 x7)))), .unset] [(.ref b49)]))
      refine own_go (fun _ kt => XS.iload X68.here hx rfl (hb hby at_319) rfl kt) ?_
      show own_G p.tables e below _ (T68.setTop (mkF m 321 #[.val (.int p0), .val (.int p1), .val (.int p2), .val (.int p3), .val (.int (own_n x0)), .val (.int (own_n x1)), .val (.int (own_n x2)), .val (.int (own_n x3)), .val (.int (own_n x4)), .val (.int (own_n x5)), .val (.int (own_n x6)), .val (.int (own_n x7)), .val (.int (own_n x8)), .val (.ref b44), .val (.ref b49), .val (.int (own_n (own_rt a2 b2 c2 d2 x6))), .val (.int (1 : Int32)), .val (.int (own_n (own_rt a4 b4 c4 d4 x7))), .val (.int (own_n (own_rt a4 b4 c4 d4 x8))), .val (.int (own_n (own_rt a6 b6 c6 d6 (own_rt a4 b4 c4 d4 x7)))), .unset] [(.int (own_n x7)), (.ref b49)]))
      obtain ⟨cq69, kq69, q69a, q69b, q69c⟩ := isOf hZ rfl Dr9.1
      obtain ⟨_, _, ⟨T69, L69, k69, n69⟩, -, X69, ⟨Lc69, hQ69, l69, y69, z69⟩, st69⟩ := X68.virtualBack hx (y := (⟨"com/example/weftwork/weftwork/graph/DisjointSets", "root", "(I)I"⟩ : MethodName)) (z := (⟨"com/example/weftwork/weftwork/graph/DisjointSets", "root", "(I)I"⟩ : MethodName)) hown (mvT hZ (hw _ (List.mem_of_getElem? (i := 26) rfl))) (mvT hZ (hw _ (List.mem_of_getElem? (i := 18) rfl))) (notFace_of_selects (args := #[]) (mvT hZ (hw _ (List.mem_of_getElem? (i := 20) rfl)))) (mvT hZ (hw _ (List.mem_of_getElem? (i := 20) rfl))) (mvT hZ (hw _ (List.mem_of_getElem? (i := 19) rfl))) (by decide) (backOf (W := 0) (rm_root l Z a0 hw [] b49 (own_n x7) w a9 b9 c9 d9 x7 T68.heap n0 Z68 rfl Dr9) hZ (hw _ (List.mem_of_getElem? (i := 21) rfl)) (hw _ (List.mem_of_getElem? (i := 3) rfl)) (by decide) (by decide)) q69a q69c (g := (mkF m 321 #[.val (.int p0), .val (.int p1), .val (.int p2), .val (.int p3), .val (.int (own_n x0)), .val (.int (own_n x1)), .val (.int (own_n x2)), .val (.int (own_n x3)), .val (.int (own_n x4)), .val (.int (own_n x5)), .val (.int (own_n x6)), .val (.int (own_n x7)), .val (.int (own_n x8)), .val (.ref b44), .val (.ref b49), .val (.int (own_n (own_rt a2 b2 c2 d2 x6))), .val (.int (1 : Int32)), .val (.int (own_n (own_rt a4 b4 c4 d4 x7))), .val (.int (own_n (own_rt a4 b4 c4 d4 x8))), .val (.int (own_n (own_rt a6 b6 c6 d6 (own_rt a4 b4 c4 d4 x7)))), .unset] [(.int (own_n x7)), (.ref b49)])) rfl (by rw [hml]; rfl) (Steps.refl _) (argsL := [(.int (own_n x7))]) (rest := []) (lenOf pd__I_I rfl) rfl (by show 2 * 0 + _ ≤ _; exact Nat.le_of_eq rfl) (hb hby at_321) (fun _ _ => ⟨rfl, rfl, (Nat.le_of_ble_eq_true rfl), (Nat.le_of_ble_eq_true rfl)⟩)
      dsimp only [Pt.U, Pt.locs, Pt.cells, Pt.slots] at X69 l69 y69 z69 st69 hQ69
      subst l69 y69 z69
      obtain ⟨a10, b10, c10, d10, rfl, Nq69, Kq69, Dr10, hr10⟩ := hQ69
      have N69 := Fr.app N68 Nq69
      refine own_tr st69 ?_
      have Z69 : n0 ≤ T69.heap.size := Nat.le_trans Z68 Kq69.1
      show own_G p.tables e below _ (T69.setTop (mkF m 324 #[.val (.int p0), .val (.int p1), .val (.int p2), .val (.int p3), .val (.int (own_n x0)), .val (.int (own_n x1)), .val (.int (own_n x2)), .val (.int (own_n x3)), .val (.int (own_n x4)), .val (.int (own_n x5)), .val (.int (own_n x6)), .val (.int (own_n x7)), .val (.int (own_n x8)), .val (.ref b44), .val (.ref b49), .val (.int (own_n (own_rt a2 b2 c2 d2 x6))), .val (.int (1 : Int32)), .val (.int (own_n (own_rt a4 b4 c4 d4 x7))), .val (.int (own_n (own_rt a4 b4 c4 d4 x8))), .val (.int (own_n (own_rt a6 b6 c6 d6 (own_rt a4 b4 c4 d4 x7)))), .unset] [(.int (own_n (own_rt a9 b9 c9 d9 x7)))]))
      refine own_go (fun _ kt => XS.istore X69.here hx rfl (hb hby at_324) rfl (l' := #[.val (.int p0), .val (.int p1), .val (.int p2), .val (.int p3), .val (.int (own_n x0)), .val (.int (own_n x1)), .val (.int (own_n x2)), .val (.int (own_n x3)), .val (.int (own_n x4)), .val (.int (own_n x5)), .val (.int (own_n x6)), .val (.int (own_n x7)), .val (.int (own_n x8)), .val (.ref b44), .val (.ref b49), .val (.int (own_n (own_rt a2 b2 c2 d2 x6))), .val (.int (1 : Int32)), .val (.int (own_n (own_rt a4 b4 c4 d4 x7))), .val (.int (own_n (own_rt a4 b4 c4 d4 x8))), .val (.int (own_n (own_rt a6 b6 c6 d6 (own_rt a4 b4 c4 d4 x7)))), .val (.int (own_n (own_rt a9 b9 c9 d9 x7)))]) rfl kt) ?_
      show own_G p.tables e below _ (T69.setTop (mkF m 326 #[.val (.int p0), .val (.int p1), .val (.int p2), .val (.int p3), .val (.int (own_n x0)), .val (.int (own_n x1)), .val (.int (own_n x2)), .val (.int (own_n x3)), .val (.int (own_n x4)), .val (.int (own_n x5)), .val (.int (own_n x6)), .val (.int (own_n x7)), .val (.int (own_n x8)), .val (.ref b44), .val (.ref b49), .val (.int (own_n (own_rt a2 b2 c2 d2 x6))), .val (.int (1 : Int32)), .val (.int (own_n (own_rt a4 b4 c4 d4 x7))), .val (.int (own_n (own_rt a4 b4 c4 d4 x8))), .val (.int (own_n (own_rt a6 b6 c6 d6 (own_rt a4 b4 c4 d4 x7)))), .val (.int (own_n (own_rt a9 b9 c9 d9 x7)))] []))
      refine own_go (fun _ kt => XS.iload X69.here hx rfl (hb hby at_326) rfl kt) ?_
      show own_G p.tables e below _ (T69.setTop (mkF m 328 #[.val (.int p0), .val (.int p1), .val (.int p2), .val (.int p3), .val (.int (own_n x0)), .val (.int (own_n x1)), .val (.int (own_n x2)), .val (.int (own_n x3)), .val (.int (own_n x4)), .val (.int (own_n x5)), .val (.int (own_n x6)), .val (.int (own_n x7)), .val (.int (own_n x8)), .val (.ref b44), .val (.ref b49), .val (.int (own_n (own_rt a2 b2 c2 d2 x6))), .val (.int (1 : Int32)), .val (.int (own_n (own_rt a4 b4 c4 d4 x7))), .val (.int (own_n (own_rt a4 b4 c4 d4 x8))), .val (.int (own_n (own_rt a6 b6 c6 d6 (own_rt a4 b4 c4 d4 x7)))), .val (.int (own_n (own_rt a9 b9 c9 d9 x7)))] [(.int (1 : Int32))]))
      refine own_go (fun _ kt => XS.ifNo X69.here hx rfl (hb hby at_328) rfl ((if0 _ _).trans (feq (by decide : ¬ ((1 : Int32) = (0 : Int32)))).1) kt) ?_
      show own_G p.tables e below _ (T69.setTop (mkF m 331 #[.val (.int p0), .val (.int p1), .val (.int p2), .val (.int p3), .val (.int (own_n x0)), .val (.int (own_n x1)), .val (.int (own_n x2)), .val (.int (own_n x3)), .val (.int (own_n x4)), .val (.int (own_n x5)), .val (.int (own_n x6)), .val (.int (own_n x7)), .val (.int (own_n x8)), .val (.ref b44), .val (.ref b49), .val (.int (own_n (own_rt a2 b2 c2 d2 x6))), .val (.int (1 : Int32)), .val (.int (own_n (own_rt a4 b4 c4 d4 x7))), .val (.int (own_n (own_rt a4 b4 c4 d4 x8))), .val (.int (own_n (own_rt a6 b6 c6 d6 (own_rt a4 b4 c4 d4 x7)))), .val (.int (own_n (own_rt a9 b9 c9 d9 x7)))] []))
      refine own_go (fun _ kt => XS.iload X69.here hx rfl (hb hby at_331) rfl kt) ?_
      show own_G p.tables e below _ (T69.setTop (mkF m 333 #[.val (.int p0), .val (.int p1), .val (.int p2), .val (.int p3), .val (.int (own_n x0)), .val (.int (own_n x1)), .val (.int (own_n x2)), .val (.int (own_n x3)), .val (.int (own_n x4)), .val (.int (own_n x5)), .val (.int (own_n x6)), .val (.int (own_n x7)), .val (.int (own_n x8)), .val (.ref b44), .val (.ref b49), .val (.int (own_n (own_rt a2 b2 c2 d2 x6))), .val (.int (1 : Int32)), .val (.int (own_n (own_rt a4 b4 c4 d4 x7))), .val (.int (own_n (own_rt a4 b4 c4 d4 x8))), .val (.int (own_n (own_rt a6 b6 c6 d6 (own_rt a4 b4 c4 d4 x7)))), .val (.int (own_n (own_rt a9 b9 c9 d9 x7)))] [(.int (own_n (own_rt a6 b6 c6 d6 (own_rt a4 b4 c4 d4 x7))))]))
      refine own_go (fun _ kt => XS.iload X69.here hx rfl (hb hby at_333) rfl kt) ?_
      show own_G p.tables e below _ (T69.setTop (mkF m 335 #[.val (.int p0), .val (.int p1), .val (.int p2), .val (.int p3), .val (.int (own_n x0)), .val (.int (own_n x1)), .val (.int (own_n x2)), .val (.int (own_n x3)), .val (.int (own_n x4)), .val (.int (own_n x5)), .val (.int (own_n x6)), .val (.int (own_n x7)), .val (.int (own_n x8)), .val (.ref b44), .val (.ref b49), .val (.int (own_n (own_rt a2 b2 c2 d2 x6))), .val (.int (1 : Int32)), .val (.int (own_n (own_rt a4 b4 c4 d4 x7))), .val (.int (own_n (own_rt a4 b4 c4 d4 x8))), .val (.int (own_n (own_rt a6 b6 c6 d6 (own_rt a4 b4 c4 d4 x7)))), .val (.int (own_n (own_rt a9 b9 c9 d9 x7)))] [(.int (own_n (own_rt a4 b4 c4 d4 x7))), (.int (own_n (own_rt a6 b6 c6 d6 (own_rt a4 b4 c4 d4 x7))))]))
      refine own_go (fun _ kt => XS.icmpNo X69.here hx rfl (hb hby at_335) rfl (teq (congrArg own_n (by rw [hr6, hr5]; exact own_idem Dm4.2.2.2.2.2.2 _) : (own_n (own_rt a6 b6 c6 d6 (own_rt a4 b4 c4 d4 x7))) = (own_n (own_rt a4 b4 c4 d4 x7)))).2 kt) ?_
      show own_G p.tables e below _ (T69.setTop (mkF m 338 #[.val (.int p0), .val (.int p1), .val (.int p2), .val (.int p3), .val (.int (own_n x0)), .val (.int (own_n x1)), .val (.int (own_n x2)), .val (.int (own_n x3)), .val (.int (own_n x4)), .val (.int (own_n x5)), .val (.int (own_n x6)), .val (.int (own_n x7)), .val (.int (own_n x8)), .val (.ref b44), .val (.ref b49), .val (.int (own_n (own_rt a2 b2 c2 d2 x6))), .val (.int (1 : Int32)), .val (.int (own_n (own_rt a4 b4 c4 d4 x7))), .val (.int (own_n (own_rt a4 b4 c4 d4 x8))), .val (.int (own_n (own_rt a6 b6 c6 d6 (own_rt a4 b4 c4 d4 x7)))), .val (.int (own_n (own_rt a9 b9 c9 d9 x7)))] []))
      refine own_go (fun _ kt => XS.iload X69.here hx rfl (hb hby at_338) rfl kt) ?_
      show own_G p.tables e below _ (T69.setTop (mkF m 340 #[.val (.int p0), .val (.int p1), .val (.int p2), .val (.int p3), .val (.int (own_n x0)), .val (.int (own_n x1)), .val (.int (own_n x2)), .val (.int (own_n x3)), .val (.int (own_n x4)), .val (.int (own_n x5)), .val (.int (own_n x6)), .val (.int (own_n x7)), .val (.int (own_n x8)), .val (.ref b44), .val (.ref b49), .val (.int (own_n (own_rt a2 b2 c2 d2 x6))), .val (.int (1 : Int32)), .val (.int (own_n (own_rt a4 b4 c4 d4 x7))), .val (.int (own_n (own_rt a4 b4 c4 d4 x8))), .val (.int (own_n (own_rt a6 b6 c6 d6 (own_rt a4 b4 c4 d4 x7)))), .val (.int (own_n (own_rt a9 b9 c9 d9 x7)))] [(.int (own_n (own_rt a9 b9 c9 d9 x7)))]))
      refine own_go (fun _ kt => XS.iload X69.here hx rfl (hb hby at_340) rfl kt) ?_
      show own_G p.tables e below _ (T69.setTop (mkF m 342 #[.val (.int p0), .val (.int p1), .val (.int p2), .val (.int p3), .val (.int (own_n x0)), .val (.int (own_n x1)), .val (.int (own_n x2)), .val (.int (own_n x3)), .val (.int (own_n x4)), .val (.int (own_n x5)), .val (.int (own_n x6)), .val (.int (own_n x7)), .val (.int (own_n x8)), .val (.ref b44), .val (.ref b49), .val (.int (own_n (own_rt a2 b2 c2 d2 x6))), .val (.int (1 : Int32)), .val (.int (own_n (own_rt a4 b4 c4 d4 x7))), .val (.int (own_n (own_rt a4 b4 c4 d4 x8))), .val (.int (own_n (own_rt a6 b6 c6 d6 (own_rt a4 b4 c4 d4 x7)))), .val (.int (own_n (own_rt a9 b9 c9 d9 x7)))] [(.int (own_n (own_rt a4 b4 c4 d4 x7))), (.int (own_n (own_rt a9 b9 c9 d9 x7)))]))
      refine own_go (fun _ kt => XS.icmpNo X69.here hx rfl (hb hby at_342) rfl (teq (congrArg own_n (by rw [hr9, hr6, hr5]) : (own_n (own_rt a9 b9 c9 d9 x7)) = (own_n (own_rt a4 b4 c4 d4 x7)))).2 kt) ?_
      show own_G p.tables e below _ (T69.setTop (mkF m 345 #[.val (.int p0), .val (.int p1), .val (.int p2), .val (.int p3), .val (.int (own_n x0)), .val (.int (own_n x1)), .val (.int (own_n x2)), .val (.int (own_n x3)), .val (.int (own_n x4)), .val (.int (own_n x5)), .val (.int (own_n x6)), .val (.int (own_n x7)), .val (.int (own_n x8)), .val (.ref b44), .val (.ref b49), .val (.int (own_n (own_rt a2 b2 c2 d2 x6))), .val (.int (1 : Int32)), .val (.int (own_n (own_rt a4 b4 c4 d4 x7))), .val (.int (own_n (own_rt a4 b4 c4 d4 x8))), .val (.int (own_n (own_rt a6 b6 c6 d6 (own_rt a4 b4 c4 d4 x7)))), .val (.int (own_n (own_rt a9 b9 c9 d9 x7)))] []))
      refine own_go (fun _ kt => XS.iconst X69.here hx rfl (hb hby at_345) kt) ?_
      show own_G p.tables e below _ (T69.setTop (mkF m 346 #[.val (.int p0), .val (.int p1), .val (.int p2), .val (.int p3), .val (.int (own_n x0)), .val (.int (own_n x1)), .val (.int (own_n x2)), .val (.int (own_n x3)), .val (.int (own_n x4)), .val (.int (own_n x5)), .val (.int (own_n x6)), .val (.int (own_n x7)), .val (.int (own_n x8)), .val (.ref b44), .val (.ref b49), .val (.int (own_n (own_rt a2 b2 c2 d2 x6))), .val (.int (1 : Int32)), .val (.int (own_n (own_rt a4 b4 c4 d4 x7))), .val (.int (own_n (own_rt a4 b4 c4 d4 x8))), .val (.int (own_n (own_rt a6 b6 c6 d6 (own_rt a4 b4 c4 d4 x7)))), .val (.int (own_n (own_rt a9 b9 c9 d9 x7)))] [(.int (1 : Int32))]))
      refine own_go (fun _ kt => XS.goto X69.here hx rfl (pc0 := 346) (pc' := 350) rfl (hb hby at_346) (by decide) (by decide) kt) ?_
      show own_G p.tables e below _ (T69.setTop (mkF m 350 #[.val (.int p0), .val (.int p1), .val (.int p2), .val (.int p3), .val (.int (own_n x0)), .val (.int (own_n x1)), .val (.int (own_n x2)), .val (.int (own_n x3)), .val (.int (own_n x4)), .val (.int (own_n x5)), .val (.int (own_n x6)), .val (.int (own_n x7)), .val (.int (own_n x8)), .val (.ref b44), .val (.ref b49), .val (.int (own_n (own_rt a2 b2 c2 d2 x6))), .val (.int (1 : Int32)), .val (.int (own_n (own_rt a4 b4 c4 d4 x7))), .val (.int (own_n (own_rt a4 b4 c4 d4 x8))), .val (.int (own_n (own_rt a6 b6 c6 d6 (own_rt a4 b4 c4 d4 x7)))), .val (.int (own_n (own_rt a9 b9 c9 d9 x7)))] [(.int (1 : Int32))]))
      exact own_retN X69 hx (t := .boolean) Bd.returns (by simp) hlk (hb hby at_350) (Nat.le_of_ble_eq_true rfl) (Nat.le_of_ble_eq_true rfl) rfl ⟨rfl, N69⟩
  show own_G p.tables e below _ (s₁.setTop (mkF m 0 #[.val (.int p0), .val (.int p1), .val (.int p2), .val (.int p3), .unset, .unset, .unset, .unset, .unset, .unset, .unset, .unset, .unset, .unset, .unset, .unset, .unset, .unset, .unset, .unset, .unset] []))
  refine own_go (fun _ kt => XS.iloadN X0.here hx rfl (hb hby at_0) rfl kt) ?_
  show own_G p.tables e below _ (s₁.setTop (mkF m 1 #[.val (.int p0), .val (.int p1), .val (.int p2), .val (.int p3), .unset, .unset, .unset, .unset, .unset, .unset, .unset, .unset, .unset, .unset, .unset, .unset, .unset, .unset, .unset, .unset, .unset] [(.int p0)]))
  refine own_go (fun _ kt => XS.iconst X0.here hx rfl (hb hby at_1) kt) ?_
  show own_G p.tables e below _ (s₁.setTop (mkF m 2 #[.val (.int p0), .val (.int p1), .val (.int p2), .val (.int p3), .unset, .unset, .unset, .unset, .unset, .unset, .unset, .unset, .unset, .unset, .unset, .unset, .unset, .unset, .unset, .unset, .unset] [(.int (3 : Int32)), (.int p0)]))
  refine own_go (fun _ kt => XS.iand X0.here hx rfl (hb hby at_2) rfl kt) ?_
  show own_G p.tables e below _ (s₁.setTop (mkF m 3 #[.val (.int p0), .val (.int p1), .val (.int p2), .val (.int p3), .unset, .unset, .unset, .unset, .unset, .unset, .unset, .unset, .unset, .unset, .unset, .unset, .unset, .unset, .unset, .unset, .unset] [(.int (p0 &&& (3 : Int32)))]))
  refine own_go (fun _ kt => XS.istore X0.here hx rfl (hb hby at_3) rfl (l' := #[.val (.int p0), .val (.int p1), .val (.int p2), .val (.int p3), .val (.int (p0 &&& (3 : Int32))), .unset, .unset, .unset, .unset, .unset, .unset, .unset, .unset, .unset, .unset, .unset, .unset, .unset, .unset, .unset, .unset]) rfl kt) ?_
  show own_G p.tables e below _ (s₁.setTop (mkF m 5 #[.val (.int p0), .val (.int p1), .val (.int p2), .val (.int p3), .val (.int (p0 &&& (3 : Int32))), .unset, .unset, .unset, .unset, .unset, .unset, .unset, .unset, .unset, .unset, .unset, .unset, .unset, .unset, .unset, .unset] []))
  refine own_go (fun _ kt => XS.iloadN X0.here hx rfl (hb hby at_5) rfl kt) ?_
  show own_G p.tables e below _ (s₁.setTop (mkF m 6 #[.val (.int p0), .val (.int p1), .val (.int p2), .val (.int p3), .val (.int (p0 &&& (3 : Int32))), .unset, .unset, .unset, .unset, .unset, .unset, .unset, .unset, .unset, .unset, .unset, .unset, .unset, .unset, .unset, .unset] [(.int p0)]))
  refine own_go (fun _ kt => XS.iconst X0.here hx rfl (hb hby at_6) kt) ?_
  show own_G p.tables e below _ (s₁.setTop (mkF m 7 #[.val (.int p0), .val (.int p1), .val (.int p2), .val (.int p3), .val (.int (p0 &&& (3 : Int32))), .unset, .unset, .unset, .unset, .unset, .unset, .unset, .unset, .unset, .unset, .unset, .unset, .unset, .unset, .unset, .unset] [(.int (2 : Int32)), (.int p0)]))
  refine own_go (fun _ kt => XS.iushr X0.here hx rfl (hb hby at_7) rfl kt) ?_
  show own_G p.tables e below _ (s₁.setTop (mkF m 8 #[.val (.int p0), .val (.int p1), .val (.int p2), .val (.int p3), .val (.int (p0 &&& (3 : Int32))), .unset, .unset, .unset, .unset, .unset, .unset, .unset, .unset, .unset, .unset, .unset, .unset, .unset, .unset, .unset, .unset] [(.int ((p0.toUInt32 >>> ((2 : Int32) &&& 31).toUInt32).toInt32))]))
  refine own_go (fun _ kt => XS.iconst X0.here hx rfl (hb hby at_8) kt) ?_
  show own_G p.tables e below _ (s₁.setTop (mkF m 9 #[.val (.int p0), .val (.int p1), .val (.int p2), .val (.int p3), .val (.int (p0 &&& (3 : Int32))), .unset, .unset, .unset, .unset, .unset, .unset, .unset, .unset, .unset, .unset, .unset, .unset, .unset, .unset, .unset, .unset] [(.int (3 : Int32)), (.int ((p0.toUInt32 >>> ((2 : Int32) &&& 31).toUInt32).toInt32))]))
  refine own_go (fun _ kt => XS.iand X0.here hx rfl (hb hby at_9) rfl kt) ?_
  show own_G p.tables e below _ (s₁.setTop (mkF m 10 #[.val (.int p0), .val (.int p1), .val (.int p2), .val (.int p3), .val (.int (p0 &&& (3 : Int32))), .unset, .unset, .unset, .unset, .unset, .unset, .unset, .unset, .unset, .unset, .unset, .unset, .unset, .unset, .unset, .unset] [(.int (((p0.toUInt32 >>> ((2 : Int32) &&& 31).toUInt32).toInt32) &&& (3 : Int32)))]))
  refine own_go (fun _ kt => XS.istore X0.here hx rfl (hb hby at_10) rfl (l' := #[.val (.int p0), .val (.int p1), .val (.int p2), .val (.int p3), .val (.int (p0 &&& (3 : Int32))), .val (.int (((p0.toUInt32 >>> ((2 : Int32) &&& 31).toUInt32).toInt32) &&& (3 : Int32))), .unset, .unset, .unset, .unset, .unset, .unset, .unset, .unset, .unset, .unset, .unset, .unset, .unset, .unset, .unset]) rfl kt) ?_
  show own_G p.tables e below _ (s₁.setTop (mkF m 12 #[.val (.int p0), .val (.int p1), .val (.int p2), .val (.int p3), .val (.int (p0 &&& (3 : Int32))), .val (.int (((p0.toUInt32 >>> ((2 : Int32) &&& 31).toUInt32).toInt32) &&& (3 : Int32))), .unset, .unset, .unset, .unset, .unset, .unset, .unset, .unset, .unset, .unset, .unset, .unset, .unset, .unset, .unset] []))
  refine own_go (fun _ kt => XS.iloadN X0.here hx rfl (hb hby at_12) rfl kt) ?_
  show own_G p.tables e below _ (s₁.setTop (mkF m 13 #[.val (.int p0), .val (.int p1), .val (.int p2), .val (.int p3), .val (.int (p0 &&& (3 : Int32))), .val (.int (((p0.toUInt32 >>> ((2 : Int32) &&& 31).toUInt32).toInt32) &&& (3 : Int32))), .unset, .unset, .unset, .unset, .unset, .unset, .unset, .unset, .unset, .unset, .unset, .unset, .unset, .unset, .unset] [(.int p0)]))
  refine own_go (fun _ kt => XS.iconst X0.here hx rfl (hb hby at_13) kt) ?_
  show own_G p.tables e below _ (s₁.setTop (mkF m 14 #[.val (.int p0), .val (.int p1), .val (.int p2), .val (.int p3), .val (.int (p0 &&& (3 : Int32))), .val (.int (((p0.toUInt32 >>> ((2 : Int32) &&& 31).toUInt32).toInt32) &&& (3 : Int32))), .unset, .unset, .unset, .unset, .unset, .unset, .unset, .unset, .unset, .unset, .unset, .unset, .unset, .unset, .unset] [(.int (4 : Int32)), (.int p0)]))
  refine own_go (fun _ kt => XS.iushr X0.here hx rfl (hb hby at_14) rfl kt) ?_
  show own_G p.tables e below _ (s₁.setTop (mkF m 15 #[.val (.int p0), .val (.int p1), .val (.int p2), .val (.int p3), .val (.int (p0 &&& (3 : Int32))), .val (.int (((p0.toUInt32 >>> ((2 : Int32) &&& 31).toUInt32).toInt32) &&& (3 : Int32))), .unset, .unset, .unset, .unset, .unset, .unset, .unset, .unset, .unset, .unset, .unset, .unset, .unset, .unset, .unset] [(.int ((p0.toUInt32 >>> ((4 : Int32) &&& 31).toUInt32).toInt32))]))
  refine own_go (fun _ kt => XS.iconst X0.here hx rfl (hb hby at_15) kt) ?_
  show own_G p.tables e below _ (s₁.setTop (mkF m 16 #[.val (.int p0), .val (.int p1), .val (.int p2), .val (.int p3), .val (.int (p0 &&& (3 : Int32))), .val (.int (((p0.toUInt32 >>> ((2 : Int32) &&& 31).toUInt32).toInt32) &&& (3 : Int32))), .unset, .unset, .unset, .unset, .unset, .unset, .unset, .unset, .unset, .unset, .unset, .unset, .unset, .unset, .unset] [(.int (3 : Int32)), (.int ((p0.toUInt32 >>> ((4 : Int32) &&& 31).toUInt32).toInt32))]))
  refine own_go (fun _ kt => XS.iand X0.here hx rfl (hb hby at_16) rfl kt) ?_
  show own_G p.tables e below _ (s₁.setTop (mkF m 17 #[.val (.int p0), .val (.int p1), .val (.int p2), .val (.int p3), .val (.int (p0 &&& (3 : Int32))), .val (.int (((p0.toUInt32 >>> ((2 : Int32) &&& 31).toUInt32).toInt32) &&& (3 : Int32))), .unset, .unset, .unset, .unset, .unset, .unset, .unset, .unset, .unset, .unset, .unset, .unset, .unset, .unset, .unset] [(.int (((p0.toUInt32 >>> ((4 : Int32) &&& 31).toUInt32).toInt32) &&& (3 : Int32)))]))
  refine own_go (fun _ kt => XS.istore X0.here hx rfl (hb hby at_17) rfl (l' := #[.val (.int p0), .val (.int p1), .val (.int p2), .val (.int p3), .val (.int (p0 &&& (3 : Int32))), .val (.int (((p0.toUInt32 >>> ((2 : Int32) &&& 31).toUInt32).toInt32) &&& (3 : Int32))), .val (.int (((p0.toUInt32 >>> ((4 : Int32) &&& 31).toUInt32).toInt32) &&& (3 : Int32))), .unset, .unset, .unset, .unset, .unset, .unset, .unset, .unset, .unset, .unset, .unset, .unset, .unset, .unset]) rfl kt) ?_
  show own_G p.tables e below _ (s₁.setTop (mkF m 19 #[.val (.int p0), .val (.int p1), .val (.int p2), .val (.int p3), .val (.int (p0 &&& (3 : Int32))), .val (.int (((p0.toUInt32 >>> ((2 : Int32) &&& 31).toUInt32).toInt32) &&& (3 : Int32))), .val (.int (((p0.toUInt32 >>> ((4 : Int32) &&& 31).toUInt32).toInt32) &&& (3 : Int32))), .unset, .unset, .unset, .unset, .unset, .unset, .unset, .unset, .unset, .unset, .unset, .unset, .unset, .unset] []))
  refine own_go (fun _ kt => XS.iloadN X0.here hx rfl (hb hby at_19) rfl kt) ?_
  show own_G p.tables e below _ (s₁.setTop (mkF m 20 #[.val (.int p0), .val (.int p1), .val (.int p2), .val (.int p3), .val (.int (p0 &&& (3 : Int32))), .val (.int (((p0.toUInt32 >>> ((2 : Int32) &&& 31).toUInt32).toInt32) &&& (3 : Int32))), .val (.int (((p0.toUInt32 >>> ((4 : Int32) &&& 31).toUInt32).toInt32) &&& (3 : Int32))), .unset, .unset, .unset, .unset, .unset, .unset, .unset, .unset, .unset, .unset, .unset, .unset, .unset, .unset] [(.int p0)]))
  refine own_go (fun _ kt => XS.bipush X0.here hx rfl (hb hby at_20) kt) ?_
  show own_G p.tables e below _ (s₁.setTop (mkF m 22 #[.val (.int p0), .val (.int p1), .val (.int p2), .val (.int p3), .val (.int (p0 &&& (3 : Int32))), .val (.int (((p0.toUInt32 >>> ((2 : Int32) &&& 31).toUInt32).toInt32) &&& (3 : Int32))), .val (.int (((p0.toUInt32 >>> ((4 : Int32) &&& 31).toUInt32).toInt32) &&& (3 : Int32))), .unset, .unset, .unset, .unset, .unset, .unset, .unset, .unset, .unset, .unset, .unset, .unset, .unset, .unset] [(.int (6 : Int32)), (.int p0)]))
  refine own_go (fun _ kt => XS.iushr X0.here hx rfl (hb hby at_22) rfl kt) ?_
  show own_G p.tables e below _ (s₁.setTop (mkF m 23 #[.val (.int p0), .val (.int p1), .val (.int p2), .val (.int p3), .val (.int (p0 &&& (3 : Int32))), .val (.int (((p0.toUInt32 >>> ((2 : Int32) &&& 31).toUInt32).toInt32) &&& (3 : Int32))), .val (.int (((p0.toUInt32 >>> ((4 : Int32) &&& 31).toUInt32).toInt32) &&& (3 : Int32))), .unset, .unset, .unset, .unset, .unset, .unset, .unset, .unset, .unset, .unset, .unset, .unset, .unset, .unset] [(.int ((p0.toUInt32 >>> ((6 : Int32) &&& 31).toUInt32).toInt32))]))
  refine own_go (fun _ kt => XS.iconst X0.here hx rfl (hb hby at_23) kt) ?_
  show own_G p.tables e below _ (s₁.setTop (mkF m 24 #[.val (.int p0), .val (.int p1), .val (.int p2), .val (.int p3), .val (.int (p0 &&& (3 : Int32))), .val (.int (((p0.toUInt32 >>> ((2 : Int32) &&& 31).toUInt32).toInt32) &&& (3 : Int32))), .val (.int (((p0.toUInt32 >>> ((4 : Int32) &&& 31).toUInt32).toInt32) &&& (3 : Int32))), .unset, .unset, .unset, .unset, .unset, .unset, .unset, .unset, .unset, .unset, .unset, .unset, .unset, .unset] [(.int (3 : Int32)), (.int ((p0.toUInt32 >>> ((6 : Int32) &&& 31).toUInt32).toInt32))]))
  refine own_go (fun _ kt => XS.iand X0.here hx rfl (hb hby at_24) rfl kt) ?_
  show own_G p.tables e below _ (s₁.setTop (mkF m 25 #[.val (.int p0), .val (.int p1), .val (.int p2), .val (.int p3), .val (.int (p0 &&& (3 : Int32))), .val (.int (((p0.toUInt32 >>> ((2 : Int32) &&& 31).toUInt32).toInt32) &&& (3 : Int32))), .val (.int (((p0.toUInt32 >>> ((4 : Int32) &&& 31).toUInt32).toInt32) &&& (3 : Int32))), .unset, .unset, .unset, .unset, .unset, .unset, .unset, .unset, .unset, .unset, .unset, .unset, .unset, .unset] [(.int (((p0.toUInt32 >>> ((6 : Int32) &&& 31).toUInt32).toInt32) &&& (3 : Int32)))]))
  refine own_go (fun _ kt => XS.istore X0.here hx rfl (hb hby at_25) rfl (l' := #[.val (.int p0), .val (.int p1), .val (.int p2), .val (.int p3), .val (.int (p0 &&& (3 : Int32))), .val (.int (((p0.toUInt32 >>> ((2 : Int32) &&& 31).toUInt32).toInt32) &&& (3 : Int32))), .val (.int (((p0.toUInt32 >>> ((4 : Int32) &&& 31).toUInt32).toInt32) &&& (3 : Int32))), .val (.int (((p0.toUInt32 >>> ((6 : Int32) &&& 31).toUInt32).toInt32) &&& (3 : Int32))), .unset, .unset, .unset, .unset, .unset, .unset, .unset, .unset, .unset, .unset, .unset, .unset, .unset]) rfl kt) ?_
  show own_G p.tables e below _ (s₁.setTop (mkF m 27 #[.val (.int p0), .val (.int p1), .val (.int p2), .val (.int p3), .val (.int (p0 &&& (3 : Int32))), .val (.int (((p0.toUInt32 >>> ((2 : Int32) &&& 31).toUInt32).toInt32) &&& (3 : Int32))), .val (.int (((p0.toUInt32 >>> ((4 : Int32) &&& 31).toUInt32).toInt32) &&& (3 : Int32))), .val (.int (((p0.toUInt32 >>> ((6 : Int32) &&& 31).toUInt32).toInt32) &&& (3 : Int32))), .unset, .unset, .unset, .unset, .unset, .unset, .unset, .unset, .unset, .unset, .unset, .unset, .unset] []))
  refine own_go (fun _ kt => XS.iloadN X0.here hx rfl (hb hby at_27) rfl kt) ?_
  show own_G p.tables e below _ (s₁.setTop (mkF m 28 #[.val (.int p0), .val (.int p1), .val (.int p2), .val (.int p3), .val (.int (p0 &&& (3 : Int32))), .val (.int (((p0.toUInt32 >>> ((2 : Int32) &&& 31).toUInt32).toInt32) &&& (3 : Int32))), .val (.int (((p0.toUInt32 >>> ((4 : Int32) &&& 31).toUInt32).toInt32) &&& (3 : Int32))), .val (.int (((p0.toUInt32 >>> ((6 : Int32) &&& 31).toUInt32).toInt32) &&& (3 : Int32))), .unset, .unset, .unset, .unset, .unset, .unset, .unset, .unset, .unset, .unset, .unset, .unset, .unset] [(.int p0)]))
  refine own_go (fun _ kt => XS.bipush X0.here hx rfl (hb hby at_28) kt) ?_
  show own_G p.tables e below _ (s₁.setTop (mkF m 30 #[.val (.int p0), .val (.int p1), .val (.int p2), .val (.int p3), .val (.int (p0 &&& (3 : Int32))), .val (.int (((p0.toUInt32 >>> ((2 : Int32) &&& 31).toUInt32).toInt32) &&& (3 : Int32))), .val (.int (((p0.toUInt32 >>> ((4 : Int32) &&& 31).toUInt32).toInt32) &&& (3 : Int32))), .val (.int (((p0.toUInt32 >>> ((6 : Int32) &&& 31).toUInt32).toInt32) &&& (3 : Int32))), .unset, .unset, .unset, .unset, .unset, .unset, .unset, .unset, .unset, .unset, .unset, .unset, .unset] [(.int (8 : Int32)), (.int p0)]))
  refine own_go (fun _ kt => XS.iushr X0.here hx rfl (hb hby at_30) rfl kt) ?_
  show own_G p.tables e below _ (s₁.setTop (mkF m 31 #[.val (.int p0), .val (.int p1), .val (.int p2), .val (.int p3), .val (.int (p0 &&& (3 : Int32))), .val (.int (((p0.toUInt32 >>> ((2 : Int32) &&& 31).toUInt32).toInt32) &&& (3 : Int32))), .val (.int (((p0.toUInt32 >>> ((4 : Int32) &&& 31).toUInt32).toInt32) &&& (3 : Int32))), .val (.int (((p0.toUInt32 >>> ((6 : Int32) &&& 31).toUInt32).toInt32) &&& (3 : Int32))), .unset, .unset, .unset, .unset, .unset, .unset, .unset, .unset, .unset, .unset, .unset, .unset, .unset] [(.int ((p0.toUInt32 >>> ((8 : Int32) &&& 31).toUInt32).toInt32))]))
  refine own_go (fun _ kt => XS.iconst X0.here hx rfl (hb hby at_31) kt) ?_
  show own_G p.tables e below _ (s₁.setTop (mkF m 32 #[.val (.int p0), .val (.int p1), .val (.int p2), .val (.int p3), .val (.int (p0 &&& (3 : Int32))), .val (.int (((p0.toUInt32 >>> ((2 : Int32) &&& 31).toUInt32).toInt32) &&& (3 : Int32))), .val (.int (((p0.toUInt32 >>> ((4 : Int32) &&& 31).toUInt32).toInt32) &&& (3 : Int32))), .val (.int (((p0.toUInt32 >>> ((6 : Int32) &&& 31).toUInt32).toInt32) &&& (3 : Int32))), .unset, .unset, .unset, .unset, .unset, .unset, .unset, .unset, .unset, .unset, .unset, .unset, .unset] [(.int (3 : Int32)), (.int ((p0.toUInt32 >>> ((8 : Int32) &&& 31).toUInt32).toInt32))]))
  refine own_go (fun _ kt => XS.iand X0.here hx rfl (hb hby at_32) rfl kt) ?_
  show own_G p.tables e below _ (s₁.setTop (mkF m 33 #[.val (.int p0), .val (.int p1), .val (.int p2), .val (.int p3), .val (.int (p0 &&& (3 : Int32))), .val (.int (((p0.toUInt32 >>> ((2 : Int32) &&& 31).toUInt32).toInt32) &&& (3 : Int32))), .val (.int (((p0.toUInt32 >>> ((4 : Int32) &&& 31).toUInt32).toInt32) &&& (3 : Int32))), .val (.int (((p0.toUInt32 >>> ((6 : Int32) &&& 31).toUInt32).toInt32) &&& (3 : Int32))), .unset, .unset, .unset, .unset, .unset, .unset, .unset, .unset, .unset, .unset, .unset, .unset, .unset] [(.int (((p0.toUInt32 >>> ((8 : Int32) &&& 31).toUInt32).toInt32) &&& (3 : Int32)))]))
  refine own_go (fun _ kt => XS.istore X0.here hx rfl (hb hby at_33) rfl (l' := #[.val (.int p0), .val (.int p1), .val (.int p2), .val (.int p3), .val (.int (p0 &&& (3 : Int32))), .val (.int (((p0.toUInt32 >>> ((2 : Int32) &&& 31).toUInt32).toInt32) &&& (3 : Int32))), .val (.int (((p0.toUInt32 >>> ((4 : Int32) &&& 31).toUInt32).toInt32) &&& (3 : Int32))), .val (.int (((p0.toUInt32 >>> ((6 : Int32) &&& 31).toUInt32).toInt32) &&& (3 : Int32))), .val (.int (((p0.toUInt32 >>> ((8 : Int32) &&& 31).toUInt32).toInt32) &&& (3 : Int32))), .unset, .unset, .unset, .unset, .unset, .unset, .unset, .unset, .unset, .unset, .unset, .unset]) rfl kt) ?_
  show own_G p.tables e below _ (s₁.setTop (mkF m 35 #[.val (.int p0), .val (.int p1), .val (.int p2), .val (.int p3), .val (.int (p0 &&& (3 : Int32))), .val (.int (((p0.toUInt32 >>> ((2 : Int32) &&& 31).toUInt32).toInt32) &&& (3 : Int32))), .val (.int (((p0.toUInt32 >>> ((4 : Int32) &&& 31).toUInt32).toInt32) &&& (3 : Int32))), .val (.int (((p0.toUInt32 >>> ((6 : Int32) &&& 31).toUInt32).toInt32) &&& (3 : Int32))), .val (.int (((p0.toUInt32 >>> ((8 : Int32) &&& 31).toUInt32).toInt32) &&& (3 : Int32))), .unset, .unset, .unset, .unset, .unset, .unset, .unset, .unset, .unset, .unset, .unset, .unset] []))
  refine own_go (fun _ kt => XS.iloadN X0.here hx rfl (hb hby at_35) rfl kt) ?_
  show own_G p.tables e below _ (s₁.setTop (mkF m 36 #[.val (.int p0), .val (.int p1), .val (.int p2), .val (.int p3), .val (.int (p0 &&& (3 : Int32))), .val (.int (((p0.toUInt32 >>> ((2 : Int32) &&& 31).toUInt32).toInt32) &&& (3 : Int32))), .val (.int (((p0.toUInt32 >>> ((4 : Int32) &&& 31).toUInt32).toInt32) &&& (3 : Int32))), .val (.int (((p0.toUInt32 >>> ((6 : Int32) &&& 31).toUInt32).toInt32) &&& (3 : Int32))), .val (.int (((p0.toUInt32 >>> ((8 : Int32) &&& 31).toUInt32).toInt32) &&& (3 : Int32))), .unset, .unset, .unset, .unset, .unset, .unset, .unset, .unset, .unset, .unset, .unset, .unset] [(.int p0)]))
  refine own_go (fun _ kt => XS.bipush X0.here hx rfl (hb hby at_36) kt) ?_
  show own_G p.tables e below _ (s₁.setTop (mkF m 38 #[.val (.int p0), .val (.int p1), .val (.int p2), .val (.int p3), .val (.int (p0 &&& (3 : Int32))), .val (.int (((p0.toUInt32 >>> ((2 : Int32) &&& 31).toUInt32).toInt32) &&& (3 : Int32))), .val (.int (((p0.toUInt32 >>> ((4 : Int32) &&& 31).toUInt32).toInt32) &&& (3 : Int32))), .val (.int (((p0.toUInt32 >>> ((6 : Int32) &&& 31).toUInt32).toInt32) &&& (3 : Int32))), .val (.int (((p0.toUInt32 >>> ((8 : Int32) &&& 31).toUInt32).toInt32) &&& (3 : Int32))), .unset, .unset, .unset, .unset, .unset, .unset, .unset, .unset, .unset, .unset, .unset, .unset] [(.int (10 : Int32)), (.int p0)]))
  refine own_go (fun _ kt => XS.iushr X0.here hx rfl (hb hby at_38) rfl kt) ?_
  show own_G p.tables e below _ (s₁.setTop (mkF m 39 #[.val (.int p0), .val (.int p1), .val (.int p2), .val (.int p3), .val (.int (p0 &&& (3 : Int32))), .val (.int (((p0.toUInt32 >>> ((2 : Int32) &&& 31).toUInt32).toInt32) &&& (3 : Int32))), .val (.int (((p0.toUInt32 >>> ((4 : Int32) &&& 31).toUInt32).toInt32) &&& (3 : Int32))), .val (.int (((p0.toUInt32 >>> ((6 : Int32) &&& 31).toUInt32).toInt32) &&& (3 : Int32))), .val (.int (((p0.toUInt32 >>> ((8 : Int32) &&& 31).toUInt32).toInt32) &&& (3 : Int32))), .unset, .unset, .unset, .unset, .unset, .unset, .unset, .unset, .unset, .unset, .unset, .unset] [(.int ((p0.toUInt32 >>> ((10 : Int32) &&& 31).toUInt32).toInt32))]))
  refine own_go (fun _ kt => XS.iconst X0.here hx rfl (hb hby at_39) kt) ?_
  show own_G p.tables e below _ (s₁.setTop (mkF m 40 #[.val (.int p0), .val (.int p1), .val (.int p2), .val (.int p3), .val (.int (p0 &&& (3 : Int32))), .val (.int (((p0.toUInt32 >>> ((2 : Int32) &&& 31).toUInt32).toInt32) &&& (3 : Int32))), .val (.int (((p0.toUInt32 >>> ((4 : Int32) &&& 31).toUInt32).toInt32) &&& (3 : Int32))), .val (.int (((p0.toUInt32 >>> ((6 : Int32) &&& 31).toUInt32).toInt32) &&& (3 : Int32))), .val (.int (((p0.toUInt32 >>> ((8 : Int32) &&& 31).toUInt32).toInt32) &&& (3 : Int32))), .unset, .unset, .unset, .unset, .unset, .unset, .unset, .unset, .unset, .unset, .unset, .unset] [(.int (3 : Int32)), (.int ((p0.toUInt32 >>> ((10 : Int32) &&& 31).toUInt32).toInt32))]))
  refine own_go (fun _ kt => XS.iand X0.here hx rfl (hb hby at_40) rfl kt) ?_
  show own_G p.tables e below _ (s₁.setTop (mkF m 41 #[.val (.int p0), .val (.int p1), .val (.int p2), .val (.int p3), .val (.int (p0 &&& (3 : Int32))), .val (.int (((p0.toUInt32 >>> ((2 : Int32) &&& 31).toUInt32).toInt32) &&& (3 : Int32))), .val (.int (((p0.toUInt32 >>> ((4 : Int32) &&& 31).toUInt32).toInt32) &&& (3 : Int32))), .val (.int (((p0.toUInt32 >>> ((6 : Int32) &&& 31).toUInt32).toInt32) &&& (3 : Int32))), .val (.int (((p0.toUInt32 >>> ((8 : Int32) &&& 31).toUInt32).toInt32) &&& (3 : Int32))), .unset, .unset, .unset, .unset, .unset, .unset, .unset, .unset, .unset, .unset, .unset, .unset] [(.int (((p0.toUInt32 >>> ((10 : Int32) &&& 31).toUInt32).toInt32) &&& (3 : Int32)))]))
  refine own_go (fun _ kt => XS.istore X0.here hx rfl (hb hby at_41) rfl (l' := #[.val (.int p0), .val (.int p1), .val (.int p2), .val (.int p3), .val (.int (p0 &&& (3 : Int32))), .val (.int (((p0.toUInt32 >>> ((2 : Int32) &&& 31).toUInt32).toInt32) &&& (3 : Int32))), .val (.int (((p0.toUInt32 >>> ((4 : Int32) &&& 31).toUInt32).toInt32) &&& (3 : Int32))), .val (.int (((p0.toUInt32 >>> ((6 : Int32) &&& 31).toUInt32).toInt32) &&& (3 : Int32))), .val (.int (((p0.toUInt32 >>> ((8 : Int32) &&& 31).toUInt32).toInt32) &&& (3 : Int32))), .val (.int (((p0.toUInt32 >>> ((10 : Int32) &&& 31).toUInt32).toInt32) &&& (3 : Int32))), .unset, .unset, .unset, .unset, .unset, .unset, .unset, .unset, .unset, .unset, .unset]) rfl kt) ?_
  show own_G p.tables e below _ (s₁.setTop (mkF m 43 #[.val (.int p0), .val (.int p1), .val (.int p2), .val (.int p3), .val (.int (p0 &&& (3 : Int32))), .val (.int (((p0.toUInt32 >>> ((2 : Int32) &&& 31).toUInt32).toInt32) &&& (3 : Int32))), .val (.int (((p0.toUInt32 >>> ((4 : Int32) &&& 31).toUInt32).toInt32) &&& (3 : Int32))), .val (.int (((p0.toUInt32 >>> ((6 : Int32) &&& 31).toUInt32).toInt32) &&& (3 : Int32))), .val (.int (((p0.toUInt32 >>> ((8 : Int32) &&& 31).toUInt32).toInt32) &&& (3 : Int32))), .val (.int (((p0.toUInt32 >>> ((10 : Int32) &&& 31).toUInt32).toInt32) &&& (3 : Int32))), .unset, .unset, .unset, .unset, .unset, .unset, .unset, .unset, .unset, .unset, .unset] []))
  refine own_go (fun _ kt => XS.iloadN X0.here hx rfl (hb hby at_43) rfl kt) ?_
  show own_G p.tables e below _ (s₁.setTop (mkF m 44 #[.val (.int p0), .val (.int p1), .val (.int p2), .val (.int p3), .val (.int (p0 &&& (3 : Int32))), .val (.int (((p0.toUInt32 >>> ((2 : Int32) &&& 31).toUInt32).toInt32) &&& (3 : Int32))), .val (.int (((p0.toUInt32 >>> ((4 : Int32) &&& 31).toUInt32).toInt32) &&& (3 : Int32))), .val (.int (((p0.toUInt32 >>> ((6 : Int32) &&& 31).toUInt32).toInt32) &&& (3 : Int32))), .val (.int (((p0.toUInt32 >>> ((8 : Int32) &&& 31).toUInt32).toInt32) &&& (3 : Int32))), .val (.int (((p0.toUInt32 >>> ((10 : Int32) &&& 31).toUInt32).toInt32) &&& (3 : Int32))), .unset, .unset, .unset, .unset, .unset, .unset, .unset, .unset, .unset, .unset, .unset] [(.int p1)]))
  refine own_go (fun _ kt => XS.iconst X0.here hx rfl (hb hby at_44) kt) ?_
  show own_G p.tables e below _ (s₁.setTop (mkF m 45 #[.val (.int p0), .val (.int p1), .val (.int p2), .val (.int p3), .val (.int (p0 &&& (3 : Int32))), .val (.int (((p0.toUInt32 >>> ((2 : Int32) &&& 31).toUInt32).toInt32) &&& (3 : Int32))), .val (.int (((p0.toUInt32 >>> ((4 : Int32) &&& 31).toUInt32).toInt32) &&& (3 : Int32))), .val (.int (((p0.toUInt32 >>> ((6 : Int32) &&& 31).toUInt32).toInt32) &&& (3 : Int32))), .val (.int (((p0.toUInt32 >>> ((8 : Int32) &&& 31).toUInt32).toInt32) &&& (3 : Int32))), .val (.int (((p0.toUInt32 >>> ((10 : Int32) &&& 31).toUInt32).toInt32) &&& (3 : Int32))), .unset, .unset, .unset, .unset, .unset, .unset, .unset, .unset, .unset, .unset, .unset] [(.int (3 : Int32)), (.int p1)]))
  refine own_go (fun _ kt => XS.iand X0.here hx rfl (hb hby at_45) rfl kt) ?_
  show own_G p.tables e below _ (s₁.setTop (mkF m 46 #[.val (.int p0), .val (.int p1), .val (.int p2), .val (.int p3), .val (.int (p0 &&& (3 : Int32))), .val (.int (((p0.toUInt32 >>> ((2 : Int32) &&& 31).toUInt32).toInt32) &&& (3 : Int32))), .val (.int (((p0.toUInt32 >>> ((4 : Int32) &&& 31).toUInt32).toInt32) &&& (3 : Int32))), .val (.int (((p0.toUInt32 >>> ((6 : Int32) &&& 31).toUInt32).toInt32) &&& (3 : Int32))), .val (.int (((p0.toUInt32 >>> ((8 : Int32) &&& 31).toUInt32).toInt32) &&& (3 : Int32))), .val (.int (((p0.toUInt32 >>> ((10 : Int32) &&& 31).toUInt32).toInt32) &&& (3 : Int32))), .unset, .unset, .unset, .unset, .unset, .unset, .unset, .unset, .unset, .unset, .unset] [(.int (p1 &&& (3 : Int32)))]))
  refine own_go (fun _ kt => XS.istore X0.here hx rfl (hb hby at_46) rfl (l' := #[.val (.int p0), .val (.int p1), .val (.int p2), .val (.int p3), .val (.int (p0 &&& (3 : Int32))), .val (.int (((p0.toUInt32 >>> ((2 : Int32) &&& 31).toUInt32).toInt32) &&& (3 : Int32))), .val (.int (((p0.toUInt32 >>> ((4 : Int32) &&& 31).toUInt32).toInt32) &&& (3 : Int32))), .val (.int (((p0.toUInt32 >>> ((6 : Int32) &&& 31).toUInt32).toInt32) &&& (3 : Int32))), .val (.int (((p0.toUInt32 >>> ((8 : Int32) &&& 31).toUInt32).toInt32) &&& (3 : Int32))), .val (.int (((p0.toUInt32 >>> ((10 : Int32) &&& 31).toUInt32).toInt32) &&& (3 : Int32))), .val (.int (p1 &&& (3 : Int32))), .unset, .unset, .unset, .unset, .unset, .unset, .unset, .unset, .unset, .unset]) rfl kt) ?_
  show own_G p.tables e below _ (s₁.setTop (mkF m 48 #[.val (.int p0), .val (.int p1), .val (.int p2), .val (.int p3), .val (.int (p0 &&& (3 : Int32))), .val (.int (((p0.toUInt32 >>> ((2 : Int32) &&& 31).toUInt32).toInt32) &&& (3 : Int32))), .val (.int (((p0.toUInt32 >>> ((4 : Int32) &&& 31).toUInt32).toInt32) &&& (3 : Int32))), .val (.int (((p0.toUInt32 >>> ((6 : Int32) &&& 31).toUInt32).toInt32) &&& (3 : Int32))), .val (.int (((p0.toUInt32 >>> ((8 : Int32) &&& 31).toUInt32).toInt32) &&& (3 : Int32))), .val (.int (((p0.toUInt32 >>> ((10 : Int32) &&& 31).toUInt32).toInt32) &&& (3 : Int32))), .val (.int (p1 &&& (3 : Int32))), .unset, .unset, .unset, .unset, .unset, .unset, .unset, .unset, .unset, .unset] []))
  refine own_go (fun _ kt => XS.iloadN X0.here hx rfl (hb hby at_48) rfl kt) ?_
  show own_G p.tables e below _ (s₁.setTop (mkF m 49 #[.val (.int p0), .val (.int p1), .val (.int p2), .val (.int p3), .val (.int (p0 &&& (3 : Int32))), .val (.int (((p0.toUInt32 >>> ((2 : Int32) &&& 31).toUInt32).toInt32) &&& (3 : Int32))), .val (.int (((p0.toUInt32 >>> ((4 : Int32) &&& 31).toUInt32).toInt32) &&& (3 : Int32))), .val (.int (((p0.toUInt32 >>> ((6 : Int32) &&& 31).toUInt32).toInt32) &&& (3 : Int32))), .val (.int (((p0.toUInt32 >>> ((8 : Int32) &&& 31).toUInt32).toInt32) &&& (3 : Int32))), .val (.int (((p0.toUInt32 >>> ((10 : Int32) &&& 31).toUInt32).toInt32) &&& (3 : Int32))), .val (.int (p1 &&& (3 : Int32))), .unset, .unset, .unset, .unset, .unset, .unset, .unset, .unset, .unset, .unset] [(.int p2)]))
  refine own_go (fun _ kt => XS.iconst X0.here hx rfl (hb hby at_49) kt) ?_
  show own_G p.tables e below _ (s₁.setTop (mkF m 50 #[.val (.int p0), .val (.int p1), .val (.int p2), .val (.int p3), .val (.int (p0 &&& (3 : Int32))), .val (.int (((p0.toUInt32 >>> ((2 : Int32) &&& 31).toUInt32).toInt32) &&& (3 : Int32))), .val (.int (((p0.toUInt32 >>> ((4 : Int32) &&& 31).toUInt32).toInt32) &&& (3 : Int32))), .val (.int (((p0.toUInt32 >>> ((6 : Int32) &&& 31).toUInt32).toInt32) &&& (3 : Int32))), .val (.int (((p0.toUInt32 >>> ((8 : Int32) &&& 31).toUInt32).toInt32) &&& (3 : Int32))), .val (.int (((p0.toUInt32 >>> ((10 : Int32) &&& 31).toUInt32).toInt32) &&& (3 : Int32))), .val (.int (p1 &&& (3 : Int32))), .unset, .unset, .unset, .unset, .unset, .unset, .unset, .unset, .unset, .unset] [(.int (3 : Int32)), (.int p2)]))
  refine own_go (fun _ kt => XS.iand X0.here hx rfl (hb hby at_50) rfl kt) ?_
  show own_G p.tables e below _ (s₁.setTop (mkF m 51 #[.val (.int p0), .val (.int p1), .val (.int p2), .val (.int p3), .val (.int (p0 &&& (3 : Int32))), .val (.int (((p0.toUInt32 >>> ((2 : Int32) &&& 31).toUInt32).toInt32) &&& (3 : Int32))), .val (.int (((p0.toUInt32 >>> ((4 : Int32) &&& 31).toUInt32).toInt32) &&& (3 : Int32))), .val (.int (((p0.toUInt32 >>> ((6 : Int32) &&& 31).toUInt32).toInt32) &&& (3 : Int32))), .val (.int (((p0.toUInt32 >>> ((8 : Int32) &&& 31).toUInt32).toInt32) &&& (3 : Int32))), .val (.int (((p0.toUInt32 >>> ((10 : Int32) &&& 31).toUInt32).toInt32) &&& (3 : Int32))), .val (.int (p1 &&& (3 : Int32))), .unset, .unset, .unset, .unset, .unset, .unset, .unset, .unset, .unset, .unset] [(.int (p2 &&& (3 : Int32)))]))
  refine own_go (fun _ kt => XS.istore X0.here hx rfl (hb hby at_51) rfl (l' := #[.val (.int p0), .val (.int p1), .val (.int p2), .val (.int p3), .val (.int (p0 &&& (3 : Int32))), .val (.int (((p0.toUInt32 >>> ((2 : Int32) &&& 31).toUInt32).toInt32) &&& (3 : Int32))), .val (.int (((p0.toUInt32 >>> ((4 : Int32) &&& 31).toUInt32).toInt32) &&& (3 : Int32))), .val (.int (((p0.toUInt32 >>> ((6 : Int32) &&& 31).toUInt32).toInt32) &&& (3 : Int32))), .val (.int (((p0.toUInt32 >>> ((8 : Int32) &&& 31).toUInt32).toInt32) &&& (3 : Int32))), .val (.int (((p0.toUInt32 >>> ((10 : Int32) &&& 31).toUInt32).toInt32) &&& (3 : Int32))), .val (.int (p1 &&& (3 : Int32))), .val (.int (p2 &&& (3 : Int32))), .unset, .unset, .unset, .unset, .unset, .unset, .unset, .unset, .unset]) rfl kt) ?_
  show own_G p.tables e below _ (s₁.setTop (mkF m 53 #[.val (.int p0), .val (.int p1), .val (.int p2), .val (.int p3), .val (.int (p0 &&& (3 : Int32))), .val (.int (((p0.toUInt32 >>> ((2 : Int32) &&& 31).toUInt32).toInt32) &&& (3 : Int32))), .val (.int (((p0.toUInt32 >>> ((4 : Int32) &&& 31).toUInt32).toInt32) &&& (3 : Int32))), .val (.int (((p0.toUInt32 >>> ((6 : Int32) &&& 31).toUInt32).toInt32) &&& (3 : Int32))), .val (.int (((p0.toUInt32 >>> ((8 : Int32) &&& 31).toUInt32).toInt32) &&& (3 : Int32))), .val (.int (((p0.toUInt32 >>> ((10 : Int32) &&& 31).toUInt32).toInt32) &&& (3 : Int32))), .val (.int (p1 &&& (3 : Int32))), .val (.int (p2 &&& (3 : Int32))), .unset, .unset, .unset, .unset, .unset, .unset, .unset, .unset, .unset] []))
  refine own_go (fun _ kt => XS.iloadN X0.here hx rfl (hb hby at_53) rfl kt) ?_
  show own_G p.tables e below _ (s₁.setTop (mkF m 54 #[.val (.int p0), .val (.int p1), .val (.int p2), .val (.int p3), .val (.int (p0 &&& (3 : Int32))), .val (.int (((p0.toUInt32 >>> ((2 : Int32) &&& 31).toUInt32).toInt32) &&& (3 : Int32))), .val (.int (((p0.toUInt32 >>> ((4 : Int32) &&& 31).toUInt32).toInt32) &&& (3 : Int32))), .val (.int (((p0.toUInt32 >>> ((6 : Int32) &&& 31).toUInt32).toInt32) &&& (3 : Int32))), .val (.int (((p0.toUInt32 >>> ((8 : Int32) &&& 31).toUInt32).toInt32) &&& (3 : Int32))), .val (.int (((p0.toUInt32 >>> ((10 : Int32) &&& 31).toUInt32).toInt32) &&& (3 : Int32))), .val (.int (p1 &&& (3 : Int32))), .val (.int (p2 &&& (3 : Int32))), .unset, .unset, .unset, .unset, .unset, .unset, .unset, .unset, .unset] [(.int p3)]))
  refine own_go (fun _ kt => XS.iconst X0.here hx rfl (hb hby at_54) kt) ?_
  show own_G p.tables e below _ (s₁.setTop (mkF m 55 #[.val (.int p0), .val (.int p1), .val (.int p2), .val (.int p3), .val (.int (p0 &&& (3 : Int32))), .val (.int (((p0.toUInt32 >>> ((2 : Int32) &&& 31).toUInt32).toInt32) &&& (3 : Int32))), .val (.int (((p0.toUInt32 >>> ((4 : Int32) &&& 31).toUInt32).toInt32) &&& (3 : Int32))), .val (.int (((p0.toUInt32 >>> ((6 : Int32) &&& 31).toUInt32).toInt32) &&& (3 : Int32))), .val (.int (((p0.toUInt32 >>> ((8 : Int32) &&& 31).toUInt32).toInt32) &&& (3 : Int32))), .val (.int (((p0.toUInt32 >>> ((10 : Int32) &&& 31).toUInt32).toInt32) &&& (3 : Int32))), .val (.int (p1 &&& (3 : Int32))), .val (.int (p2 &&& (3 : Int32))), .unset, .unset, .unset, .unset, .unset, .unset, .unset, .unset, .unset] [(.int (3 : Int32)), (.int p3)]))
  refine own_go (fun _ kt => XS.iand X0.here hx rfl (hb hby at_55) rfl kt) ?_
  show own_G p.tables e below _ (s₁.setTop (mkF m 56 #[.val (.int p0), .val (.int p1), .val (.int p2), .val (.int p3), .val (.int (p0 &&& (3 : Int32))), .val (.int (((p0.toUInt32 >>> ((2 : Int32) &&& 31).toUInt32).toInt32) &&& (3 : Int32))), .val (.int (((p0.toUInt32 >>> ((4 : Int32) &&& 31).toUInt32).toInt32) &&& (3 : Int32))), .val (.int (((p0.toUInt32 >>> ((6 : Int32) &&& 31).toUInt32).toInt32) &&& (3 : Int32))), .val (.int (((p0.toUInt32 >>> ((8 : Int32) &&& 31).toUInt32).toInt32) &&& (3 : Int32))), .val (.int (((p0.toUInt32 >>> ((10 : Int32) &&& 31).toUInt32).toInt32) &&& (3 : Int32))), .val (.int (p1 &&& (3 : Int32))), .val (.int (p2 &&& (3 : Int32))), .unset, .unset, .unset, .unset, .unset, .unset, .unset, .unset, .unset] [(.int (p3 &&& (3 : Int32)))]))
  refine own_go (fun _ kt => XS.istore X0.here hx rfl (hb hby at_56) rfl (l' := #[.val (.int p0), .val (.int p1), .val (.int p2), .val (.int p3), .val (.int (p0 &&& (3 : Int32))), .val (.int (((p0.toUInt32 >>> ((2 : Int32) &&& 31).toUInt32).toInt32) &&& (3 : Int32))), .val (.int (((p0.toUInt32 >>> ((4 : Int32) &&& 31).toUInt32).toInt32) &&& (3 : Int32))), .val (.int (((p0.toUInt32 >>> ((6 : Int32) &&& 31).toUInt32).toInt32) &&& (3 : Int32))), .val (.int (((p0.toUInt32 >>> ((8 : Int32) &&& 31).toUInt32).toInt32) &&& (3 : Int32))), .val (.int (((p0.toUInt32 >>> ((10 : Int32) &&& 31).toUInt32).toInt32) &&& (3 : Int32))), .val (.int (p1 &&& (3 : Int32))), .val (.int (p2 &&& (3 : Int32))), .val (.int (p3 &&& (3 : Int32))), .unset, .unset, .unset, .unset, .unset, .unset, .unset, .unset]) rfl kt) ?_
  show own_G p.tables e below _ (s₁.setTop (mkF m 58 #[.val (.int p0), .val (.int p1), .val (.int p2), .val (.int p3), .val (.int (p0 &&& (3 : Int32))), .val (.int (((p0.toUInt32 >>> ((2 : Int32) &&& 31).toUInt32).toInt32) &&& (3 : Int32))), .val (.int (((p0.toUInt32 >>> ((4 : Int32) &&& 31).toUInt32).toInt32) &&& (3 : Int32))), .val (.int (((p0.toUInt32 >>> ((6 : Int32) &&& 31).toUInt32).toInt32) &&& (3 : Int32))), .val (.int (((p0.toUInt32 >>> ((8 : Int32) &&& 31).toUInt32).toInt32) &&& (3 : Int32))), .val (.int (((p0.toUInt32 >>> ((10 : Int32) &&& 31).toUInt32).toInt32) &&& (3 : Int32))), .val (.int (p1 &&& (3 : Int32))), .val (.int (p2 &&& (3 : Int32))), .val (.int (p3 &&& (3 : Int32))), .unset, .unset, .unset, .unset, .unset, .unset, .unset, .unset] []))
  obtain ⟨x0, hx0⟩ := own_mask3 p0
  obtain ⟨x1, hx1⟩ := own_mask3 ((p0.toUInt32 >>> ((2 : Int32) &&& 31).toUInt32).toInt32)
  obtain ⟨x2, hx2⟩ := own_mask3 ((p0.toUInt32 >>> ((4 : Int32) &&& 31).toUInt32).toInt32)
  obtain ⟨x3, hx3⟩ := own_mask3 ((p0.toUInt32 >>> ((6 : Int32) &&& 31).toUInt32).toInt32)
  obtain ⟨x4, hx4⟩ := own_mask3 ((p0.toUInt32 >>> ((8 : Int32) &&& 31).toUInt32).toInt32)
  obtain ⟨x5, hx5⟩ := own_mask3 ((p0.toUInt32 >>> ((10 : Int32) &&& 31).toUInt32).toInt32)
  obtain ⟨x6, hx6⟩ := own_mask3 p1
  obtain ⟨x7, hx7⟩ := own_mask3 p2
  obtain ⟨x8, hx8⟩ := own_mask3 p3
  rw [hx0, hx1, hx2, hx3, hx4, hx5, hx6, hx7, hx8]
  show own_G p.tables e below _ (s₁.setTop (mkF m 58 #[.val (.int p0), .val (.int p1), .val (.int p2), .val (.int p3), .val (.int (own_n x0)), .val (.int (own_n x1)), .val (.int (own_n x2)), .val (.int (own_n x3)), .val (.int (own_n x4)), .val (.int (own_n x5)), .val (.int (own_n x6)), .val (.int (own_n x7)), .val (.int (own_n x8)), .unset, .unset, .unset, .unset, .unset, .unset, .unset, .unset] []))
  exact j58 _ _ _ x0 x1 x2 x3 x4 x5 x6 x7 x8 X0 e0 N0 Z0 
set_option maxRecDepth 65536 in
set_option maxHeartbeats 40000000 in
theorem comes_1 {Post : Tables → Env → Array Value → State → Outcome → State → Prop} (hpost : ∀ tb e args s v u, (limb_1_1.after args s (.returned v) u = true ∧ limb_1_2.after args s (.returned v) u = true ∧ True) → FrameEnd s (.returned v) u (Jvm.fieldLocs frame_1_writes args s ++ Jvm.arrayLocs frame_1_arrays args s ++ Jvm.staticLocs frame_1_statics s) 16 128 → Post tb e args s (.returned v) u) :
    ArmFor flags0 classFile x code maxLocals ret World_1 tables_1 room_1 Calls_1 rest_1 Pre_1 Post := by
  intro l hfl _ _ p e ha hc hk s m args below hf hA hF happ hP
  obtain ⟨hcalls, hrest, hpre⟩ := hP
  obtain ⟨-, -, -, hnamed, -, -, -, hat⟩ := (Spec.applies_iff hf).mp happ
  obtain ⟨hg, hn⟩ := and_e (Cond.before_iff.mp (show (Jvm.Cond.and given_1 narrow_1).before args s = true from hpre))
  obtain ⟨a0, b0⟩ := and_e hg
  obtain ⟨a1, b1⟩ := and_e b0
  obtain ⟨a2, b2⟩ := and_e b1
  obtain ⟨a3, b3⟩ := and_e b2
  obtain ⟨w0, w1, w2, w3, rfl⟩ : ∃ w0 w1 w2 w3 : Value, args = #[w0, w1, w2, w3] := by
    have hs : args.size = 4 := by simpa [Cond.value, given_1] using a0
    obtain ⟨L⟩ := args
    match L, hs with
    | [w0, w1, w2, w3], _ => exact ⟨w0, w1, w2, w3, rfl⟩
  have hw := fun d (hd : d ∈ tables_1) => atoms_spec (ws := Jvm.Cond.code x code maxLocals ret :: tables_1) hat d (List.mem_cons_of_mem _ hd)
  obtain ⟨i0, ei0⟩ := is_v a1
  obtain rfl : w0 = (.int i0) := Option.some.inj ei0
  obtain ⟨i1, ei1⟩ := is_v a2
  obtain rfl : w1 = (.int i1) := Option.some.inj ei1
  obtain ⟨i2, ei2⟩ := is_v a3
  obtain rfl : w2 = (.int i2) := Option.some.inj ei2
  obtain ⟨i3, ei3⟩ := is_v b3
  obtain rfl : w3 = (.int i3) := Option.some.inj ei3
  obtain ⟨n, o, h1, h2, h3, _, L, rfl, ⟨rfl, N⟩, hq⟩ := rm_law l s _ hw tables_1 i0 i1 i2 i3 s.heap s.heap.size (Nat.le_refl _) p e ha hc hk s m _ below hf ((Spec.applies_iff_loose hf).mp happ).1 ⟨rfl, State.Warmed39.refl s, rfl⟩ trivial
  refine ⟨n, _, h1, h2, h3, hpost _ _ _ _ _ _ ⟨Cond.after_iff.mpr rfl, Cond.after_iff.mpr (eq_i res_at (Term.int_eval (1)) rfl), trivial⟩ ⟨hq.1, hq.2.1, (hq.2.2.sift fun y hy => Or.inr (N y hy)).mono (by decide) (by decide)⟩⟩
theorem main_1_1 : Claimed_1_1 := comes_1 fun _ _ _ _ _ _ h hF => ⟨h.1, hF⟩
theorem main_1_2 : Claimed_1_2 := comes_1 fun _ _ _ _ _ _ h hF => ⟨h.2.1, hF⟩
end Jvm.Pilot.@@N@@
namespace Jvm.Pilot.@@N@@
open Jvm Jvm.ClassFile Sem Op Lib Jvm.Free Jvm.Stand Jvm.Pilot.@@N@@.Jvm.D
/-! MADE BY PROGRAM (witnessworld.py) out of the Statement's table words and the real class files: 9 classes; the members and pool entries that the words name. The judged class is class 1, her method 2. -/
namespace start1
open Jvm.ClassFile
def u (s : String) : CpInfo := .utf8 (stringToUtf16 s)
/-- a pool by its gaps: so many unusable entries, then the entry; so many at the end -/
def gap : Nat → List CpInfo → List CpInfo
  | 0, r => r
  | n + 1, r => .unusable :: gap n r
def poolList (es : List (Nat × CpInfo)) (last : Nat) : List CpInfo := es.foldr (fun e r => gap e.1 (e.2 :: r)) (gap last [])
def pool (es : List (Nat × CpInfo)) (last : Nat) : Array CpInfo := ⟨poolList es last⟩
def fileOf (pool : Array CpInfo) (this : Nat) (attrs : Array Attribute := #[]) (ms : Array MethodInfo := #[]) (fl : Nat := 33) (sup : Nat := 0) (ifs : Array Nat := #[]) (fds : Array FieldInfo := #[]) : ClassFile where
  minorVersion := 0
  majorVersion := 65
  constantPool := pool
  accessFlags := fl
  thisClass := this
  superClass := sup
  interfaces := ifs
  fields := fds
  methods := ms
  attributes := attrs
def plain (name : String) (sup : Option ClassId) : Class where
  name := name
  kind := .ordinary
  loader := none
  accessFlags := 33
  super := sup
  interfaces := #[]
  cf := none
  fields := #[]
  methods := #[]
  instanceTypes := #[]
  staticTypes := #[]
  resolved := #[]
  callSites := []
  init := .initialized
  statics := none
  mirror := none

def pool0 : Array CpInfo := pool [(5, u "<init>"), (0, u "()V"), (1, .class_ 10), (1, u "java/lang/Object")] 113

def k0c0 : Code := { maxStack := 0, maxLocals := 1, code := object_method_1_code, exceptionTable := #[], attributes := #[] }
def k0m0 : Method := { name := "<init>", desc := "()V", sig := { parameters := [], returnType := none }, accessFlags := 1, code := some k0c0 }
/-- java/lang/Object -/
def k0 : Class := { plain "java/lang/Object" none with
  accessFlags := 33
  interfaces := #[]
  cf := some (fileOf pool0 8 #[] #[{ accessFlags := 1, nameIndex := 5, descriptorIndex := 6, attributes := #[] }] 33 0 #[] #[])
  fields := #[]
  methods := #[k0m0]
  instanceTypes := #[]
  staticTypes := #[]
  resolved := Array.replicate 124 none
  statics := none }

def pool1 : Array CpInfo := pool [(2, .class_ 4), (1, u "java/lang/Object"), (0, u "<init>"), (0, u "()V"), (0, .class_ 8), (0, u "com/example/weftwork/weftwork/graph/DisjointSets"), (0, .methodref 7 10), (0, .nameAndType 5 11), (0, u "(I)V"), (0, .methodref 7 13), (0, .nameAndType 14 15), (0, u "join"), (0, u "(II)V"), (0, .methodref 17 18), (0, .class_ 19), (0, .nameAndType 20 21), (0, u "com/example/weftwork/weftwork/graph/DisjointSetsRootPinLaw"), (0, u "merge"), (0, u "([III)V"), (0, .methodref 7 23), (0, .nameAndType 24 25), (0, u "root"), (0, u "(I)I"), (3, u "law"), (0, u "(IIII)Z")] 4

def k1m0 : Method := { name := "<init>", desc := "()V", sig := { parameters := [], returnType := none }, accessFlags := 2, code := none }
def k1c1 : Code := { maxStack := 3, maxLocals := 5, code := method_2_code, exceptionTable := #[], attributes := #[] }
def k1m1 : Method := { name := "merge", desc := "([III)V", sig := { parameters := [(.array .int), .int, .int], returnType := none }, accessFlags := 10, code := some k1c1 }
def k1c2 : Code := { maxStack := 4, maxLocals := 21, code := code, exceptionTable := #[], attributes := #[] }
def k1m2 : Method := { name := "law", desc := "(IIII)Z", sig := { parameters := [.int, .int, .int, .int], returnType := some .boolean }, accessFlags := 9, code := some k1c2 }
/-- com/example/weftwork/weftwork/graph/DisjointSetsRootPinLaw -/
def k1 : Class := { plain "com/example/weftwork/weftwork/graph/DisjointSetsRootPinLaw" (some 0) with
  accessFlags := 49
  interfaces := #[]
  cf := some (fileOf pool1 17 #[] #[{ accessFlags := 2, nameIndex := 5, descriptorIndex := 6, attributes := #[] }, { accessFlags := 10, nameIndex := 20, descriptorIndex := 21, attributes := #[] }, { accessFlags := 9, nameIndex := 29, descriptorIndex := 30, attributes := #[] }] 49 2 #[] #[])
  fields := #[]
  methods := #[k1m0, k1m1, k1m2]
  instanceTypes := #[]
  staticTypes := #[]
  resolved := Array.replicate 35 none
  statics := none }

def pool2 : Array CpInfo := pool [(1, .methodref 2 3), (0, .class_ 4), (0, .nameAndType 5 6), (0, u "java/lang/Object"), (0, u "<init>"), (0, u "()V"), (0, .fieldref 8 9), (0, .class_ 10), (0, .nameAndType 11 12), (0, u "com/example/weftwork/weftwork/graph/DisjointSets"), (0, u "parent"), (0, u "[I"), (0, .methodref 8 14), (0, .nameAndType 15 16), (0, u "root"), (0, u "(I)I"), (35, u "(I)V"), (3, u "join"), (0, u "(II)V")] 28

def k2c0 : Code := { maxStack := 3, maxLocals := 3, code := prog_6_method_1_code, exceptionTable := #[], attributes := #[] }
def k2m0 : Method := { name := "<init>", desc := "(I)V", sig := { parameters := [.int], returnType := none }, accessFlags := 0, code := some k2c0 }
def k2c1 : Code := { maxStack := 4, maxLocals := 3, code := prog_6_method_2_code, exceptionTable := #[], attributes := #[] }
def k2m1 : Method := { name := "join", desc := "(II)V", sig := { parameters := [.int, .int], returnType := none }, accessFlags := 0, code := some k2c1 }
def k2c2 : Code := { maxStack := 5, maxLocals := 3, code := prog_6_method_4_code, exceptionTable := #[], attributes := #[] }
def k2m2 : Method := { name := "root", desc := "(I)I", sig := { parameters := [.int], returnType := some .int }, accessFlags := 0, code := some k2c2 }
/-- com/example/weftwork/weftwork/graph/DisjointSets -/
def k2 : Class := { plain "com/example/weftwork/weftwork/graph/DisjointSets" (some 0) with
  accessFlags := 48
  interfaces := #[]
  cf := some (fileOf pool2 8 #[] #[{ accessFlags := 0, nameIndex := 5, descriptorIndex := 52, attributes := #[] }, { accessFlags := 0, nameIndex := 56, descriptorIndex := 57, attributes := #[] }, { accessFlags := 0, nameIndex := 15, descriptorIndex := 16, attributes := #[] }] 48 2 #[] #[{ accessFlags := 18, nameIndex := 11, descriptorIndex := 12, attributes := #[] }])
  fields := #[{ name := "parent", type := (.array .int), accessFlags := 18, slot := 0, constantValue := 0 }]
  methods := #[k2m0, k2m1, k2m2]
  instanceTypes := #[(.array .int)]
  staticTypes := #[]
  resolved := Array.replicate 86 none
  statics := none }

def pool3 : Array CpInfo := pool [(1, u "java/lang/Cloneable"), (0, .class_ 1), (0, u "java/lang/Object"), (0, .class_ 3)] 3

/-- java/lang/Cloneable -/
def k3 : Class := { plain "java/lang/Cloneable" (some 0) with
  accessFlags := 1537
  interfaces := #[]
  cf := some (fileOf pool3 2 #[] #[] 1537 4 #[] #[])
  fields := #[]
  methods := #[]
  instanceTypes := #[]
  staticTypes := #[]
  resolved := Array.replicate 8 none
  statics := none }

def pool4 : Array CpInfo := pool [(1, u "java/io/Serializable"), (0, .class_ 1), (0, u "java/lang/Object"), (0, .class_ 3)] 3

/-- java/io/Serializable -/
def k4 : Class := { plain "java/io/Serializable" (some 0) with
  accessFlags := 1537
  interfaces := #[]
  cf := some (fileOf pool4 2 #[] #[] 1537 4 #[] #[])
  fields := #[]
  methods := #[]
  instanceTypes := #[]
  staticTypes := #[]
  resolved := Array.replicate 8 none
  statics := none }

/-- the primitive byte -/
def k5 : Class := { plain "byte" none with kind := .primitive 'B', accessFlags := 0x411 }
/-- [B -/
def k6 : Class := { plain "[B" (some 0) with kind := .array 5 .byte, interfaces := #[3, 4], accessFlags := 1041 }

/-- the primitive int -/
def k7 : Class := { plain "int" none with kind := .primitive 'I', accessFlags := 0x411 }
/-- [I -/
def k8 : Class := { plain "[I" (some 0) with kind := .array 7 .int, interfaces := #[3, 4], accessFlags := 1041 }

def heap : Heap := #[]
def classes : Array Class := #[k0, k1, k2, k3, k4, k5, k6, k7, k8]
def interned : List (Array UInt16 × Addr) := []
def slotsUsed : Nat := 0
def theMethod : MethodId := ⟨1, 2⟩
def args0 : Array Value := #[.int 5, .int 6, .int 7, .int 8]
def aboutOver (below : List Frame) : State where
  vm := { classes := classes, interned := interned.toArray }
  heap := heap
  slotsUsed := slotsUsed
  threads := #[{ frames := .invoking theMethod args0 :: below }]
def below0 : List Frame := [.native { method := ⟨0, 0⟩, args := #[] }]
def about1 : State := aboutOver below0
def p0 : Program := .bare "" "" ""
def e0 : Env := launch0.env 0 0 0
theorem w_frames : about1.frames = Frame.invoking theMethod args0 :: below0 := rfl
set_option maxRecDepth 65536 in
theorem w_args : argsFit about1.vm theMethod args0 = true := by decide +kernel
set_option maxRecDepth 65536 in
theorem w_heap : heapFits about1 = true := by decide +kernel
set_option maxRecDepth 65536 in
theorem w_runnable : about1.curStatus? = some .runnable := by decide +kernel
set_option maxRecDepth 65536 in
theorem w_alone : about1.alone = true := by decide +kernel
set_option maxRecDepth 65536 in
theorem w_named : about1.methodNamed? x = some theMethod := by decide +kernel
set_option maxRecDepth 65536 in
theorem w_hears : about1.hears theMethod below0 = true := by decide +kernel
set_option maxRecDepth 65536 in
theorem w_ripe : about1.ripe theMethod args0 below0 = true := by decide +kernel
theorem w_running : about1.status = .running := rfl
set_option maxRecDepth 65536 in
theorem w_room : about1.hasRoom e0.platform room_1 = true :=
  launch0.hasRoom_least _ room_1 (by decide +kernel) (by decide +kernel) (by decide +kernel) (by decide +kernel) (by decide +kernel) (by decide +kernel)
theorem allAtoms_all (ts : List Jvm.Cond) (a : Array Jvm.Value) (st : Jvm.State) : (allAtoms ts).before a st = ts.all (fun c => c.before a st) := by
  induction ts with
  | nil => rfl
  | cons c t ih =>
    show (Jvm.Cond.and c (allAtoms t)).before a st = _
    rw [Jvm.Cond.before_and, ih, List.all_cons]
def words1 : List Jvm.Cond := Jvm.Cond.code x code maxLocals ret :: tables_1
/-- a 'code' word, met by the world's own term for the bytes: nothing is compared byte by byte -/
theorem code_word {y : MethodName} {bytes : ByteArray} {mx : Nat} {rt : Option FieldType} {a : Array Value} {s : State} {m : MethodId} {meth : Method} {c : Code} (h1 : s.methodNamed? y = some m) (h2 : s.vm.method? m = some meth) (h3 : meth.code = some c) (h4 : c.code = bytes)
    (h5 : (c.maxLocals == mx && c.exceptionTable.isEmpty && decide (c.maxStack ≤ mostOperands) && decide (meth.sig.returnType = rt) && !meth.locks && decide (parseMethodDescriptor y.desc = some meth.sig)) = true) : (Jvm.Cond.code y bytes mx rt).before a s = true := by
  simp only [Bool.and_eq_true, beq_iff_eq, Bool.not_eq_true', decide_eq_true_eq] at h5
  obtain ⟨⟨⟨⟨⟨g1, g2⟩, g3⟩, g4⟩, g5⟩, g6⟩ := h5
  simp [Cond.before, Cond.holds, Cond.value, h1, h2, h3, h4, g1, g2, g3, g4, g5, g6]
def isCode : Jvm.Cond → Bool
  | .code _ _ _ _ => true
  | _ => false
theorem all_split {L : List Jvm.Cond} {P : Jvm.Cond → Bool} (h1 : L.all (fun c => isCode c || P c) = true) (h2 : ∀ c ∈ L.filter isCode, P c = true) : L.all P = true := by
  refine List.all_eq_true.mpr fun c hc => ?_
  have h := List.all_eq_true.mp h1 c hc
  rcases Bool.eq_false_or_eq_true (isCode c) with hi | hi
  · exact h2 c (List.mem_filter.mpr ⟨hc, hi⟩)
  · simpa [hi] using h
set_option maxRecDepth 65536 in
theorem w_c0 : (Jvm.Cond.code x code maxLocals ret).before args0 about1 = true := code_word (m := ⟨1, 2⟩) (meth := k1m2) (c := k1c2) (by decide +kernel) rfl rfl rfl (by decide +kernel)
set_option maxRecDepth 65536 in
theorem w_c1 : (Jvm.Cond.code ({ cls := "com/example/weftwork/weftwork/graph/DisjointSets", name := "<init>", desc := "(I)V" } : Jvm.MethodName) prog_6_method_1_code (3 : Nat) (Option.none : Option Jvm.ClassFile.FieldType)).before args0 about1 = true := code_word (m := ⟨2, 0⟩) (meth := k2m0) (c := k2c0) (by decide +kernel) rfl rfl rfl (by decide +kernel)
set_option maxRecDepth 65536 in
theorem w_c2 : (Jvm.Cond.code ({ cls := "java/lang/Object", name := "<init>", desc := "()V" } : Jvm.MethodName) object_method_1_code (1 : Nat) (Option.none : Option Jvm.ClassFile.FieldType)).before args0 about1 = true := code_word (m := ⟨0, 0⟩) (meth := k0m0) (c := k0c0) (by decide +kernel) rfl rfl rfl (by decide +kernel)
set_option maxRecDepth 65536 in
theorem w_c3 : (Jvm.Cond.code ({ cls := "com/example/weftwork/weftwork/graph/DisjointSets", name := "join", desc := "(II)V" } : Jvm.MethodName) prog_6_method_2_code (3 : Nat) (Option.none : Option Jvm.ClassFile.FieldType)).before args0 about1 = true := code_word (m := ⟨2, 1⟩) (meth := k2m1) (c := k2c1) (by decide +kernel) rfl rfl rfl (by decide +kernel)
set_option maxRecDepth 65536 in
theorem w_c4 : (Jvm.Cond.code ({ cls := "com/example/weftwork/weftwork/graph/DisjointSets", name := "root", desc := "(I)I" } : Jvm.MethodName) prog_6_method_4_code (3 : Nat) (Option.some Jvm.ClassFile.FieldType.int)).before args0 about1 = true := code_word (m := ⟨2, 2⟩) (meth := k2m2) (c := k2c2) (by decide +kernel) rfl rfl rfl (by decide +kernel)
set_option maxRecDepth 65536 in
theorem w_c5 : (Jvm.Cond.code ({ cls := "com/example/weftwork/weftwork/graph/DisjointSetsRootPinLaw", name := "merge", desc := "([III)V" } : Jvm.MethodName) method_2_code (5 : Nat) (Option.none : Option Jvm.ClassFile.FieldType)).before args0 about1 = true := code_word (m := ⟨1, 1⟩) (meth := k1m1) (c := k1c1) (by decide +kernel) rfl rfl rfl (by decide +kernel)
def codes1 : List Jvm.Cond := [Jvm.Cond.code x code maxLocals ret, Jvm.Cond.code ({ cls := "com/example/weftwork/weftwork/graph/DisjointSets", name := "<init>", desc := "(I)V" } : Jvm.MethodName) prog_6_method_1_code (3 : Nat) (Option.none : Option Jvm.ClassFile.FieldType), Jvm.Cond.code ({ cls := "java/lang/Object", name := "<init>", desc := "()V" } : Jvm.MethodName) object_method_1_code (1 : Nat) (Option.none : Option Jvm.ClassFile.FieldType), Jvm.Cond.code ({ cls := "com/example/weftwork/weftwork/graph/DisjointSets", name := "join", desc := "(II)V" } : Jvm.MethodName) prog_6_method_2_code (3 : Nat) (Option.none : Option Jvm.ClassFile.FieldType), Jvm.Cond.code ({ cls := "com/example/weftwork/weftwork/graph/DisjointSets", name := "root", desc := "(I)I" } : Jvm.MethodName) prog_6_method_4_code (3 : Nat) (Option.some Jvm.ClassFile.FieldType.int), Jvm.Cond.code ({ cls := "com/example/weftwork/weftwork/graph/DisjointSetsRootPinLaw", name := "merge", desc := "([III)V" } : Jvm.MethodName) method_2_code (5 : Nat) (Option.none : Option Jvm.ClassFile.FieldType)]
set_option maxRecDepth 65536 in
theorem codes_eq : words1.filter isCode = codes1 := rfl
theorem w_codes : ∀ c ∈ words1.filter isCode, c.before args0 about1 = true := by
  rw [codes_eq]
  intro c hc
  simp only [codes1, List.mem_cons, List.not_mem_nil, or_false] at hc
  rcases hc with rfl | rfl | rfl | rfl | rfl | rfl
  · exact w_c0
  · exact w_c1
  · exact w_c2
  · exact w_c3
  · exact w_c4
  · exact w_c5
set_option maxRecDepth 65536 in
theorem w_t1 : (words1.take 24).all (fun c => isCode c || c.before args0 about1) = true := by decide +kernel
set_option maxRecDepth 65536 in
theorem w_t2 : (words1.drop 24).all (fun c => isCode c || c.before args0 about1) = true := by decide +kernel
theorem w_tables : (allAtoms (Jvm.Cond.code x code maxLocals ret :: tables_1)).before args0 about1 = true := by
  rw [allAtoms_all]
  show words1.all (fun c => c.before args0 about1) = true
  refine all_split ?_ w_codes
  rw [← List.take_append_drop 24 words1, List.all_append, w_t1, w_t2]
  rfl
set_option maxRecDepth 65536 in
theorem w_case : (Jvm.Cond.and given_1 narrow_1).before args0 about1 = true := by decide +kernel
theorem w_applies : (headSpec (Jvm.Cond.code x code maxLocals ret :: tables_1) room_1).applies x e0.platform about1 = true :=
  (Spec.applies_iff w_frames).mpr ⟨w_running, w_runnable, w_alone, w_named, w_hears, w_ripe, w_room, w_tables⟩
theorem atStart : AtStart classFile x code maxLocals ret World_1 tables_1 room_1 Calls_1 rest_1 Pre_1 launch0 p0 e0 about1 theMethod args0 below0 :=
  ⟨lists_1, trivial, launch0.admits_env _ _ _, launch0.least_env, fairChoices_fair.cas, fairChoices_fair.clock, w_frames, w_args, w_heap, w_applies, trivial, trivial, w_case⟩
end start1
theorem witness_1 : WitnessClaimed_1 := ⟨start1.p0, start1.e0, start1.about1, start1.theMethod, start1.args0, start1.below0, start1.atStart⟩
end Jvm.Pilot.@@N@@
