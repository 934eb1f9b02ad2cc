import JvmDerived
import JvmDerived.Pilot.@@N@@Statement
import JvmDerived.Pilot.@@N@@Code
set_option linter.unusedVariables false
set_option linter.unusedSimpArgs false
namespace Jvm.RoadKit
open Sem ClassFile Op Lib Jvm.Stand Jvm.Free Jvm.LawKit
section New
variable {p : Program} {l : Launch} {e : Env} {R : Room} {s : State} {m : MethodId} {args : Array Value} {below : List Frame} {meth : Method} {c : Code} {T : State} {locs : List Loc} {cells slots : Nat}
theorem retI (X : Stand p l e R s m args below meth c T locs cells slots) (hx : p.tables.exec = Jvm.exec) {pc : Nat} {Ls : Array Slot} {z : Int32} {rest : List Value} (hret : meth.sig.returnType = some .int) (hd : decode c.code pc = .ok (.ireturn, 1)) {fs : List Frame}
    (hl : ∀ (f : JFrame) (acts : List Action), f.method = m → f.locked = none → f.entered = [] → (doReturn e (T.setTop f) acts (some (.int z))).1 = T.setFrames fs) : Steps p.tables e below (T.setTop (mkF m pc Ls (.int z :: rest))) (T.setFrames fs) := by
  have hm' : T.vm.method? m = some meth := X.method'
  have hn : narrow .int (.int z) = .int z := rfl
  show Steps p.tables e below (T.setTop { method := m, pc := pc, locals := Ls, stack := _ :: rest, locked := none }) _
  jvm_step X.here [X.here.top, hx, hd, hm', hret, hn]
  first | (intro acts; rw [hl _ acts rfl rfl rfl]) | rw [hl _ _ rfl rfl rfl]
  exact Steps.refl _
end New
end Jvm.RoadKit
namespace Jvm.Pilot.@@N@@
open Jvm Jvm.ClassFile Sem Op Lib Jvm.Free Jvm.Stand Jvm.LawKit Jvm.RoadKit Bundle Jvm.Pilot.@@N@@.Jvm.D
def own_G (tb : Tables) (e : Env) (below : List Frame) (P : State → Outcome → Prop) (st : State) : Prop := ∃ t o, Steps tb e below st t ∧ P t o
theorem own_go {tb : Tables} {e : Env} {below : List Frame} {P : State → Outcome → Prop} {st st' : State} (k : ∀ target, Steps tb e below st' target → Steps tb e below st target) (h : own_G tb e below P st') : own_G tb e below P st := by
  obtain ⟨t, o, h1, h2⟩ := h; exact ⟨t, o, k t h1, h2⟩
theorem own_tr {tb : Tables} {e : Env} {below : List Frame} {P : State → Outcome → Prop} {st st' : State} (k : Steps tb e below st st') (h : own_G tb e below P st') : own_G tb e below P st := by
  obtain ⟨t, o, h1, h2⟩ := h; exact ⟨t, o, k.trans h1, h2⟩
def own_E (below : List Frame) (s : State) (k n : Nat) (Q : Option Value → Heap → List Loc → Prop) (t : State) (o : Outcome) : Prop := t.status = .running ∧ Ended t below o ∧ ∃ v L, o = .returned v ∧ Q v t.heap L ∧ FrameEnd s o t L k n
section OwnRet
variable {p : Program} {l : Launch} {e : Env} {R : Room} {s : State} {m : MethodId} {args : Array Value} {below : List Frame} {meth : Method} {c : Code} {T : State} {locs : List Loc} {cells slots : Nat}
theorem own_retI (X : Stand p l e R s m args below meth c T locs cells slots) (hx : p.tables.exec = Jvm.exec) {pc : Nat} {Ls : Array Slot} {z : Int32} {rest : List Value} (hret : meth.sig.returnType = some .int) (hlk : meth.locks = false) (hd : decode c.code pc = .ok (.ireturn, 1)) {Q : Option Value → Heap → List Loc → Prop} {k n : Nat} (hk : cells ≤ k) (hn : slots ≤ n) {h : Heap} (eT : T.heap = h) (hQ : Q (some (.int z)) h locs) : own_G p.tables e below (own_E below s k n Q) (T.setTop (mkF m pc Ls (.int z :: rest))) := by
  obtain ⟨fs, hr, hrun, hended, hW, hsame⟩ := X.leave (v := some (.int z)) (fun h => by rw [hret] at h; cases h) hlk
  subst eT
  exact ⟨_, _, retI X hx hret hd hr, hrun, hended, _, _, rfl, hQ, ⟨_, rfl⟩, hW, hsame.mono hk hn⟩
theorem own_retN (X : Stand p l e R s m args below meth c T locs cells slots) (hx : p.tables.exec = Jvm.exec) {pc : Nat} {Ls : Array Slot} {z : Int32} {t : FieldType} {rest : List Value} (hret : meth.sig.returnType = some t) (ht : t = .boolean ∨ t = .byte ∨ t = .char ∨ t = .short) (hlk : meth.locks = false) (hd : decode c.code pc = .ok (.ireturn, 1)) {Q : Option Value → Heap → List Loc → Prop} {k n : Nat} (hk : cells ≤ k) (hn : slots ≤ n) {h : Heap} (eT : T.heap = h) (hQ : Q (some (.int (nar t z))) h locs) : own_G p.tables e below (own_E below s k n Q) (T.setTop (mkF m pc Ls (.int z :: rest))) := by
  obtain ⟨fs, hr, hrun, hended, hW, hsame⟩ := X.leave (v := some (.int (nar t z))) (fun h => by rw [hret] at h; cases h) hlk
  subst eT
  exact ⟨_, _, retN X hx hret ht hd hr, hrun, hended, _, _, rfl, hQ, ⟨_, rfl⟩, hW, hsame.mono hk hn⟩
theorem own_retV (X : Stand p l e R s m args below meth c T locs cells slots) (hx : p.tables.exec = Jvm.exec) {pc : Nat} {Ls : Array Slot} (hret : meth.sig.returnType = none) (hlk : meth.locks = false) (hd : decode c.code pc = .ok (.return_, 1)) {Q : Option Value → Heap → List Loc → Prop} {k n : Nat} (hk : cells ≤ k) (hn : slots ≤ n) {h : Heap} (eT : T.heap = h) (hQ : Q none h locs) : own_G p.tables e below (own_E below s k n Q) (T.setTop (mkF m pc Ls [])) := by
  obtain ⟨fs, hr, hrun, hended, hW, hsame⟩ := X.leave (v := none) (fun _ => rfl) hlk
  subst eT
  exact ⟨_, _, X.returnOut hx hret hd hr, hrun, hended, _, _, rfl, hQ, ⟨_, rfl⟩, hW, hsame.mono hk hn⟩
theorem own_retJ (X : Stand p l e R s m args below meth c T locs cells slots) (hx : p.tables.exec = Jvm.exec) {pc : Nat} {Ls : Array Slot} {z : Int64} {rest : List Value} (hret : meth.sig.returnType = some .long) (hlk : meth.locks = false) (hd : decode c.code pc = .ok (.lreturn, 1)) {Q : Option Value → Heap → List Loc → Prop} {k n : Nat} (hk : cells ≤ k) (hn : slots ≤ n) {h : Heap} (eT : T.heap = h) (hQ : Q (some (.long z)) h locs) : own_G p.tables e below (own_E below s k n Q) (T.setTop (mkF m pc Ls (.long z :: rest))) := by
  obtain ⟨fs, hr, hrun, hended, hW, hsame⟩ := X.leave (v := some (.long z)) (fun h => by rw [hret] at h; cases h) hlk
  subst eT
  refine ⟨_, _, ?_, hrun, hended, _, _, rfl, hQ, ⟨_, rfl⟩, hW, hsame.mono hk hn⟩
  jvm_step X.here [X.here.top, hx, hd, X.method', hret, narrow]
  first | (intro acts; rw [hr _ acts rfl rfl rfl]) | rw [hr _ _ rfl rfl rfl]
  exact Steps.refl _
theorem own_retR (X : Stand p l e R s m args below meth c T locs cells slots) (hx : p.tables.exec = Jvm.exec) {pc : Nat} {Ls : Array Slot} {a : Addr} {ty : FieldType} {rest : List Value} (hret : meth.sig.returnType = some ty) (hty : ty.isReference = true) (hlk : meth.locks = false) (hd : decode c.code pc = .ok (.areturn, 1)) {Q : Option Value → Heap → List Loc → Prop} {k n : Nat} (hk : cells ≤ k) (hn : slots ≤ n) {h : Heap} (eT : T.heap = h) (hQ : Q (some (.ref a)) h locs) : own_G p.tables e below (own_E below s k n Q) (T.setTop (mkF m pc Ls (.ref a :: rest))) := by
  obtain ⟨fs, hr, hrun, hended, hW, hsame⟩ := X.leave (v := some (.ref a)) (fun h => by rw [hret] at h; cases h) hlk
  subst eT
  refine ⟨_, _, ?_, hrun, hended, _, _, rfl, hQ, ⟨_, rfl⟩, hW, hsame.mono hk hn⟩
  jvm_step X.here [X.here.top, hx, hd, X.method', hret, Value.isRef, hty]
  first | (intro acts; rw [hr _ acts rfl rfl rfl]) | rw [hr _ _ rfl rfl rfl]
  exact Steps.refl _
end OwnRet
theorem own_selfsel {s : State} {args : Array Value} {y y' : MethodName} (hs : (Cond.selects y.cls y' y').before args s = true) (hyc : y'.cls = y.cls) (hpriv : s.PrivateAt y) (hinst : (Cond.instanceMethod y).before args s = true) (hy : y.cls ≠ "java/lang/invoke/MethodHandle" ∧ y.cls ≠ "java/lang/invoke/VarHandle") : (Cond.selects y.cls y y).before args s = true := by
  obtain ⟨c, r, mm, h1, -, h3, -, mk, h5, h6⟩ := Cond.selects_spec hs
  have h7 := findClass_of_methodNamed h3
  rw [hyc] at h7
  exact selects_self_of_private h7 h5 h6 hpriv hinst hy
theorem own_irem (x y : Int32) : x - (x / y) * y = x % y := by
  have h1 := rng32 (x % y)
  apply Int32.toInt_inj.mp
  rw [Int32.toInt_mod] at h1 ⊢
  rw [Int32.toInt_sub, Int32.toInt_mul, Int32.toInt_div, Int.bmod_mul_bmod, Int.sub_bmod_bmod, show x.toInt - x.toInt.tdiv y.toInt * y.toInt = x.toInt.tmod y.toInt from by rw [Int.tmod_def, Int.mul_comm]]
  exact Int.bmod_eq_of_le_mul_two (by omega) (by omega)
def own_A (Z : State) (h : Heap) (a : Addr) (ty : FieldType) (N : Nat) (f : Nat → Value) : Prop := ∃ c : Cell, Arr Z h a c ty ∧ c.slots.size = N ∧ ∀ j, j < N → c.slots[j]? = some (f j)
def own_upd (f : Nat → Value) (i : Nat) (v : Value) : Nat → Value := fun j => if j = i then v else f j
theorem own_upd_same (f : Nat → Value) (i : Nat) (v : Value) : own_upd f i v i = v := if_pos rfl
theorem own_upd_ne (f : Nat → Value) {i j : Nat} (v : Value) (h : j ≠ i) : own_upd f i v j = f j := if_neg h
theorem own_A.lt {Z : State} {h : Heap} {a : Addr} {ty : FieldType} {N : Nat} {f : Nat → Value} (F : own_A Z h a ty N f) : a < h.size := by obtain ⟨c, A, -⟩ := F; exact A.lt
theorem own_A.ext {Z : State} {h h' : Heap} {a : Addr} {ty : FieldType} {N : Nat} {f : Nat → Value} (F : own_A Z h a ty N f) (E : Ext h h') : own_A Z h' a ty N f := by obtain ⟨c, A, r⟩ := F; exact ⟨c, A.ext E, r⟩
theorem own_A.other {Z : State} {h h' : Heap} {a b : Addr} {sl : Nat} {v : Value} {ty : FieldType} {N : Nat} {f : Nat → Value} (F : own_A Z h b ty N f) (W : Wr h h' a sl v) (q : b ≠ a) : own_A Z h' b ty N f := by obtain ⟨c, A, r⟩ := F; exact ⟨c, A.other W q, r⟩
theorem own_A.keep {Z : State} {h h' : Heap} {a : Addr} {ws : List Addr} {ty : FieldType} {N : Nat} {f : Nat → Value} (F : own_A Z h a ty N f) (K : Keep h h' ws) (q : a ∉ ws) : own_A Z h' a ty N f := by obtain ⟨c, A, r⟩ := F; exact ⟨c, ⟨K.2.1 a c A.1 q, A.2⟩, r⟩
theorem own_A.new {Z : State} {h : Heap} {a : Addr} {k : ClassId} {ty : FieldType} {z : Int32} {N : Nat} (A : Arr Z h a (newA k ty z) ty) (q : z.toNatClampNeg = N) : own_A Z h a ty N (fun _ => defaultValue ty) :=
  ⟨_, A, (sz_new _ _ _).trans q, fun j hj => by rw [← q] at hj; simp [newA, hj]⟩
theorem own_A.set {Z : State} {h h' : Heap} {a : Addr} {ty : FieldType} {N : Nat} {f : Nat → Value} (F : own_A Z h a ty N f) {i : Nat} {v : Value} (W : Wr h h' a i v) : own_A Z h' a ty N (own_upd f i v) := by
  obtain ⟨c, A, S, H⟩ := F
  refine ⟨_, A.same W, by rw [sz_set]; exact S, fun j hj => ?_⟩
  by_cases u : j = i
  · subst u
    rw [own_upd_same]
    simp only [Cell.setSlot]
    exact Array.getElem?_setIfInBounds_self_of_lt (by rw [S]; exact hj)
  · rw [own_upd_ne _ _ u]
    simp only [Cell.setSlot]
    rw [Array.getElem?_setIfInBounds_ne (fun q => u q.symm)]
    exact H j hj
theorem own_A.congr {Z : State} {h : Heap} {a : Addr} {ty : FieldType} {N : Nat} {f g : Nat → Value} (F : own_A Z h a ty N f) (q : ∀ j, j < N → f j = g j) : own_A Z h a ty N g := by
  obtain ⟨c, A, S, H⟩ := F; exact ⟨c, A, S, fun j hj => by rw [← q j hj]; exact H j hj⟩
theorem own_inb {c : Cell} {N : Nat} {j : Int32} (S : c.slots.size = N) (h0 : 0 ≤ j.toInt) (h1 : j.toInt < (N : Int)) : ¬ (j < 0 ∨ c.slots.size ≤ j.toNatClampNeg) := by
  rw [S]
  have e0 : (0 : Int32).toInt = 0 := rfl
  simp only [Int32.lt_iff_toInt_lt, Int32.toNatClampNeg, e0]; omega
theorem own_stI {p : Program} {l : Launch} {e : Env} {R : Room} {s : State} {m : MethodId} {args : Array Value} {below : List Frame} {meth : Method} {c : Code} {T : State} {locs : List Loc} {cells slots : Nat} {Z : State} {h : Heap}
    (X : Stand p l e R s m args below meth c T locs cells slots) (hx : p.tables.exec = Jvm.exec) (hZ : Z.Warmed39 s.vm) (eT : T.heap = h) {a : Addr} {N : Nat} {f : Nat → Value} (A : own_A Z h a .int N f) {j : Int32} {x : Int32} (h0 : 0 ≤ j.toInt) (h1 : j.toInt < (N : Int)) {g : JFrame} (hg : g.method = m) {rest : List Value} (hs : g.stack = .int x :: .int j :: .ref a :: rest) (hd : decode c.code g.pc = .ok (.iastore, 1)) :
    ∃ T' h', Stand p l e R s m args below meth c T' (locs ++ [⟨a, j.toNatClampNeg⟩]) cells slots ∧ T'.heap = h' ∧ Wr h h' a j.toNatClampNeg (.int x) ∧ own_A Z h' a .int N (own_upd f j.toNatClampNeg (.int x)) ∧ ∀ target, Steps p.tables e below (T'.setTop { g with pc := g.pc + 1, stack := rest }) target → Steps p.tables e below (T.setTop g) target := by
  obtain ⟨cl, Ar, S, H⟩ := A
  obtain ⟨T', h', X', e', W, st⟩ := stI X hx hZ eT Ar (own_inb S h0 h1) hg hs hd
  exact ⟨T', h', X', e', W, own_A.set ⟨cl, Ar, S, H⟩ W, st⟩
theorem own_ldI {p : Program} {l : Launch} {e : Env} {R : Room} {s : State} {m : MethodId} {args : Array Value} {below : List Frame} {meth : Method} {c : Code} {T : State} {locs : List Loc} {cells slots : Nat} {Z : State} {h : Heap}
    (X : Stand p l e R s m args below meth c T locs cells slots) (hx : p.tables.exec = Jvm.exec) (hZ : Z.Warmed39 s.vm) (eT : T.heap = h) {a : Addr} {N : Nat} {f : Nat → Value} (A : own_A Z h a .int N f) {j : Int32} {v : Value} (h0 : 0 ≤ j.toInt) (h1 : j.toInt < (N : Int)) (hv : f j.toNatClampNeg = v) {g : JFrame} (hg : g.method = m) {rest : List Value} (hs : g.stack = .int j :: .ref a :: rest) (hd : decode c.code g.pc = .ok (.iaload, 1)) :
    ∀ target, Steps p.tables e below (T.setTop { g with pc := g.pc + 1, stack := v :: rest }) target → Steps p.tables e below (T.setTop g) target := by
  obtain ⟨cl, Ar, S, H⟩ := A
  have hN : j.toNatClampNeg < N := by simp only [Int32.toNatClampNeg]; omega
  exact X.iaload hx (by rw [eT]; exact Ar.1) (State.isArrayOf_alike hZ.alike Ar.2.1) Ar.2.2 (own_inb S h0 h1) (hv ▸ H _ hN) hg hs hd
theorem own_stJ {p : Program} {l : Launch} {e : Env} {R : Room} {s : State} {m : MethodId} {args : Array Value} {below : List Frame} {meth : Method} {c : Code} {T : State} {locs : List Loc} {cells slots : Nat} {Z : State} {h : Heap}
    (X : Stand p l e R s m args below meth c T locs cells slots) (hx : p.tables.exec = Jvm.exec) (hZ : Z.Warmed39 s.vm) (eT : T.heap = h) {a : Addr} {N : Nat} {f : Nat → Value} (A : own_A Z h a .long N f) {j : Int32} {x : Int64} (h0 : 0 ≤ j.toInt) (h1 : j.toInt < (N : Int)) {g : JFrame} (hg : g.method = m) {rest : List Value} (hs : g.stack = .long x :: .int j :: .ref a :: rest) (hd : decode c.code g.pc = .ok (.lastore, 1)) :
    ∃ T' h', Stand p l e R s m args below meth c T' (locs ++ [⟨a, j.toNatClampNeg⟩]) cells slots ∧ T'.heap = h' ∧ Wr h h' a j.toNatClampNeg (.long x) ∧ own_A Z h' a .long N (own_upd f j.toNatClampNeg (.long x)) ∧ ∀ target, Steps p.tables e below (T'.setTop { g with pc := g.pc + 1, stack := rest }) target → Steps p.tables e below (T.setTop g) target := by
  obtain ⟨cl, Ar, S, H⟩ := A
  obtain ⟨T', h', X', e', W, st⟩ := stJ X hx hZ eT Ar (own_inb S h0 h1) hg hs hd
  exact ⟨T', h', X', e', W, own_A.set ⟨cl, Ar, S, H⟩ W, st⟩
theorem own_ldJ {p : Program} {l : Launch} {e : Env} {R : Room} {s : State} {m : MethodId} {args : Array Value} {below : List Frame} {meth : Method} {c : Code} {T : State} {locs : List Loc} {cells slots : Nat} {Z : State} {h : Heap}
    (X : Stand p l e R s m args below meth c T locs cells slots) (hx : p.tables.exec = Jvm.exec) (hZ : Z.Warmed39 s.vm) (eT : T.heap = h) {a : Addr} {N : Nat} {f : Nat → Value} (A : own_A Z h a .long N f) {j : Int32} {v : Value} (h0 : 0 ≤ j.toInt) (h1 : j.toInt < (N : Int)) (hv : f j.toNatClampNeg = v) {g : JFrame} (hg : g.method = m) {rest : List Value} (hs : g.stack = .int j :: .ref a :: rest) (hd : decode c.code g.pc = .ok (.laload, 1)) :
    ∀ target, Steps p.tables e below (T.setTop { g with pc := g.pc + 1, stack := v :: rest }) target → Steps p.tables e below (T.setTop g) target := by
  obtain ⟨cl, Ar, S, H⟩ := A
  have hN : j.toNatClampNeg < N := by simp only [Int32.toNatClampNeg]; omega
  exact X.laload hx (by rw [eT]; exact Ar.1) (State.isArrayOf_alike hZ.alike Ar.2.1) Ar.2.2 (own_inb S h0 h1) (hv ▸ H _ hN) hg hs hd
theorem own_ldB {p : Program} {l : Launch} {e : Env} {R : Room} {s : State} {m : MethodId} {args : Array Value} {below : List Frame} {meth : Method} {c : Code} {T : State} {locs : List Loc} {cells slots : Nat} {Z : State} {h : Heap}
    (X : Stand p l e R s m args below meth c T locs cells slots) (hx : p.tables.exec = Jvm.exec) (hZ : Z.Warmed39 s.vm) (eT : T.heap = h) {a : Addr} {N : Nat} {f : Nat → Value} (A : own_A Z h a .byte N f) {j : Int32} {v : Value} (h0 : 0 ≤ j.toInt) (h1 : j.toInt < (N : Int)) (hv : f j.toNatClampNeg = v) {g : JFrame} (hg : g.method = m) {rest : List Value} (hs : g.stack = .int j :: .ref a :: rest) (hd : decode c.code g.pc = .ok (.baload, 1)) :
    ∀ target, Steps p.tables e below (T.setTop { g with pc := g.pc + 1, stack := v :: rest }) target → Steps p.tables e below (T.setTop g) target := by
  obtain ⟨cl, Ar, S, H⟩ := A
  have hN : j.toNatClampNeg < N := by simp only [Int32.toNatClampNeg]; omega
  exact X.baloadBytes hx (by rw [eT]; exact Ar.1) (State.isArrayOf_alike hZ.alike Ar.2.1) Ar.2.2 (own_inb S h0 h1) (hv ▸ H _ hN) hg hs hd
theorem own_len {p : Program} {l : Launch} {e : Env} {R : Room} {s : State} {m : MethodId} {args : Array Value} {below : List Frame} {meth : Method} {c : Code} {T : State} {locs : List Loc} {cells slots : Nat} {Z : State} {h : Heap}
    (X : Stand p l e R s m args below meth c T locs cells slots) (hx : p.tables.exec = Jvm.exec) (hZ : Z.Warmed39 s.vm) (eT : T.heap = h) {a : Addr} {ty : FieldType} {N : Nat} {f : Nat → Value} (A : own_A Z h a ty N f) {z : Int32} (hz : N.toInt32 = z) {g : JFrame} (hg : g.method = m) {rest : List Value} (hs : g.stack = .ref a :: rest) (hd : decode c.code g.pc = .ok (.arraylength, 1)) :
    ∀ target, Steps p.tables e below (T.setTop { g with pc := g.pc + 1, stack := .int z :: rest }) target → Steps p.tables e below (T.setTop g) target := by
  obtain ⟨cl, Ar, S, H⟩ := A
  subst S hz
  exact X.arraylength hx (by rw [eT]; exact Ar.1) (State.isArrayOf_alike hZ.alike Ar.2.1) hg hs hd
theorem own_ll {x y : Int64} : lcmpW x y < 0 ↔ x.toInt < y.toInt := by rw [lw_lt, Int64.lt_iff_toInt_lt]
theorem own_lg {x y : Int64} : 0 < lcmpW x y ↔ y.toInt < x.toInt := by rw [lw_gt, Int64.lt_iff_toInt_lt]
theorem own_lq {x y : Int64} : lcmpW x y = 0 ↔ x = y := lw_eq x y
theorem own_nll {x y : Int64} (h : ¬ lcmpW x y < 0) : ¬ x.toInt < y.toInt := fun z => h (own_ll.mpr z)
theorem own_nlg {x y : Int64} (h : ¬ 0 < lcmpW x y) : ¬ y.toInt < x.toInt := fun z => h (own_lg.mpr z)
def own_EW (below : List Frame) (s : State) (k n : Nat) (Q : Option Value → Heap → List Loc → Prop) (t : State) (o : Outcome) : Prop := t.status = .running ∧ Ended t below o ∧ ∃ v L, o = .returned v ∧ Q v t.heap L ∧ ReturnedEndW s o t L k n
section OwnRetW
variable {p : Program} {l : Launch} {e : Env} {R : Room} {s : State} {vm₁ : Vm} {m : MethodId} {args : Array Value} {below : List Frame} {meth : Method} {c : Code} {T : State} {locs : List Loc} {cells slots : Nat}
theorem own_retVW (X : Stand p l e R (s.setVm vm₁) m args below meth c T locs cells slots) (hx : p.tables.exec = Jvm.exec) {pc : Nat} {Ls : Array Slot} (hret : meth.sig.returnType = none) (hlk : meth.locks = false) (hd : decode c.code pc = .ok (.return_, 1)) {Q : Option Value → Heap → List Loc → Prop} {n₁ : Nat} (hS : s.Since vm₁ n₁) {h : Heap} (hn₁ : n₁ ≤ h.size) {k n : Nat} (hk : cells ≤ k) (hn : slots ≤ n) (eT : T.heap = h) (hQ : Q none h locs) : own_G p.tables e below (own_EW below s k n Q) (T.setTop (mkF m pc Ls [])) := by
  subst eT
  obtain ⟨fs, hr, hrun, hended, hE⟩ := X.leaveW hS hn₁ (v := none) (fun _ => rfl) hlk
  exact ⟨_, _, X.returnOut hx hret hd hr, hrun, hended, _, _, rfl, hQ, hE.1, hE.2.1, hE.2.2.1, hE.2.2.2.mono hk hn⟩
theorem own_retNW (X : Stand p l e R (s.setVm vm₁) m args below meth c T locs cells slots) (hx : p.tables.exec = Jvm.exec) {pc : Nat} {Ls : Array Slot} {z : Int32} {t : FieldType} {rest : List Value} (hret : meth.sig.returnType = some t) (ht : t = .boolean ∨ t = .byte ∨ t = .char ∨ t = .short) (hlk : meth.locks = false) (hd : decode c.code pc = .ok (.ireturn, 1)) {Q : Option Value → Heap → List Loc → Prop} {n₁ : Nat} (hS : s.Since vm₁ n₁) {h : Heap} (hn₁ : n₁ ≤ h.size) {k n : Nat} (hk : cells ≤ k) (hn : slots ≤ n) (eT : T.heap = h) (hQ : Q (some (.int (nar t z))) h locs) : own_G p.tables e below (own_EW below s k n Q) (T.setTop (mkF m pc Ls (.int z :: rest))) := by
  subst eT
  obtain ⟨fs, hr, hrun, hended, hE⟩ := X.leaveW hS hn₁ (v := some (.int (nar t z))) (fun h => by rw [hret] at h; cases h) hlk
  exact ⟨_, _, retN X hx hret ht hd hr, hrun, hended, _, _, rfl, hQ, hE.1, hE.2.1, hE.2.2.1, hE.2.2.2.mono hk hn⟩
end OwnRetW
theorem own_sA {Z : State} {a0 : Array Value} (hw : ∀ d ∈ tables_1, d.before a0 Z = true) : ∀ a ∈ Bundle.stringAtoms, a.before a0 Z = true := by
  intro a ha
  simp only [Bundle.stringAtoms, List.mem_cons, List.not_mem_nil, or_false] at ha
  rcases ha with rfl | rfl | rfl | rfl | rfl | rfl | rfl
  · exact hw _ (List.mem_of_getElem? (i := 12) rfl)
  · exact hw _ (List.mem_of_getElem? (i := 13) rfl)
  · exact hw _ (List.mem_of_getElem? (i := 0) rfl)
  · exact hw _ (List.mem_of_getElem? (i := 14) rfl)
  · exact hw _ (List.mem_of_getElem? (i := 15) rfl)
  · exact hw _ (List.mem_of_getElem? (i := 16) rfl)
  · exact hw _ (List.mem_of_getElem? (i := 17) rfl)
theorem d3_0 : decode jdk_31_method_11_code 0 = .ok (.aload_n 0, 1) := by decide +kernel
theorem d3_1 : decode jdk_31_method_11_code 1 = .ok (.ifnonnull 12, 3) := by decide +kernel
theorem d3_13 : decode jdk_31_method_11_code 13 = .ok (.aload_n 0, 1) := by decide +kernel
theorem d3_14 : decode jdk_31_method_11_code 14 = .ok (.areturn, 1) := by decide +kernel
theorem pn_java_util_Objects : plainName "java/util/Objects" = true := by first | (simp [plainName, overriddenIn]; done) | decide +kernel
theorem ef_rnn (m : MethodId) (p0 : Addr) (p1 : Addr) : entryFrame m #[(.ref p0), (.ref p1)] 2 = mkF m 0 #[.val (.ref p0), .val (.ref p1)] [] := by first | (simp [entryFrame, mkF, argsToLocals, Value.category]; done) | rfl
def Q_rnn (Z : State) (p0 : Addr) (p1 : Addr) (h0 : Heap) (n0 : Nat) (v : Option Value) (h : Heap) (L : List Loc) : Prop := v = some (.ref p0) ∧ Fr n0 L ∧ h = h0
set_option maxRecDepth 65536 in
set_option maxHeartbeats 40000000 in
theorem rm_rnn (l : Launch) (Z : State) (a0 : Array Value) (hw : ∀ d ∈ tables_1, d.before a0 Z = true) (ws : List Jvm.Cond) (p0 : Addr) (p1 : Addr) (h0 : Heap) (n0 : Nat) (Z0 : n0 ≤ h0.size) :
    MetFree l (⟨"java/util/Objects", "requireNonNull", "(Ljava/lang/Object;Ljava/lang/String;)Ljava/lang/Object;"⟩ : MethodName) (head1 (Jvm.Cond.code (⟨"java/util/Objects", "requireNonNull", "(Ljava/lang/Object;Ljava/lang/String;)Ljava/lang/Object;"⟩ : MethodName) jdk_31_method_11_code 2 (some (.object "java/lang/Object")) :: ws) ({ frames := 0, cells := 0, slots := 0, locals := 0 } : Room)) (fun a U => a = #[(.ref p0), (.ref p1)] ∧ Z.Warmed39 U.vm ∧ U.heap = h0) (fun _ _ _ _ _ => True) (fun _ U o U' => ∃ v L, o = .returned v ∧ Q_rnn Z p0 p1 h0 n0 v U'.heap L ∧ FrameEnd U o U' L ({ frames := 0, cells := 0, slots := 0, locals := 0 } : Room).cells ({ frames := 0, cells := 0, slots := 0, locals := 0 } : Room).slots) := by
  refine MetFree.of_bodySF (plainFor_of_name pn_java_util_Objects) hisR ?_
  intro p e s m args below meth c s₁ Bd hml0 hP hK
  obtain ⟨rfl, hZ, hh⟩ := hP
  have hx := Bd.exec
  have hby := Bd.bytes
  have hlk := Bd.notSynchronized
  have hml : c.maxLocals = 2 := hml0
  have hown : s.vm.findClass "java/util/Objects" = some m.cls := findClass_of_methodNamed Bd.named
  have hnm := (name_of_methodNamed Bd.named Bd.method).1
  have X0 : Stand p l e ({ frames := 0, cells := 0, slots := 0, locals := 0 } : Room) s m #[(.ref p0), (.ref p1)] below meth c s₁ [] 0 0 := Stand.of_body Bd
  have e0 : s₁.heap = h0 := by rw [← hh, Bd.state]; rfl
  have N0 := Fr.nil n0
  show own_G p.tables e below (own_E below s ({ frames := 0, cells := 0, slots := 0, locals := 0 } : Room).cells ({ frames := 0, cells := 0, slots := 0, locals := 0 } : Room).slots (Q_rnn Z p0 p1 h0 n0)) _
  refine own_go (fun _ k => castTop (ef_rnn m p0 p1) k) ?_
  show own_G p.tables e below _ (s₁.setTop (mkF m 0 #[.val (.ref p0), .val (.ref p1)] []))
  refine own_go (fun _ kt => XS.aloadN X0.here hx rfl (hb hby d3_0) rfl rfl kt) ?_
  show own_G p.tables e below _ (s₁.setTop (mkF m 1 #[.val (.ref p0), .val (.ref p1)] [(.ref p0)]))
  refine own_go (fun _ kt => XS.ifnonnullYes X0.here hx rfl (pc0 := 1) (pc' := 13) rfl (hb hby d3_1) rfl (by decide) (by decide) kt) ?_
  show own_G p.tables e below _ (s₁.setTop (mkF m 13 #[.val (.ref p0), .val (.ref p1)] []))
  refine own_go (fun _ kt => XS.aloadN X0.here hx rfl (hb hby d3_13) rfl rfl kt) ?_
  show own_G p.tables e below _ (s₁.setTop (mkF m 14 #[.val (.ref p0), .val (.ref p1)] [(.ref p0)]))
  exact own_retR X0 hx Bd.returns rfl hlk (hb hby d3_14) (Nat.le_of_ble_eq_true rfl) (Nat.le_of_ble_eq_true rfl) e0 ⟨rfl, N0, rfl⟩
theorem d5_0 : decode jdk_41_method_13_code 0 = .ok (.iload_n 2, 1) := by decide +kernel
theorem d5_1 : decode jdk_41_method_13_code 1 = .ok (.iload_n 0, 1) := by decide +kernel
theorem d5_2 : decode jdk_41_method_13_code 2 = .ok (.ior, 1) := by decide +kernel
theorem d5_3 : decode jdk_41_method_13_code 3 = .ok (.iload_n 1, 1) := by decide +kernel
theorem d5_4 : decode jdk_41_method_13_code 4 = .ok (.ior, 1) := by decide +kernel
theorem d5_5 : decode jdk_41_method_13_code 5 = .ok (.ifCond .lt 10, 3) := by decide +kernel
theorem d5_8 : decode jdk_41_method_13_code 8 = .ok (.iload_n 1, 1) := by decide +kernel
theorem d5_9 : decode jdk_41_method_13_code 9 = .ok (.iload_n 2, 1) := by decide +kernel
theorem d5_10 : decode jdk_41_method_13_code 10 = .ok (.iload_n 0, 1) := by decide +kernel
theorem d5_11 : decode jdk_41_method_13_code 11 = .ok (.isub, 1) := by decide +kernel
theorem d5_12 : decode jdk_41_method_13_code 12 = .ok (.if_icmp .le 11, 3) := by decide +kernel
theorem d5_23 : decode jdk_41_method_13_code 23 = .ok (.iload_n 0, 1) := by decide +kernel
theorem d5_24 : decode jdk_41_method_13_code 24 = .ok (.ireturn, 1) := by decide +kernel
theorem pn_jdk_internal_util_Preconditions : plainName "jdk/internal/util/Preconditions" = true := by first | (simp [plainName, overriddenIn]; done) | decide +kernel
theorem ef_cf2 (m : MethodId) (p0 : Int32) (p1 : Int32) (p2 : Int32) : entryFrame m #[(.int p0), (.int p1), (.int p2), .null] 4 = mkF m 0 #[.val (.int p0), .val (.int p1), .val (.int p2), .val .null] [] := by first | (simp [entryFrame, mkF, argsToLocals, Value.category]; done) | rfl
def Q_cf2 (Z : State) (p0 : Int32) (p1 : Int32) (p2 : Int32) (h0 : Heap) (n0 : Nat) (v : Option Value) (h : Heap) (L : List Loc) : Prop := v = some (.int p0) ∧ Fr n0 L ∧ h = h0
set_option maxRecDepth 65536 in
set_option maxHeartbeats 40000000 in
theorem rm_cf2 (l : Launch) (Z : State) (a0 : Array Value) (hw : ∀ d ∈ tables_1, d.before a0 Z = true) (ws : List Jvm.Cond) (p0 : Int32) (p1 : Int32) (p2 : Int32) (h0 : Heap) (n0 : Nat) (Z0 : n0 ≤ h0.size) (hb0 : 0 ≤ p0.toInt) (hb1 : 0 ≤ p1.toInt) (hb2 : p0.toInt + p1.toInt ≤ p2.toInt) (hb3 : p2.toInt ≤ 8) :
    MetFree l (⟨"jdk/internal/util/Preconditions", "checkFromIndexSize", "(IIILjava/util/function/BiFunction;)I"⟩ : MethodName) (head1 (Jvm.Cond.code (⟨"jdk/internal/util/Preconditions", "checkFromIndexSize", "(IIILjava/util/function/BiFunction;)I"⟩ : MethodName) jdk_41_method_13_code 4 (some .int) :: ws) ({ frames := 0, cells := 0, slots := 0, locals := 0 } : Room)) (fun a U => a = #[(.int p0), (.int p1), (.int p2), .null] ∧ Z.Warmed39 U.vm ∧ U.heap = h0) (fun _ _ _ _ _ => True) (fun _ U o U' => ∃ v L, o = .returned v ∧ Q_cf2 Z p0 p1 p2 h0 n0 v U'.heap L ∧ FrameEnd U o U' L ({ frames := 0, cells := 0, slots := 0, locals := 0 } : Room).cells ({ frames := 0, cells := 0, slots := 0, locals := 0 } : Room).slots) := by
  refine MetFree.of_bodySF (plainFor_of_name pn_jdk_internal_util_Preconditions) hisR ?_
  intro p e s m args below meth c s₁ Bd hml0 hP hK
  obtain ⟨rfl, hZ, hh⟩ := hP
  have hx := Bd.exec
  have hby := Bd.bytes
  have hlk := Bd.notSynchronized
  have hml : c.maxLocals = 4 := hml0
  have hown : s.vm.findClass "jdk/internal/util/Preconditions" = some m.cls := findClass_of_methodNamed Bd.named
  have hnm := (name_of_methodNamed Bd.named Bd.method).1
  have X0 : Stand p l e ({ frames := 0, cells := 0, slots := 0, locals := 0 } : Room) s m #[(.int p0), (.int p1), (.int p2), .null] below meth c s₁ [] 0 0 := Stand.of_body Bd
  have e0 : s₁.heap = h0 := by rw [← hh, Bd.state]; rfl
  have N0 := Fr.nil n0
  show own_G p.tables e below (own_E below s ({ frames := 0, cells := 0, slots := 0, locals := 0 } : Room).cells ({ frames := 0, cells := 0, slots := 0, locals := 0 } : Room).slots (Q_cf2 Z p0 p1 p2 h0 n0)) _
  refine own_go (fun _ k => castTop (ef_cf2 m p0 p1 p2) k) ?_
  have z0 : (0 : Int32).toInt = 0 := rfl
  show own_G p.tables e below _ (s₁.setTop (mkF m 0 #[.val (.int p0), .val (.int p1), .val (.int p2), .val .null] []))
  refine own_go (fun _ kt => XS.iloadN X0.here hx rfl (hb hby d5_0) rfl kt) ?_
  show own_G p.tables e below _ (s₁.setTop (mkF m 1 #[.val (.int p0), .val (.int p1), .val (.int p2), .val .null] [(.int p2)]))
  refine own_go (fun _ kt => XS.iloadN X0.here hx rfl (hb hby d5_1) rfl kt) ?_
  show own_G p.tables e below _ (s₁.setTop (mkF m 2 #[.val (.int p0), .val (.int p1), .val (.int p2), .val .null] [(.int p0), (.int p2)]))
  refine own_go (fun _ kt => XS.ior X0.here hx rfl (hb hby d5_2) rfl kt) ?_
  show own_G p.tables e below _ (s₁.setTop (mkF m 3 #[.val (.int p0), .val (.int p1), .val (.int p2), .val .null] [(.int (p2 ||| p0))]))
  refine own_go (fun _ kt => XS.iloadN X0.here hx rfl (hb hby d5_3) rfl kt) ?_
  show own_G p.tables e below _ (s₁.setTop (mkF m 4 #[.val (.int p0), .val (.int p1), .val (.int p2), .val .null] [(.int p1), (.int (p2 ||| p0))]))
  refine own_go (fun _ kt => XS.ior X0.here hx rfl (hb hby d5_4) rfl kt) ?_
  show own_G p.tables e below _ (s₁.setTop (mkF m 5 #[.val (.int p0), .val (.int p1), .val (.int p2), .val .null] [(.int ((p2 ||| p0) ||| p1))]))
  refine own_go (fun _ kt => XS.ifNo X0.here hx rfl (hb hby d5_5) rfl ((if0 _ _).trans (flt (by rw [Int32.lt_iff_toInt_lt]; have a := (c_orS p2 p0).1 (by omega) hb0; have b := (c_orS (p2 ||| p0) p1).1 a hb1; omega : ¬ (((p2 ||| p0) ||| p1) < (0 : Int32)))).1) kt) ?_
  show own_G p.tables e below _ (s₁.setTop (mkF m 8 #[.val (.int p0), .val (.int p1), .val (.int p2), .val .null] []))
  refine own_go (fun _ kt => XS.iloadN X0.here hx rfl (hb hby d5_8) rfl kt) ?_
  show own_G p.tables e below _ (s₁.setTop (mkF m 9 #[.val (.int p0), .val (.int p1), .val (.int p2), .val .null] [(.int p1)]))
  refine own_go (fun _ kt => XS.iloadN X0.here hx rfl (hb hby d5_9) rfl kt) ?_
  show own_G p.tables e below _ (s₁.setTop (mkF m 10 #[.val (.int p0), .val (.int p1), .val (.int p2), .val .null] [(.int p2), (.int p1)]))
  refine own_go (fun _ kt => XS.iloadN X0.here hx rfl (hb hby d5_10) rfl kt) ?_
  show own_G p.tables e below _ (s₁.setTop (mkF m 11 #[.val (.int p0), .val (.int p1), .val (.int p2), .val .null] [(.int p0), (.int p2), (.int p1)]))
  refine own_go (fun _ kt => XS.isub X0.here hx rfl (hb hby d5_11) rfl kt) ?_
  show own_G p.tables e below _ (s₁.setTop (mkF m 12 #[.val (.int p0), .val (.int p1), .val (.int p2), .val .null] [(.int (p2 - p0)), (.int p1)]))
  refine own_go (fun _ kt => XS.icmpYes X0.here hx rfl (pc0 := 12) (pc' := 23) rfl (hb hby d5_12) rfl (flt (by rw [Int32.lt_iff_toInt_lt]; have a := c_isub p2 p0; have r := rng32 (p2 - p0); omega : ¬ ((p2 - p0) < p1))).2.2.2 (by decide) (by decide) kt) ?_
  show own_G p.tables e below _ (s₁.setTop (mkF m 23 #[.val (.int p0), .val (.int p1), .val (.int p2), .val .null] []))
  refine own_go (fun _ kt => XS.iloadN X0.here hx rfl (hb hby d5_23) rfl kt) ?_
  show own_G p.tables e below _ (s₁.setTop (mkF m 24 #[.val (.int p0), .val (.int p1), .val (.int p2), .val .null] [(.int p0)]))
  exact own_retI X0 hx Bd.returns hlk (hb hby d5_24) (Nat.le_of_ble_eq_true rfl) (Nat.le_of_ble_eq_true rfl) e0 ⟨rfl, N0, rfl⟩
theorem d4_0 : decode jdk_31_method_19_code 0 = .ok (.iload_n 0, 1) := by decide +kernel
theorem d4_1 : decode jdk_31_method_19_code 1 = .ok (.iload_n 1, 1) := by decide +kernel
theorem d4_2 : decode jdk_31_method_19_code 2 = .ok (.iload_n 2, 1) := by decide +kernel
theorem d4_3 : decode jdk_31_method_19_code 3 = .ok (.aconst_null, 1) := by decide +kernel
theorem d4_4 : decode jdk_31_method_19_code 4 = .ok (.invokestatic 115, 3) := by decide +kernel
theorem pd__IIILjava_util_function_BiFunction__I : parseMethodDescriptor "(IIILjava/util/function/BiFunction;)I" = some ⟨[.int, .int, .int, (.object "java/util/function/BiFunction")], some .int⟩ := by decide +kernel
theorem d4_7 : decode jdk_31_method_19_code 7 = .ok (.ireturn, 1) := by decide +kernel
theorem ef_cf1 (m : MethodId) (p0 : Int32) (p1 : Int32) (p2 : Int32) : entryFrame m #[(.int p0), (.int p1), (.int p2)] 3 = mkF m 0 #[.val (.int p0), .val (.int p1), .val (.int p2)] [] := by first | (simp [entryFrame, mkF, argsToLocals, Value.category]; done) | rfl
def Q_cf1 (Z : State) (p0 : Int32) (p1 : Int32) (p2 : Int32) (h0 : Heap) (n0 : Nat) (v : Option Value) (h : Heap) (L : List Loc) : Prop := v = some (.int p0) ∧ Fr n0 L ∧ h = h0
set_option maxRecDepth 65536 in
set_option maxHeartbeats 40000000 in
theorem rm_cf1 (l : Launch) (Z : State) (a0 : Array Value) (hw : ∀ d ∈ tables_1, d.before a0 Z = true) (ws : List Jvm.Cond) (p0 : Int32) (p1 : Int32) (p2 : Int32) (h0 : Heap) (n0 : Nat) (Z0 : n0 ≤ h0.size) (hb0 : 0 ≤ p0.toInt) (hb1 : 0 ≤ p1.toInt) (hb2 : p0.toInt + p1.toInt ≤ p2.toInt) (hb3 : p2.toInt ≤ 8) :
    MetFree l (⟨"java/util/Objects", "checkFromIndexSize", "(III)I"⟩ : MethodName) (head1 (Jvm.Cond.code (⟨"java/util/Objects", "checkFromIndexSize", "(III)I"⟩ : MethodName) jdk_31_method_19_code 3 (some .int) :: ws) ({ frames := 1, cells := 0, slots := 0, locals := 15 } : Room)) (fun a U => a = #[(.int p0), (.int p1), (.int p2)] ∧ Z.Warmed39 U.vm ∧ U.heap = h0) (fun _ _ _ _ _ => True) (fun _ U o U' => ∃ v L, o = .returned v ∧ Q_cf1 Z p0 p1 p2 h0 n0 v U'.heap L ∧ FrameEnd U o U' L ({ frames := 1, cells := 0, slots := 0, locals := 15 } : Room).cells ({ frames := 1, cells := 0, slots := 0, locals := 15 } : Room).slots) := by
  refine MetFree.of_bodySF (plainFor_of_name pn_java_util_Objects) hisR ?_
  intro p e s m args below meth c s₁ Bd hml0 hP hK
  obtain ⟨rfl, hZ, hh⟩ := hP
  have hx := Bd.exec
  have hby := Bd.bytes
  have hlk := Bd.notSynchronized
  have hml : c.maxLocals = 3 := hml0
  have hown : s.vm.findClass "java/util/Objects" = some m.cls := findClass_of_methodNamed Bd.named
  have hnm := (name_of_methodNamed Bd.named Bd.method).1
  have X0 : Stand p l e ({ frames := 1, cells := 0, slots := 0, locals := 15 } : Room) s m #[(.int p0), (.int p1), (.int p2)] below meth c s₁ [] 0 0 := Stand.of_body Bd
  have e0 : s₁.heap = h0 := by rw [← hh, Bd.state]; rfl
  have N0 := Fr.nil n0
  show own_G p.tables e below (own_E below s ({ frames := 1, cells := 0, slots := 0, locals := 15 } : Room).cells ({ frames := 1, cells := 0, slots := 0, locals := 15 } : Room).slots (Q_cf1 Z p0 p1 p2 h0 n0)) _
  refine own_go (fun _ k => castTop (ef_cf1 m p0 p1 p2) k) ?_
  show own_G p.tables e below _ (s₁.setTop (mkF m 0 #[.val (.int p0), .val (.int p1), .val (.int p2)] []))
  refine own_go (fun _ kt => XS.iloadN X0.here hx rfl (hb hby d4_0) rfl kt) ?_
  show own_G p.tables e below _ (s₁.setTop (mkF m 1 #[.val (.int p0), .val (.int p1), .val (.int p2)] [(.int p0)]))
  refine own_go (fun _ kt => XS.iloadN X0.here hx rfl (hb hby d4_1) rfl kt) ?_
  show own_G p.tables e below _ (s₁.setTop (mkF m 2 #[.val (.int p0), .val (.int p1), .val (.int p2)] [(.int p1), (.int p0)]))
  refine own_go (fun _ kt => XS.iloadN X0.here hx rfl (hb hby d4_2) rfl kt) ?_
  show own_G p.tables e below _ (s₁.setTop (mkF m 3 #[.val (.int p0), .val (.int p1), .val (.int p2)] [(.int p2), (.int p1), (.int p0)]))
  refine own_go (fun _ kt => XS.aconstNull X0.here hx rfl (hb hby d4_3) kt) ?_
  show own_G p.tables e below _ (s₁.setTop (mkF m 4 #[.val (.int p0), .val (.int p1), .val (.int p2)] [.null, (.int p2), (.int p1), (.int p0)]))
  obtain ⟨_, _, ⟨T1, L1, k1, n1⟩, -, X1, ⟨Lc1, hQ1, l1, y1, z1⟩, st1⟩ := Jvm.LawKit.callS X0 hx (y := (⟨"jdk/internal/util/Preconditions", "checkFromIndexSize", "(IIILjava/util/function/BiFunction;)I"⟩ : MethodName)) hown (mvT hZ (hw _ (List.mem_of_getElem? (i := 29) rfl))) (mvT hZ (hw _ (List.mem_of_getElem? (i := 30) rfl))) (mvT hZ (hw _ (List.mem_of_getElem? (i := 31) rfl))) (mvT hZ (hw _ (List.mem_of_getElem? (i := 32) rfl))) (by decide) (backOf (W := 0) (rm_cf2 l Z a0 hw [] p0 p1 p2  h0 n0 Z0 hb0 hb1 hb2 hb3) hZ (hw _ (List.mem_of_getElem? (i := 32) rfl)) (hw _ (List.mem_of_getElem? (i := 31) rfl)) (by decide) (by decide)) (g := (mkF m 4 #[.val (.int p0), .val (.int p1), .val (.int p2)] [.null, (.int p2), (.int p1), (.int p0)])) rfl (by rw [hml]; rfl) (argsL := [(.int p0), (.int p1), (.int p2), .null]) (rest := []) (lenOf pd__IIILjava_util_function_BiFunction__I rfl) rfl (by show 2 * 0 + _ ≤ _; exact Nat.le_of_eq rfl) (hb hby d4_4) (fun _ _ => ⟨rfl, e0, (Nat.le_of_ble_eq_true rfl), (Nat.le_of_ble_eq_true rfl)⟩)
  dsimp only [Pt.U, Pt.locs, Pt.cells, Pt.slots] at X1 l1 y1 z1 st1 hQ1
  subst l1 y1 z1
  obtain ⟨rfl, Nq1, eq1⟩ := hQ1
  have N1 := Fr.app N0 Nq1
  refine own_go st1 ?_
  show own_G p.tables e below _ (T1.setTop (mkF m 7 #[.val (.int p0), .val (.int p1), .val (.int p2)] [(.int p0)]))
  exact own_retI X1 hx Bd.returns hlk (hb hby d4_7) (Nat.le_of_ble_eq_true rfl) (Nat.le_of_ble_eq_true rfl) eq1 ⟨rfl, N1, rfl⟩
def own_P (Z : State) (h : Heap) (n0 : Nat) (b w : Addr) (ps en : Int32) (f : Nat → Value) : Prop :=
  Exa Z h b "com/example/octetry/octetry/io/OctetReader" ∧ Fld Z h b "com/example/octetry/octetry/io/OctetReader" "octets" "[B" (.ref w) ∧ Fld Z h b "com/example/octetry/octetry/io/OctetReader" "position" "I" (.int ps) ∧ Fld Z h b "com/example/octetry/octetry/io/OctetReader" "end" "I" (.int en) ∧ own_A Z h w .byte 8 f ∧ b ≠ w ∧ n0 ≤ b
theorem d1_0 : decode prog_54_method_2_code 0 = .ok (.aload_n 0, 1) := by decide +kernel
theorem d1_1 : decode prog_54_method_2_code 1 = .ok (.invokespecial 17, 3) := by decide +kernel
theorem d1_4 : decode prog_54_method_2_code 4 = .ok (.aload_n 0, 1) := by decide +kernel
theorem d1_5 : decode prog_54_method_2_code 5 = .ok (.aload_n 1, 1) := by decide +kernel
theorem d1_6 : decode prog_54_method_2_code 6 = .ok (.ldc 1, 2) := by decide +kernel
theorem d1_8 : decode prog_54_method_2_code 8 = .ok (.invokestatic 3, 3) := by decide +kernel
theorem pd__Ljava_lang_Object_Ljava_lang_String__Ljava_lang_Object_ : parseMethodDescriptor "(Ljava/lang/Object;Ljava/lang/String;)Ljava/lang/Object;" = some ⟨[(.object "java/lang/Object"), (.object "java/lang/String")], some (.object "java/lang/Object")⟩ := by decide +kernel
theorem d1_11 : decode prog_54_method_2_code 11 = .ok (.checkcast 9, 3) := by decide +kernel
theorem d1_14 : decode prog_54_method_2_code 14 = .ok (.putfield 22, 3) := by decide +kernel
theorem d1_17 : decode prog_54_method_2_code 17 = .ok (.iload_n 2, 1) := by decide +kernel
theorem d1_18 : decode prog_54_method_2_code 18 = .ok (.iload_n 3, 1) := by decide +kernel
theorem d1_19 : decode prog_54_method_2_code 19 = .ok (.aload_n 1, 1) := by decide +kernel
theorem d1_20 : decode prog_54_method_2_code 20 = .ok (.arraylength, 1) := by decide +kernel
theorem d1_21 : decode prog_54_method_2_code 21 = .ok (.invokestatic 24, 3) := by decide +kernel
theorem pd__III_I : parseMethodDescriptor "(III)I" = some ⟨[.int, .int, .int], some .int⟩ := by decide +kernel
theorem d1_24 : decode prog_54_method_2_code 24 = .ok (.pop, 1) := by decide +kernel
theorem d1_25 : decode prog_54_method_2_code 25 = .ok (.aload_n 0, 1) := by decide +kernel
theorem d1_26 : decode prog_54_method_2_code 26 = .ok (.iload_n 2, 1) := by decide +kernel
theorem d1_27 : decode prog_54_method_2_code 27 = .ok (.putfield 28, 3) := by decide +kernel
theorem d1_30 : decode prog_54_method_2_code 30 = .ok (.aload_n 0, 1) := by decide +kernel
theorem d1_31 : decode prog_54_method_2_code 31 = .ok (.iload_n 2, 1) := by decide +kernel
theorem d1_32 : decode prog_54_method_2_code 32 = .ok (.iload_n 3, 1) := by decide +kernel
theorem d1_33 : decode prog_54_method_2_code 33 = .ok (.iadd, 1) := by decide +kernel
theorem d1_34 : decode prog_54_method_2_code 34 = .ok (.putfield 32, 3) := by decide +kernel
theorem d1_37 : decode prog_54_method_2_code 37 = .ok (.return_, 1) := by decide +kernel
theorem pn_com_example_octetry_octetry_io_OctetReader : plainName "com/example/octetry/octetry/io/OctetReader" = true := by first | (simp [plainName, overriddenIn]; done) | decide +kernel
theorem ef_init (m : MethodId) (p0 : Addr) (p1 : Addr) (p2 : Int32) (p3 : Int32) : entryFrame m #[(.ref p0), (.ref p1), (.int p2), (.int p3)] 4 = mkF m 0 #[.val (.ref p0), .val (.ref p1), .val (.int p2), .val (.int p3)] [] := by first | (simp [entryFrame, mkF, argsToLocals, Value.category]; done) | rfl
def Q_init (Z : State) (p0 : Addr) (p1 : Addr) (p2 : Int32) (p3 : Int32) (f : Nat → Value) (h0 : Heap) (n0 : Nat) (v : Option Value) (h : Heap) (L : List Loc) : Prop := v = none ∧ Fr n0 L ∧ Keep h0 h [p0] ∧ own_P Z h n0 p0 p1 p2 (p2 + p3) f
set_option maxRecDepth 65536 in
set_option maxHeartbeats 40000000 in
theorem rm_init (l : Launch) (Z : State) (a0 : Array Value) (hw : ∀ d ∈ tables_1, d.before a0 Z = true) (ws : List Jvm.Cond) (p0 : Addr) (p1 : Addr) (p2 : Int32) (p3 : Int32) (f : Nat → Value) (h0 : Heap) (n0 : Nat) (Z0 : n0 ≤ h0.size) (E0 : Exa Z h0 p0 "com/example/octetry/octetry/io/OctetReader") (g0 : n0 ≤ p0) (F_o : Fld Z h0 p0 "com/example/octetry/octetry/io/OctetReader" "octets" "[B" .null) (F_p : Fld Z h0 p0 "com/example/octetry/octetry/io/OctetReader" "position" "I" (.int (0 : Int32))) (F_e : Fld Z h0 p0 "com/example/octetry/octetry/io/OctetReader" "end" "I" (.int (0 : Int32))) (V0 : own_A Z h0 p1 .byte 8 f) (E1 : Exa Z h0 p1 "[B") (ne01 : p0 ≠ p1) (hb0 : 0 ≤ p2.toInt) (hb1 : 0 ≤ p3.toInt) (hb2 : p2.toInt + p3.toInt ≤ (8 : Int32).toInt) :
    MetFree l (⟨"com/example/octetry/octetry/io/OctetReader", "<init>", "([BII)V"⟩ : MethodName) (head1 (Jvm.Cond.code (⟨"com/example/octetry/octetry/io/OctetReader", "<init>", "([BII)V"⟩ : MethodName) prog_54_method_2_code 4 none :: ws) ({ frames := 2, cells := 2, slots := 28, locals := 29 } : Room)) (fun a U => a = #[(.ref p0), (.ref p1), (.int p2), (.int p3)] ∧ Z.Warmed39 U.vm ∧ U.heap = h0) (fun _ _ _ _ _ => True) (fun _ U o U' => ∃ v L, o = .returned v ∧ Q_init Z p0 p1 p2 p3 f h0 n0 v U'.heap L ∧ ReturnedEndW U o U' L ({ frames := 2, cells := 2, slots := 28, locals := 29 } : Room).cells ({ frames := 2, cells := 2, slots := 28, locals := 29 } : Room).slots) := by
  refine MetFree.of_bodySF (plainFor_of_name pn_com_example_octetry_octetry_io_OctetReader) hisR ?_
  intro p e s m args below meth c s₁ Bd hml0 hP hK
  obtain ⟨rfl, hZ, hh⟩ := hP
  have hx := Bd.exec
  have hby := Bd.bytes
  have hlk := Bd.notSynchronized
  have hml : c.maxLocals = 4 := hml0
  have hown : s.vm.findClass "com/example/octetry/octetry/io/OctetReader" = some m.cls := findClass_of_methodNamed Bd.named
  have hnm := (name_of_methodNamed Bd.named Bd.method).1
  have X0 : Stand p l e ({ frames := 2, cells := 2, slots := 28, locals := 29 } : Room) s m #[(.ref p0), (.ref p1), (.int p2), (.int p3)] below meth c s₁ [] 0 0 := Stand.of_body Bd
  have e0 : s₁.heap = h0 := by rw [← hh, Bd.state]; rfl
  have N0 := Fr.nil n0
  show own_G p.tables e below (own_EW below s ({ frames := 2, cells := 2, slots := 28, locals := 29 } : Room).cells ({ frames := 2, cells := 2, slots := 28, locals := 29 } : Room).slots (Q_init Z p0 p1 p2 p3 f h0 n0)) _
  refine own_go (fun _ k => castTop (ef_init m p0 p1 p2 p3) k) ?_
  show own_G p.tables e below _ (s₁.setTop (mkF m 0 #[.val (.ref p0), .val (.ref p1), .val (.int p2), .val (.int p3)] []))
  refine own_go (fun _ kt => XS.aloadN X0.here hx rfl (hb hby d1_0) rfl rfl kt) ?_
  show own_G p.tables e below _ (s₁.setTop (mkF m 1 #[.val (.ref p0), .val (.ref p1), .val (.int p2), .val (.int p3)] [(.ref p0)]))
  obtain ⟨T2, X2, e2, st2⟩ := initO X0 hx hZ hown (hw _ (List.mem_of_getElem? (i := 8) rfl)) (hw _ (List.mem_of_getElem? (i := 9) rfl)) (hw _ (List.mem_of_getElem? (i := 10) rfl)) e0 (g := (mkF m 1 #[.val (.ref p0), .val (.ref p1), .val (.int p2), .val (.int p3)] [(.ref p0)])) rfl (by rw [hml]; rfl) rfl (hb hby d1_1) (by decide) (W := 0) (by show 2 * 0 + _ ≤ _; exact Nat.le_of_eq rfl) (by decide)
  refine own_go st2 ?_
  show own_G p.tables e below _ (T2.setTop (mkF m 4 #[.val (.ref p0), .val (.ref p1), .val (.int p2), .val (.int p3)] []))
  refine own_go (fun _ kt => XS.aloadN X2.here hx rfl (hb hby d1_4) rfl rfl kt) ?_
  show own_G p.tables e below _ (T2.setTop (mkF m 5 #[.val (.ref p0), .val (.ref p1), .val (.int p2), .val (.int p3)] [(.ref p0)]))
  refine own_go (fun _ kt => XS.aloadN X2.here hx rfl (hb hby d1_5) rfl rfl kt) ?_
  show own_G p.tables e below _ (T2.setTop (mkF m 6 #[.val (.ref p0), .val (.ref p1), .val (.int p2), .val (.int p3)] [(.ref p1), (.ref p0)]))
  obtain ⟨a3, T3, h3, k3, X3, e3, E3, hS3, hk3, hZ, hown, st3⟩ := ldcS (show Stand p l e ({ frames := 2, cells := 2, slots := 28, locals := 29 } : Room) (s.setVm s.vm) m #[(.ref p0), (.ref p1), (.int p2), (.int p3)] below meth c T2 _ _ _ from X2) hx hZ hown (hw _ (List.mem_of_getElem? (i := 11) rfl)) (own_sA hw) e2 ((State.WarmedH.refl s).since 0) (Nat.zero_le _) (g := (mkF m 6 #[.val (.ref p0), .val (.ref p1), .val (.int p2), .val (.int p3)] [(.ref p1), (.ref p0)])) rfl (hb hby d1_6) (n := 24) (by decide) (by decide) (Nat.le_of_ble_eq_true rfl) (Nat.le_of_ble_eq_true rfl)
  refine own_go st3 ?_
  have Z3 : n0 ≤ h3.size := Nat.le_trans Z0 E3.1
  have K3 : Keep h0 h3 [p0] := (Keep.refl h0 [p0]).ext E3
  have KB := Keep.refl h3 [p0]
  show own_G p.tables e below _ (T3.setTop (mkF m 8 #[.val (.ref p0), .val (.ref p1), .val (.int p2), .val (.int p3)] [(.ref a3), (.ref p1), (.ref p0)]))
  obtain ⟨_, _, ⟨T4, L4, k4, n4⟩, -, X4, ⟨Lc4, hQ4, l4, y4, z4⟩, st4⟩ := Jvm.LawKit.callS X3 hx (y := (⟨"java/util/Objects", "requireNonNull", "(Ljava/lang/Object;Ljava/lang/String;)Ljava/lang/Object;"⟩ : MethodName)) hown (mvT hZ (hw _ (List.mem_of_getElem? (i := 18) rfl))) (mvT hZ (hw _ (List.mem_of_getElem? (i := 19) rfl))) (mvT hZ (hw _ (List.mem_of_getElem? (i := 20) rfl))) (mvT hZ (hw _ (List.mem_of_getElem? (i := 21) rfl))) (by decide) (backOf (W := 1) (rm_rnn l Z a0 hw [] p1 a3  h3 n0 Z3 ) hZ (hw _ (List.mem_of_getElem? (i := 21) rfl)) (hw _ (List.mem_of_getElem? (i := 20) rfl)) (by decide) (by decide)) (g := (mkF m 8 #[.val (.ref p0), .val (.ref p1), .val (.int p2), .val (.int p3)] [(.ref a3), (.ref p1), (.ref p0)])) rfl (by rw [hml]; rfl) (argsL := [(.ref p1), (.ref a3)]) (rest := [(.ref p0)]) (lenOf pd__Ljava_lang_Object_Ljava_lang_String__Ljava_lang_Object_ rfl) rfl (by show 2 * 0 + _ ≤ _; exact Nat.le_of_eq rfl) (hb hby d1_8) (fun _ _ => ⟨rfl, e3, (Nat.le_of_ble_eq_true rfl), (Nat.le_of_ble_eq_true rfl)⟩)
  dsimp only [Pt.U, Pt.locs, Pt.cells, Pt.slots] at X4 l4 y4 z4 st4 hQ4
  subst l4 y4 z4
  obtain ⟨rfl, Nq4, eq4⟩ := hQ4
  have N4 := Fr.app N0 Nq4
  refine own_go st4 ?_
  have u5 := (E1.ext E3)
  show own_G p.tables e below _ (T4.setTop (mkF m 11 #[.val (.ref p0), .val (.ref p1), .val (.int p2), .val (.int p3)] [(.ref p1), (.ref p0)]))
  obtain ⟨T6, X6, e6, st6⟩ := castY X4 hx hZ hown (hw _ (List.mem_of_getElem? (i := 22) rfl)) eq4 (Ins.self u5) (g := (mkF m 11 #[.val (.ref p0), .val (.ref p1), .val (.int p2), .val (.int p3)] [(.ref p1), (.ref p0)])) rfl rfl (hb hby d1_11)
  refine own_go st6 ?_
  show own_G p.tables e below _ (T6.setTop (mkF m 14 #[.val (.ref p0), .val (.ref p1), .val (.int p2), .val (.int p3)] [(.ref p1), (.ref p0)]))
  have u7 := (F_o.ext E3)
  have u8 := (E0.ext E3)
  obtain ⟨T9, h9, X9, e9, W9, st9⟩ := putF X6 hx hZ hown (host := "") (Or.inl (hw _ (List.mem_of_getElem? (i := 24) rfl))) Via.refl e6 u7 u8 (Or.inr ⟨(hw _ (List.mem_of_getElem? (i := 25) rfl)), rfl, hnm⟩) (hw _ (List.mem_of_getElem? (i := 3) rfl)) (ty := (.array .byte)) (by decide) rfl rfl (g := (mkF m 14 #[.val (.ref p0), .val (.ref p1), .val (.int p2), .val (.int p3)] [(.ref p1), (.ref p0)])) rfl rfl (hb hby d1_14)
  refine own_go st9 ?_
  have N9 := Fr.snoc X9 N4 g0
  have Z9 : n0 ≤ h9.size := Nat.le_trans Z3 (Keep.of_wr W9).1
  have K9 : Keep h0 h9 [p0] := K3.wr W9 (Or.inl (List.mem_of_getElem? (i := 0) rfl))
  have Fw9 := Fld.same W9 u7
  have KB9 := KB.wr W9 (Or.inl (List.mem_of_getElem? (i := 0) rfl))
  show own_G p.tables e below _ (T9.setTop (mkF m 17 #[.val (.ref p0), .val (.ref p1), .val (.int p2), .val (.int p3)] []))
  refine own_go (fun _ kt => XS.iloadN X9.here hx rfl (hb hby d1_17) rfl kt) ?_
  show own_G p.tables e below _ (T9.setTop (mkF m 18 #[.val (.ref p0), .val (.ref p1), .val (.int p2), .val (.int p3)] [(.int p2)]))
  refine own_go (fun _ kt => XS.iloadN X9.here hx rfl (hb hby d1_18) rfl kt) ?_
  show own_G p.tables e below _ (T9.setTop (mkF m 19 #[.val (.ref p0), .val (.ref p1), .val (.int p2), .val (.int p3)] [(.int p3), (.int p2)]))
  refine own_go (fun _ kt => XS.aloadN X9.here hx rfl (hb hby d1_19) rfl rfl kt) ?_
  show own_G p.tables e below _ (T9.setTop (mkF m 20 #[.val (.ref p0), .val (.ref p1), .val (.int p2), .val (.int p3)] [(.ref p1), (.int p3), (.int p2)]))
  have u10 := ((V0.ext E3).other W9 (Ne.symm ne01))
  refine own_go (own_len X9 hx hZ e9 u10 (z := (8 : Int32)) rfl (g := (mkF m 20 #[.val (.ref p0), .val (.ref p1), .val (.int p2), .val (.int p3)] [(.ref p1), (.int p3), (.int p2)])) rfl rfl (hb hby d1_20)) ?_
  show own_G p.tables e below _ (T9.setTop (mkF m 21 #[.val (.ref p0), .val (.ref p1), .val (.int p2), .val (.int p3)] [(.int (8 : Int32)), (.int p3), (.int p2)]))
  obtain ⟨_, _, ⟨T11, L11, k11, n11⟩, -, X11, ⟨Lc11, hQ11, l11, y11, z11⟩, st11⟩ := Jvm.LawKit.callS X9 hx (y := (⟨"java/util/Objects", "checkFromIndexSize", "(III)I"⟩ : MethodName)) hown (mvT hZ (hw _ (List.mem_of_getElem? (i := 26) rfl))) (mvT hZ (hw _ (List.mem_of_getElem? (i := 27) rfl))) (mvT hZ (hw _ (List.mem_of_getElem? (i := 20) rfl))) (mvT hZ (hw _ (List.mem_of_getElem? (i := 28) rfl))) (by decide) (backOf (W := 0) (rm_cf1 l Z a0 hw [] p2 p3 (8 : Int32)  h9 n0 Z9 hb0 hb1 hb2 (by decide)) hZ (hw _ (List.mem_of_getElem? (i := 28) rfl)) (hw _ (List.mem_of_getElem? (i := 20) rfl)) (by decide) (by decide)) (g := (mkF m 21 #[.val (.ref p0), .val (.ref p1), .val (.int p2), .val (.int p3)] [(.int (8 : Int32)), (.int p3), (.int p2)])) rfl (by rw [hml]; rfl) (argsL := [(.int p2), (.int p3), (.int (8 : Int32))]) (rest := []) (lenOf pd__III_I rfl) rfl (by show 2 * 0 + _ ≤ _; exact Nat.le_of_eq rfl) (hb hby d1_21) (fun _ _ => ⟨rfl, e9, (Nat.le_of_ble_eq_true rfl), (Nat.le_of_ble_eq_true rfl)⟩)
  dsimp only [Pt.U, Pt.locs, Pt.cells, Pt.slots] at X11 l11 y11 z11 st11 hQ11
  subst l11 y11 z11
  obtain ⟨rfl, Nq11, eq11⟩ := hQ11
  have N11 := Fr.app N9 Nq11
  refine own_go st11 ?_
  show own_G p.tables e below _ (T11.setTop (mkF m 24 #[.val (.ref p0), .val (.ref p1), .val (.int p2), .val (.int p3)] [(.int p2)]))
  refine own_go (fun _ kt => XS.pop X11.here hx rfl (hb hby d1_24) rfl rfl kt) ?_
  show own_G p.tables e below _ (T11.setTop (mkF m 25 #[.val (.ref p0), .val (.ref p1), .val (.int p2), .val (.int p3)] []))
  refine own_go (fun _ kt => XS.aloadN X11.here hx rfl (hb hby d1_25) rfl rfl kt) ?_
  show own_G p.tables e below _ (T11.setTop (mkF m 26 #[.val (.ref p0), .val (.ref p1), .val (.int p2), .val (.int p3)] [(.ref p0)]))
  refine own_go (fun _ kt => XS.iloadN X11.here hx rfl (hb hby d1_26) rfl kt) ?_
  show own_G p.tables e below _ (T11.setTop (mkF m 27 #[.val (.ref p0), .val (.ref p1), .val (.int p2), .val (.int p3)] [(.int p2), (.ref p0)]))
  have u12 := ((F_p.ext E3).other W9 (Or.inr (slot_ne (Or.inl (hw _ (List.mem_of_getElem? (i := 34) rfl))) (Or.inr (hw _ (List.mem_of_getElem? (i := 25) rfl))) (by decide) (t := .int) (t' := (.array .byte)) (by decide) (by decide))))
  have u13 := (u8.wr W9)
  obtain ⟨T14, h14, X14, e14, W14, st14⟩ := putF X11 hx hZ hown (host := "") (Or.inl (hw _ (List.mem_of_getElem? (i := 33) rfl))) Via.refl eq11 u12 u13 (Or.inl (hw _ (List.mem_of_getElem? (i := 34) rfl))) (hw _ (List.mem_of_getElem? (i := 3) rfl)) (ty := .int) (by decide) rfl rfl (g := (mkF m 27 #[.val (.ref p0), .val (.ref p1), .val (.int p2), .val (.int p3)] [(.int p2), (.ref p0)])) rfl rfl (hb hby d1_27)
  refine own_go st14 ?_
  have N14 := Fr.snoc X14 N11 g0
  have Z14 : n0 ≤ h14.size := Nat.le_trans Z9 (Keep.of_wr W14).1
  have K14 : Keep h0 h14 [p0] := K9.wr W14 (Or.inl (List.mem_of_getElem? (i := 0) rfl))
  have Fw14 := Fld.same W14 u12
  have KB14 := KB9.wr W14 (Or.inl (List.mem_of_getElem? (i := 0) rfl))
  show own_G p.tables e below _ (T14.setTop (mkF m 30 #[.val (.ref p0), .val (.ref p1), .val (.int p2), .val (.int p3)] []))
  refine own_go (fun _ kt => XS.aloadN X14.here hx rfl (hb hby d1_30) rfl rfl kt) ?_
  show own_G p.tables e below _ (T14.setTop (mkF m 31 #[.val (.ref p0), .val (.ref p1), .val (.int p2), .val (.int p3)] [(.ref p0)]))
  refine own_go (fun _ kt => XS.iloadN X14.here hx rfl (hb hby d1_31) rfl kt) ?_
  show own_G p.tables e below _ (T14.setTop (mkF m 32 #[.val (.ref p0), .val (.ref p1), .val (.int p2), .val (.int p3)] [(.int p2), (.ref p0)]))
  refine own_go (fun _ kt => XS.iloadN X14.here hx rfl (hb hby d1_32) rfl kt) ?_
  show own_G p.tables e below _ (T14.setTop (mkF m 33 #[.val (.ref p0), .val (.ref p1), .val (.int p2), .val (.int p3)] [(.int p3), (.int p2), (.ref p0)]))
  refine own_go (fun _ kt => XS.iadd X14.here hx rfl (hb hby d1_33) rfl kt) ?_
  show own_G p.tables e below _ (T14.setTop (mkF m 34 #[.val (.ref p0), .val (.ref p1), .val (.int p2), .val (.int p3)] [(.int (p2 + p3)), (.ref p0)]))
  have u15 := (((F_e.ext E3).other W9 (Or.inr (slot_ne (Or.inr (hw _ (List.mem_of_getElem? (i := 36) rfl))) (Or.inr (hw _ (List.mem_of_getElem? (i := 25) rfl))) (by decide) (t := .int) (t' := (.array .byte)) (by decide) (by decide)))).other W14 (Or.inr (slot_ne (Or.inr (hw _ (List.mem_of_getElem? (i := 36) rfl))) (Or.inl (hw _ (List.mem_of_getElem? (i := 34) rfl))) (by decide) (t := .int) (t' := .int) (by decide) (by decide))))
  have u16 := (u13.wr W14)
  obtain ⟨T17, h17, X17, e17, W17, st17⟩ := putF X14 hx hZ hown (host := "") (Or.inl (hw _ (List.mem_of_getElem? (i := 35) rfl))) Via.refl e14 u15 u16 (Or.inr ⟨(hw _ (List.mem_of_getElem? (i := 36) rfl)), rfl, hnm⟩) (hw _ (List.mem_of_getElem? (i := 3) rfl)) (ty := .int) (by decide) rfl rfl (g := (mkF m 34 #[.val (.ref p0), .val (.ref p1), .val (.int p2), .val (.int p3)] [(.int (p2 + p3)), (.ref p0)])) rfl rfl (hb hby d1_34)
  refine own_go st17 ?_
  have N17 := Fr.snoc X17 N14 g0
  have Z17 : n0 ≤ h17.size := Nat.le_trans Z14 (Keep.of_wr W17).1
  have K17 : Keep h0 h17 [p0] := K14.wr W17 (Or.inl (List.mem_of_getElem? (i := 0) rfl))
  have Fw17 := Fld.same W17 u15
  have KB17 := KB14.wr W17 (Or.inl (List.mem_of_getElem? (i := 0) rfl))
  have u18 := (u16.wr W17)
  have u19 := ((Fw9.other W14 (Or.inr (slot_ne (Or.inr (hw _ (List.mem_of_getElem? (i := 25) rfl))) (Or.inl (hw _ (List.mem_of_getElem? (i := 34) rfl))) (by decide) (t := (.array .byte)) (t' := .int) (by decide) (by decide)))).other W17 (Or.inr (slot_ne (Or.inr (hw _ (List.mem_of_getElem? (i := 25) rfl))) (Or.inr (hw _ (List.mem_of_getElem? (i := 36) rfl))) (by decide) (t := (.array .byte)) (t' := .int) (by decide) (by decide))))
  have u20 := (Fw14.other W17 (Or.inr (slot_ne (Or.inl (hw _ (List.mem_of_getElem? (i := 34) rfl))) (Or.inr (hw _ (List.mem_of_getElem? (i := 36) rfl))) (by decide) (t := .int) (t' := .int) (by decide) (by decide))))
  have u21 := ((u10.other W14 (Ne.symm ne01)).other W17 (Ne.symm ne01))
  show own_G p.tables e below _ (T17.setTop (mkF m 37 #[.val (.ref p0), .val (.ref p1), .val (.int p2), .val (.int p3)] []))
  exact own_retVW X17 hx Bd.returns hlk (hb hby d1_37) hS3 (Nat.le_trans hk3 KB17.1) (Nat.le_of_ble_eq_true rfl) (Nat.le_of_ble_eq_true rfl) e17 ⟨rfl, N17, K17, ⟨u18, u19, u20, Fw17, u21, ne01, g0⟩⟩
theorem d6_0 : decode prog_54_method_4_code 0 = .ok (.aload_n 0, 1) := by decide +kernel
theorem d6_1 : decode prog_54_method_4_code 1 = .ok (.getfield 28, 3) := by decide +kernel
theorem d6_4 : decode prog_54_method_4_code 4 = .ok (.aload_n 0, 1) := by decide +kernel
theorem d6_5 : decode prog_54_method_4_code 5 = .ok (.getfield 32, 3) := by decide +kernel
theorem d6_8 : decode prog_54_method_4_code 8 = .ok (.if_icmp .ge 7, 3) := by decide +kernel
theorem d6_11 : decode prog_54_method_4_code 11 = .ok (.iconst 1, 1) := by decide +kernel
theorem d6_12 : decode prog_54_method_4_code 12 = .ok (.goto 4, 3) := by decide +kernel
theorem d6_16 : decode prog_54_method_4_code 16 = .ok (.ireturn, 1) := by decide +kernel
theorem d6_15 : decode prog_54_method_4_code 15 = .ok (.iconst 0, 1) := by decide +kernel
theorem ef_hasR (m : MethodId) (p0 : Addr) : entryFrame m #[(.ref p0)] 1 = mkF m 0 #[.val (.ref p0)] [] := by first | (simp [entryFrame, mkF, argsToLocals, Value.category]; done) | rfl
def Q_hasR (Z : State) (p0 : Addr) (w : Addr) (ps : Int32) (en : Int32) (f : Nat → Value) (h0 : Heap) (n0 : Nat) (v : Option Value) (h : Heap) (L : List Loc) : Prop := v = some (.int (if ps < en then 1 else 0)) ∧ Fr n0 L ∧ h = h0
set_option maxRecDepth 65536 in
set_option maxHeartbeats 40000000 in
theorem rm_hasR (l : Launch) (Z : State) (a0 : Array Value) (hw : ∀ d ∈ tables_1, d.before a0 Z = true) (ws : List Jvm.Cond) (p0 : Addr) (w : Addr) (ps : Int32) (en : Int32) (f : Nat → Value) (h0 : Heap) (n0 : Nat) (Z0 : n0 ≤ h0.size) (P : own_P Z h0 n0 p0 w ps en f) :
    MetFree l (⟨"com/example/octetry/octetry/io/OctetReader", "hasRemaining", "()Z"⟩ : MethodName) (head1 (Jvm.Cond.code (⟨"com/example/octetry/octetry/io/OctetReader", "hasRemaining", "()Z"⟩ : MethodName) prog_54_method_4_code 1 (some .boolean) :: ws) ({ frames := 0, cells := 0, slots := 0, locals := 0 } : Room)) (fun a U => a = #[(.ref p0)] ∧ Z.Warmed39 U.vm ∧ U.heap = h0) (fun _ _ _ _ _ => True) (fun _ U o U' => ∃ v L, o = .returned v ∧ Q_hasR Z p0 w ps en f h0 n0 v U'.heap L ∧ FrameEnd U o U' L ({ frames := 0, cells := 0, slots := 0, locals := 0 } : Room).cells ({ frames := 0, cells := 0, slots := 0, locals := 0 } : Room).slots) := by
  refine MetFree.of_bodySF (plainFor_of_name pn_com_example_octetry_octetry_io_OctetReader) hisR ?_
  intro p e s m args below meth c s₁ Bd hml0 hP hK
  obtain ⟨rfl, hZ, hh⟩ := hP
  have hx := Bd.exec
  have hby := Bd.bytes
  have hlk := Bd.notSynchronized
  have hml : c.maxLocals = 1 := hml0
  have hown : s.vm.findClass "com/example/octetry/octetry/io/OctetReader" = some m.cls := findClass_of_methodNamed Bd.named
  have hnm := (name_of_methodNamed Bd.named Bd.method).1
  have X0 : Stand p l e ({ frames := 0, cells := 0, slots := 0, locals := 0 } : Room) s m #[(.ref p0)] below meth c s₁ [] 0 0 := Stand.of_body Bd
  have e0 : s₁.heap = h0 := by rw [← hh, Bd.state]; rfl
  have N0 := Fr.nil n0
  show own_G p.tables e below (own_E below s ({ frames := 0, cells := 0, slots := 0, locals := 0 } : Room).cells ({ frames := 0, cells := 0, slots := 0, locals := 0 } : Room).slots (Q_hasR Z p0 w ps en f h0 n0)) _
  refine own_go (fun _ k => castTop (ef_hasR m p0) k) ?_
  obtain ⟨E_, F_o, F_p, F_e, V_, nb, gb⟩ := P
  show own_G p.tables e below _ (s₁.setTop (mkF m 0 #[.val (.ref p0)] []))
  refine own_go (fun _ kt => XS.aloadN X0.here hx rfl (hb hby d6_0) rfl rfl kt) ?_
  show own_G p.tables e below _ (s₁.setTop (mkF m 1 #[.val (.ref p0)] [(.ref p0)]))
  obtain ⟨T22, X22, e22, st22⟩ := getF X0 hx hZ hown (host := "") (Or.inl (hw _ (List.mem_of_getElem? (i := 33) rfl))) Via.refl e0 F_p (g := (mkF m 1 #[.val (.ref p0)] [(.ref p0)])) rfl rfl (hb hby d6_1)
  refine own_go st22 ?_
  show own_G p.tables e below _ (T22.setTop (mkF m 4 #[.val (.ref p0)] [(.int ps)]))
  refine own_go (fun _ kt => XS.aloadN X22.here hx rfl (hb hby d6_4) rfl rfl kt) ?_
  show own_G p.tables e below _ (T22.setTop (mkF m 5 #[.val (.ref p0)] [(.ref p0), (.int ps)]))
  obtain ⟨T23, X23, e23, st23⟩ := getF X22 hx hZ hown (host := "") (Or.inl (hw _ (List.mem_of_getElem? (i := 35) rfl))) Via.refl e22 F_e (g := (mkF m 5 #[.val (.ref p0)] [(.ref p0), (.int ps)])) rfl rfl (hb hby d6_5)
  refine own_go st23 ?_
  by_cases hc : ps < en
  · show own_G p.tables e below _ (T23.setTop (mkF m 8 #[.val (.ref p0)] [(.int en), (.int ps)]))
    refine own_go (fun _ kt => XS.icmpNo X23.here hx rfl (hb hby d6_8) rfl (tlt (hc : ps < en)).2.1 kt) ?_
    show own_G p.tables e below _ (T23.setTop (mkF m 11 #[.val (.ref p0)] []))
    refine own_go (fun _ kt => XS.iconst X23.here hx rfl (hb hby d6_11) kt) ?_
    show own_G p.tables e below _ (T23.setTop (mkF m 12 #[.val (.ref p0)] [(.int (1 : Int32))]))
    refine own_go (fun _ kt => XS.goto X23.here hx rfl (pc0 := 12) (pc' := 16) rfl (hb hby d6_12) (by decide) (by decide) kt) ?_
    show own_G p.tables e below _ (T23.setTop (mkF m 16 #[.val (.ref p0)] [(.int (1 : Int32))]))
    exact own_retN X23 hx (t := .boolean) Bd.returns (by simp) hlk (hb hby d6_16) (Nat.le_of_ble_eq_true rfl) (Nat.le_of_ble_eq_true rfl) e23 ⟨by rw [if_pos hc]; rfl, N0, rfl⟩
  · show own_G p.tables e below _ (T23.setTop (mkF m 8 #[.val (.ref p0)] [(.int en), (.int ps)]))
    refine own_go (fun _ kt => XS.icmpYes X23.here hx rfl (pc0 := 8) (pc' := 15) rfl (hb hby d6_8) rfl (flt (hc : ¬ (ps < en))).2.1 (by decide) (by decide) kt) ?_
    show own_G p.tables e below _ (T23.setTop (mkF m 15 #[.val (.ref p0)] []))
    refine own_go (fun _ kt => XS.iconst X23.here hx rfl (hb hby d6_15) kt) ?_
    show own_G p.tables e below _ (T23.setTop (mkF m 16 #[.val (.ref p0)] [(.int (0 : Int32))]))
    exact own_retN X23 hx (t := .boolean) Bd.returns (by simp) hlk (hb hby d6_16) (Nat.le_of_ble_eq_true rfl) (Nat.le_of_ble_eq_true rfl) e23 ⟨by rw [if_neg hc]; rfl, N0, rfl⟩
theorem d9_0 : decode prog_54_method_5_code 0 = .ok (.aload_n 0, 1) := by decide +kernel
theorem d9_1 : decode prog_54_method_5_code 1 = .ok (.getfield 32, 3) := by decide +kernel
theorem d9_4 : decode prog_54_method_5_code 4 = .ok (.aload_n 0, 1) := by decide +kernel
theorem d9_5 : decode prog_54_method_5_code 5 = .ok (.getfield 28, 3) := by decide +kernel
theorem d9_8 : decode prog_54_method_5_code 8 = .ok (.isub, 1) := by decide +kernel
theorem d9_9 : decode prog_54_method_5_code 9 = .ok (.ireturn, 1) := by decide +kernel
theorem ef_rem (m : MethodId) (p0 : Addr) : entryFrame m #[(.ref p0)] 1 = mkF m 0 #[.val (.ref p0)] [] := by first | (simp [entryFrame, mkF, argsToLocals, Value.category]; done) | rfl
def Q_rem (Z : State) (p0 : Addr) (w : Addr) (ps : Int32) (en : Int32) (f : Nat → Value) (h0 : Heap) (n0 : Nat) (v : Option Value) (h : Heap) (L : List Loc) : Prop := v = some (.int (en - ps)) ∧ Fr n0 L ∧ h = h0
set_option maxRecDepth 65536 in
set_option maxHeartbeats 40000000 in
theorem rm_rem (l : Launch) (Z : State) (a0 : Array Value) (hw : ∀ d ∈ tables_1, d.before a0 Z = true) (ws : List Jvm.Cond) (p0 : Addr) (w : Addr) (ps : Int32) (en : Int32) (f : Nat → Value) (h0 : Heap) (n0 : Nat) (Z0 : n0 ≤ h0.size) (P : own_P Z h0 n0 p0 w ps en f) :
    MetFree l (⟨"com/example/octetry/octetry/io/OctetReader", "remaining", "()I"⟩ : MethodName) (head1 (Jvm.Cond.code (⟨"com/example/octetry/octetry/io/OctetReader", "remaining", "()I"⟩ : MethodName) prog_54_method_5_code 1 (some .int) :: ws) ({ frames := 0, cells := 0, slots := 0, locals := 0 } : Room)) (fun a U => a = #[(.ref p0)] ∧ Z.Warmed39 U.vm ∧ U.heap = h0) (fun _ _ _ _ _ => True) (fun _ U o U' => ∃ v L, o = .returned v ∧ Q_rem Z p0 w ps en f h0 n0 v U'.heap L ∧ FrameEnd U o U' L ({ frames := 0, cells := 0, slots := 0, locals := 0 } : Room).cells ({ frames := 0, cells := 0, slots := 0, locals := 0 } : Room).slots) := by
  refine MetFree.of_bodySF (plainFor_of_name pn_com_example_octetry_octetry_io_OctetReader) hisR ?_
  intro p e s m args below meth c s₁ Bd hml0 hP hK
  obtain ⟨rfl, hZ, hh⟩ := hP
  have hx := Bd.exec
  have hby := Bd.bytes
  have hlk := Bd.notSynchronized
  have hml : c.maxLocals = 1 := hml0
  have hown : s.vm.findClass "com/example/octetry/octetry/io/OctetReader" = some m.cls := findClass_of_methodNamed Bd.named
  have hnm := (name_of_methodNamed Bd.named Bd.method).1
  have X0 : Stand p l e ({ frames := 0, cells := 0, slots := 0, locals := 0 } : Room) s m #[(.ref p0)] below meth c s₁ [] 0 0 := Stand.of_body Bd
  have e0 : s₁.heap = h0 := by rw [← hh, Bd.state]; rfl
  have N0 := Fr.nil n0
  show own_G p.tables e below (own_E below s ({ frames := 0, cells := 0, slots := 0, locals := 0 } : Room).cells ({ frames := 0, cells := 0, slots := 0, locals := 0 } : Room).slots (Q_rem Z p0 w ps en f h0 n0)) _
  refine own_go (fun _ k => castTop (ef_rem m p0) k) ?_
  obtain ⟨E_, F_o, F_p, F_e, V_, nb, gb⟩ := P
  show own_G p.tables e below _ (s₁.setTop (mkF m 0 #[.val (.ref p0)] []))
  refine own_go (fun _ kt => XS.aloadN X0.here hx rfl (hb hby d9_0) rfl rfl kt) ?_
  show own_G p.tables e below _ (s₁.setTop (mkF m 1 #[.val (.ref p0)] [(.ref p0)]))
  obtain ⟨T24, X24, e24, st24⟩ := getF X0 hx hZ hown (host := "") (Or.inl (hw _ (List.mem_of_getElem? (i := 35) rfl))) Via.refl e0 F_e (g := (mkF m 1 #[.val (.ref p0)] [(.ref p0)])) rfl rfl (hb hby d9_1)
  refine own_go st24 ?_
  show own_G p.tables e below _ (T24.setTop (mkF m 4 #[.val (.ref p0)] [(.int en)]))
  refine own_go (fun _ kt => XS.aloadN X24.here hx rfl (hb hby d9_4) rfl rfl kt) ?_
  show own_G p.tables e below _ (T24.setTop (mkF m 5 #[.val (.ref p0)] [(.ref p0), (.int en)]))
  obtain ⟨T25, X25, e25, st25⟩ := getF X24 hx hZ hown (host := "") (Or.inl (hw _ (List.mem_of_getElem? (i := 33) rfl))) Via.refl e24 F_p (g := (mkF m 5 #[.val (.ref p0)] [(.ref p0), (.int en)])) rfl rfl (hb hby d9_5)
  refine own_go st25 ?_
  show own_G p.tables e below _ (T25.setTop (mkF m 8 #[.val (.ref p0)] [(.int ps), (.int en)]))
  refine own_go (fun _ kt => XS.isub X25.here hx rfl (hb hby d9_8) rfl kt) ?_
  show own_G p.tables e below _ (T25.setTop (mkF m 9 #[.val (.ref p0)] [(.int (en - ps))]))
  exact own_retI X25 hx Bd.returns hlk (hb hby d9_9) (Nat.le_of_ble_eq_true rfl) (Nat.le_of_ble_eq_true rfl) e25 ⟨rfl, N0, rfl⟩
theorem d7_0 : decode prog_54_method_6_code 0 = .ok (.aload_n 0, 1) := by decide +kernel
theorem d7_1 : decode prog_54_method_6_code 1 = .ok (.invokevirtual 35, 3) := by decide +kernel
theorem pd___Z : parseMethodDescriptor "()Z" = some ⟨[], some .boolean⟩ := by decide +kernel
theorem d7_4 : decode prog_54_method_6_code 4 = .ok (.ifCond .ne 17, 3) := by decide +kernel
theorem d7_21 : decode prog_54_method_6_code 21 = .ok (.aload_n 0, 1) := by decide +kernel
theorem d7_22 : decode prog_54_method_6_code 22 = .ok (.getfield 22, 3) := by decide +kernel
theorem d7_25 : decode prog_54_method_6_code 25 = .ok (.aload_n 0, 1) := by decide +kernel
theorem d7_26 : decode prog_54_method_6_code 26 = .ok (.dup, 1) := by decide +kernel
theorem d7_27 : decode prog_54_method_6_code 27 = .ok (.getfield 28, 3) := by decide +kernel
theorem d7_30 : decode prog_54_method_6_code 30 = .ok (.dup_x1, 1) := by decide +kernel
theorem d7_31 : decode prog_54_method_6_code 31 = .ok (.iconst 1, 1) := by decide +kernel
theorem d7_32 : decode prog_54_method_6_code 32 = .ok (.iadd, 1) := by decide +kernel
theorem d7_33 : decode prog_54_method_6_code 33 = .ok (.putfield 28, 3) := by decide +kernel
theorem d7_36 : decode prog_54_method_6_code 36 = .ok (.baload, 1) := by decide +kernel
theorem d7_37 : decode prog_54_method_6_code 37 = .ok (.sipush 255, 3) := by decide +kernel
theorem d7_40 : decode prog_54_method_6_code 40 = .ok (.iand, 1) := by decide +kernel
theorem d7_41 : decode prog_54_method_6_code 41 = .ok (.ireturn, 1) := by decide +kernel
theorem ef_read (m : MethodId) (p0 : Addr) : entryFrame m #[(.ref p0)] 1 = mkF m 0 #[.val (.ref p0)] [] := by first | (simp [entryFrame, mkF, argsToLocals, Value.category]; done) | rfl
def Q_read (Z : State) (p0 : Addr) (w : Addr) (ps : Int32) (en : Int32) (f : Nat → Value) (by_ : Int32) (h0 : Heap) (n0 : Nat) (v : Option Value) (h : Heap) (L : List Loc) : Prop := ∃ r, v = some (.int r) ∧ Fr n0 L ∧ Keep h0 h [p0] ∧ own_P Z h n0 p0 w (ps + 1) en f
set_option maxRecDepth 65536 in
set_option maxHeartbeats 40000000 in
theorem rm_read (l : Launch) (Z : State) (a0 : Array Value) (hw : ∀ d ∈ tables_1, d.before a0 Z = true) (ws : List Jvm.Cond) (p0 : Addr) (w : Addr) (ps : Int32) (en : Int32) (f : Nat → Value) (by_ : Int32) (h0 : Heap) (n0 : Nat) (Z0 : n0 ≤ h0.size) (P : own_P Z h0 n0 p0 w ps en f) (hlt : ps < en) (hi : 0 ≤ ps.toInt ∧ ps.toInt < ((8 : Nat) : Int)) (hat : f ps.toNatClampNeg = .int by_) :
    MetFree l (⟨"com/example/octetry/octetry/io/OctetReader", "read", "()I"⟩ : MethodName) (head1 (Jvm.Cond.code (⟨"com/example/octetry/octetry/io/OctetReader", "read", "()I"⟩ : MethodName) prog_54_method_6_code 1 (some .int) :: ws) ({ frames := 1, cells := 0, slots := 0, locals := 12 } : Room)) (fun a U => a = #[(.ref p0)] ∧ Z.Warmed39 U.vm ∧ U.heap = h0) (fun _ _ _ _ _ => True) (fun _ U o U' => ∃ v L, o = .returned v ∧ Q_read Z p0 w ps en f by_ h0 n0 v U'.heap L ∧ FrameEnd U o U' L ({ frames := 1, cells := 0, slots := 0, locals := 12 } : Room).cells ({ frames := 1, cells := 0, slots := 0, locals := 12 } : Room).slots) := by
  refine MetFree.of_bodySF (plainFor_of_name pn_com_example_octetry_octetry_io_OctetReader) hisR ?_
  intro p e s m args below meth c s₁ Bd hml0 hP hK
  obtain ⟨rfl, hZ, hh⟩ := hP
  have hx := Bd.exec
  have hby := Bd.bytes
  have hlk := Bd.notSynchronized
  have hml : c.maxLocals = 1 := hml0
  have hown : s.vm.findClass "com/example/octetry/octetry/io/OctetReader" = some m.cls := findClass_of_methodNamed Bd.named
  have hnm := (name_of_methodNamed Bd.named Bd.method).1
  have X0 : Stand p l e ({ frames := 1, cells := 0, slots := 0, locals := 12 } : Room) s m #[(.ref p0)] below meth c s₁ [] 0 0 := Stand.of_body Bd
  have e0 : s₁.heap = h0 := by rw [← hh, Bd.state]; rfl
  have N0 := Fr.nil n0
  show own_G p.tables e below (own_E below s ({ frames := 1, cells := 0, slots := 0, locals := 12 } : Room).cells ({ frames := 1, cells := 0, slots := 0, locals := 12 } : Room).slots (Q_read Z p0 w ps en f by_ h0 n0)) _
  refine own_go (fun _ k => castTop (ef_read m p0) k) ?_
  have P' := P
  obtain ⟨E_, F_o, F_p, F_e, V_, nb, gb⟩ := P'
  show own_G p.tables e below _ (s₁.setTop (mkF m 0 #[.val (.ref p0)] []))
  refine own_go (fun _ kt => XS.aloadN X0.here hx rfl (hb hby d7_0) rfl rfl kt) ?_
  show own_G p.tables e below _ (s₁.setTop (mkF m 1 #[.val (.ref p0)] [(.ref p0)]))
  obtain ⟨cq26, kq26, q26a, q26b, q26c⟩ := isOf hZ e0 E_
  obtain ⟨_, _, ⟨T26, L26, k26, n26⟩, -, X26, ⟨Lc26, hQ26, l26, y26, z26⟩, st26⟩ := X0.virtualBack hx (y := (⟨"com/example/octetry/octetry/io/OctetReader", "hasRemaining", "()Z"⟩ : MethodName)) (z := (⟨"com/example/octetry/octetry/io/OctetReader", "hasRemaining", "()Z"⟩ : MethodName)) hown (mvT hZ (hw _ (List.mem_of_getElem? (i := 47) rfl))) (mvT hZ (hw _ (List.mem_of_getElem? (i := 38) rfl))) (notFace_of_selects (args := #[]) (mvT hZ (hw _ (List.mem_of_getElem? (i := 40) rfl)))) (mvT hZ (hw _ (List.mem_of_getElem? (i := 40) rfl))) (mvT hZ (hw _ (List.mem_of_getElem? (i := 39) rfl))) (by decide) (backOf (W := 0) (rm_hasR l Z a0 hw [] p0 w ps en f h0 n0 Z0 P) hZ (hw _ (List.mem_of_getElem? (i := 41) rfl)) (hw _ (List.mem_of_getElem? (i := 4) rfl)) (by decide) (by decide)) q26a q26c (g := (mkF m 1 #[.val (.ref p0)] [(.ref p0)])) rfl (by rw [hml]; rfl) (Steps.refl _) (argsL := []) (rest := []) (lenOf pd___Z rfl) rfl (by show 2 * 0 + _ ≤ _; exact Nat.le_of_eq rfl) (hb hby d7_1) (fun _ _ => ⟨rfl, e0, (Nat.le_of_ble_eq_true rfl), (Nat.le_of_ble_eq_true rfl)⟩)
  dsimp only [Pt.U, Pt.locs, Pt.cells, Pt.slots] at X26 l26 y26 z26 st26 hQ26
  subst l26 y26 z26
  obtain ⟨rfl, Nq26, eq26⟩ := hQ26
  have N26 := Fr.app N0 Nq26
  refine own_tr st26 ?_
  show own_G p.tables e below _ (T26.setTop (mkF m 4 #[.val (.ref p0)] [(.int (if ps < en then (1 : Int32) else 0))]))
  rw [if_pos hlt]
  show own_G p.tables e below _ (T26.setTop (mkF m 4 #[.val (.ref p0)] [(.int (1 : Int32))]))
  refine own_go (fun _ kt => XS.ifYes X26.here hx rfl (pc0 := 4) (pc' := 21) rfl (hb hby d7_4) rfl ((if0 _ _).trans (feq (by decide : ¬ ((1 : Int32) = (0 : Int32)))).2) (by decide) (by decide) kt) ?_
  show own_G p.tables e below _ (T26.setTop (mkF m 21 #[.val (.ref p0)] []))
  refine own_go (fun _ kt => XS.aloadN X26.here hx rfl (hb hby d7_21) rfl rfl kt) ?_
  show own_G p.tables e below _ (T26.setTop (mkF m 22 #[.val (.ref p0)] [(.ref p0)]))
  obtain ⟨T27, X27, e27, st27⟩ := getF X26 hx hZ hown (host := "") (Or.inl (hw _ (List.mem_of_getElem? (i := 24) rfl))) Via.refl eq26 F_o (g := (mkF m 22 #[.val (.ref p0)] [(.ref p0)])) rfl rfl (hb hby d7_22)
  refine own_go st27 ?_
  show own_G p.tables e below _ (T27.setTop (mkF m 25 #[.val (.ref p0)] [(.ref w)]))
  refine own_go (fun _ kt => XS.aloadN X27.here hx rfl (hb hby d7_25) rfl rfl kt) ?_
  show own_G p.tables e below _ (T27.setTop (mkF m 26 #[.val (.ref p0)] [(.ref p0), (.ref w)]))
  refine own_go (fun _ kt => XS.dup X27.here hx rfl (hb hby d7_26) rfl rfl kt) ?_
  show own_G p.tables e below _ (T27.setTop (mkF m 27 #[.val (.ref p0)] [(.ref p0), (.ref p0), (.ref w)]))
  obtain ⟨T28, X28, e28, st28⟩ := getF X27 hx hZ hown (host := "") (Or.inl (hw _ (List.mem_of_getElem? (i := 33) rfl))) Via.refl e27 F_p (g := (mkF m 27 #[.val (.ref p0)] [(.ref p0), (.ref p0), (.ref w)])) rfl rfl (hb hby d7_27)
  refine own_go st28 ?_
  show own_G p.tables e below _ (T28.setTop (mkF m 30 #[.val (.ref p0)] [(.int ps), (.ref p0), (.ref w)]))
  refine own_go (fun _ kt => XS.dupX1 X28.here hx rfl (hb hby d7_30) rfl rfl rfl kt) ?_
  show own_G p.tables e below _ (T28.setTop (mkF m 31 #[.val (.ref p0)] [(.int ps), (.ref p0), (.int ps), (.ref w)]))
  refine own_go (fun _ kt => XS.iconst X28.here hx rfl (hb hby d7_31) kt) ?_
  show own_G p.tables e below _ (T28.setTop (mkF m 32 #[.val (.ref p0)] [(.int (1 : Int32)), (.int ps), (.ref p0), (.int ps), (.ref w)]))
  refine own_go (fun _ kt => XS.iadd X28.here hx rfl (hb hby d7_32) rfl kt) ?_
  show own_G p.tables e below _ (T28.setTop (mkF m 33 #[.val (.ref p0)] [(.int (ps + (1 : Int32))), (.ref p0), (.int ps), (.ref w)]))
  obtain ⟨T29, h29, X29, e29, W29, st29⟩ := putF X28 hx hZ hown (host := "") (Or.inl (hw _ (List.mem_of_getElem? (i := 33) rfl))) Via.refl e28 F_p E_ (Or.inl (hw _ (List.mem_of_getElem? (i := 34) rfl))) (hw _ (List.mem_of_getElem? (i := 3) rfl)) (ty := .int) (by decide) rfl rfl (g := (mkF m 33 #[.val (.ref p0)] [(.int (ps + (1 : Int32))), (.ref p0), (.int ps), (.ref w)])) rfl rfl (hb hby d7_33)
  refine own_go st29 ?_
  have N29 := Fr.snoc X29 N26 gb
  have Z29 : n0 ≤ h29.size := Nat.le_trans Z0 (Keep.of_wr W29).1
  have K29 : Keep h0 h29 [p0] := (Keep.refl h0 [p0]).wr W29 (Or.inl (List.mem_of_getElem? (i := 0) rfl))
  have Fw29 := Fld.same W29 F_p
  show own_G p.tables e below _ (T29.setTop (mkF m 36 #[.val (.ref p0)] [(.int ps), (.ref w)]))
  have u30 := (V_.other W29 (Ne.symm nb))
  refine own_go (own_ldB X29 hx hZ e29 u30 (j := ps) (v := (.int by_)) hi.1 hi.2 hat (g := (mkF m 36 #[.val (.ref p0)] [(.int ps), (.ref w)])) rfl rfl (hb hby d7_36)) ?_
  show own_G p.tables e below _ (T29.setTop (mkF m 37 #[.val (.ref p0)] [(.int by_)]))
  refine own_go (fun _ kt => XS.sipush X29.here hx rfl (hb hby d7_37) kt) ?_
  show own_G p.tables e below _ (T29.setTop (mkF m 40 #[.val (.ref p0)] [(.int (255 : Int32)), (.int by_)]))
  refine own_go (fun _ kt => XS.iand X29.here hx rfl (hb hby d7_40) rfl kt) ?_
  have u31 := (E_.wr W29)
  have u32 := (F_o.other W29 (Or.inr (slot_ne (Or.inr (hw _ (List.mem_of_getElem? (i := 25) rfl))) (Or.inl (hw _ (List.mem_of_getElem? (i := 34) rfl))) (by decide) (t := (.array .byte)) (t' := .int) (by decide) (by decide))))
  have u33 := (F_e.other W29 (Or.inr (slot_ne (Or.inr (hw _ (List.mem_of_getElem? (i := 36) rfl))) (Or.inl (hw _ (List.mem_of_getElem? (i := 34) rfl))) (by decide) (t := .int) (t' := .int) (by decide) (by decide))))
  show own_G p.tables e below _ (T29.setTop (mkF m 41 #[.val (.ref p0)] [(.int (by_ &&& (255 : Int32)))]))
  exact own_retI X29 hx Bd.returns hlk (hb hby d7_41) (Nat.le_of_ble_eq_true rfl) (Nat.le_of_ble_eq_true rfl) e29 ⟨_, rfl, N29, K29, ⟨u31, u32, Fw29, u33, u30, nb, gb⟩⟩
theorem d8_0 : decode prog_54_method_8_code 0 = .ok (.iload_n 1, 1) := by decide +kernel
theorem d8_1 : decode prog_54_method_8_code 1 = .ok (.ifCond .ge 17, 3) := by decide +kernel
theorem d8_18 : decode prog_54_method_8_code 18 = .ok (.iload_n 1, 1) := by decide +kernel
theorem d8_19 : decode prog_54_method_8_code 19 = .ok (.aload_n 0, 1) := by decide +kernel
theorem d8_20 : decode prog_54_method_8_code 20 = .ok (.invokevirtual 46, 3) := by decide +kernel
theorem pd___I : parseMethodDescriptor "()I" = some ⟨[], some .int⟩ := by decide +kernel
theorem d8_23 : decode prog_54_method_8_code 23 = .ok (.if_icmp .le 17, 3) := by decide +kernel
theorem d8_40 : decode prog_54_method_8_code 40 = .ok (.aload_n 0, 1) := by decide +kernel
theorem d8_41 : decode prog_54_method_8_code 41 = .ok (.dup, 1) := by decide +kernel
theorem d8_42 : decode prog_54_method_8_code 42 = .ok (.getfield 28, 3) := by decide +kernel
theorem d8_45 : decode prog_54_method_8_code 45 = .ok (.iload_n 1, 1) := by decide +kernel
theorem d8_46 : decode prog_54_method_8_code 46 = .ok (.iadd, 1) := by decide +kernel
theorem d8_47 : decode prog_54_method_8_code 47 = .ok (.putfield 28, 3) := by decide +kernel
theorem d8_50 : decode prog_54_method_8_code 50 = .ok (.return_, 1) := by decide +kernel
theorem ef_skip (m : MethodId) (p0 : Addr) (p1 : Int32) : entryFrame m #[(.ref p0), (.int p1)] 2 = mkF m 0 #[.val (.ref p0), .val (.int p1)] [] := by first | (simp [entryFrame, mkF, argsToLocals, Value.category]; done) | rfl
def Q_skip (Z : State) (p0 : Addr) (p1 : Int32) (w : Addr) (ps : Int32) (en : Int32) (f : Nat → Value) (h0 : Heap) (n0 : Nat) (v : Option Value) (h : Heap) (L : List Loc) : Prop := v = none ∧ Fr n0 L ∧ Keep h0 h [p0] ∧ own_P Z h n0 p0 w (ps + p1) en f
set_option maxRecDepth 65536 in
set_option maxHeartbeats 40000000 in
theorem rm_skip (l : Launch) (Z : State) (a0 : Array Value) (hw : ∀ d ∈ tables_1, d.before a0 Z = true) (ws : List Jvm.Cond) (p0 : Addr) (p1 : Int32) (w : Addr) (ps : Int32) (en : Int32) (f : Nat → Value) (h0 : Heap) (n0 : Nat) (Z0 : n0 ≤ h0.size) (P : own_P Z h0 n0 p0 w ps en f) (hn0 : ¬ p1 < (0 : Int32)) (hle : ¬ (en - ps) < p1) :
    MetFree l (⟨"com/example/octetry/octetry/io/OctetReader", "skip", "(I)V"⟩ : MethodName) (head1 (Jvm.Cond.code (⟨"com/example/octetry/octetry/io/OctetReader", "skip", "(I)V"⟩ : MethodName) prog_54_method_8_code 2 none :: ws) ({ frames := 1, cells := 0, slots := 0, locals := 13 } : Room)) (fun a U => a = #[(.ref p0), (.int p1)] ∧ Z.Warmed39 U.vm ∧ U.heap = h0) (fun _ _ _ _ _ => True) (fun _ U o U' => ∃ v L, o = .returned v ∧ Q_skip Z p0 p1 w ps en f h0 n0 v U'.heap L ∧ FrameEnd U o U' L ({ frames := 1, cells := 0, slots := 0, locals := 13 } : Room).cells ({ frames := 1, cells := 0, slots := 0, locals := 13 } : Room).slots) := by
  refine MetFree.of_bodySF (plainFor_of_name pn_com_example_octetry_octetry_io_OctetReader) hisR ?_
  intro p e s m args below meth c s₁ Bd hml0 hP hK
  obtain ⟨rfl, hZ, hh⟩ := hP
  have hx := Bd.exec
  have hby := Bd.bytes
  have hlk := Bd.notSynchronized
  have hml : c.maxLocals = 2 := hml0
  have hown : s.vm.findClass "com/example/octetry/octetry/io/OctetReader" = some m.cls := findClass_of_methodNamed Bd.named
  have hnm := (name_of_methodNamed Bd.named Bd.method).1
  have X0 : Stand p l e ({ frames := 1, cells := 0, slots := 0, locals := 13 } : Room) s m #[(.ref p0), (.int p1)] below meth c s₁ [] 0 0 := Stand.of_body Bd
  have e0 : s₁.heap = h0 := by rw [← hh, Bd.state]; rfl
  have N0 := Fr.nil n0
  show own_G p.tables e below (own_E below s ({ frames := 1, cells := 0, slots := 0, locals := 13 } : Room).cells ({ frames := 1, cells := 0, slots := 0, locals := 13 } : Room).slots (Q_skip Z p0 p1 w ps en f h0 n0)) _
  refine own_go (fun _ k => castTop (ef_skip m p0 p1) k) ?_
  have P' := P
  obtain ⟨E_, F_o, F_p, F_e, V_, nb, gb⟩ := P'
  show own_G p.tables e below _ (s₁.setTop (mkF m 0 #[.val (.ref p0), .val (.int p1)] []))
  refine own_go (fun _ kt => XS.iloadN X0.here hx rfl (hb hby d8_0) rfl kt) ?_
  show own_G p.tables e below _ (s₁.setTop (mkF m 1 #[.val (.ref p0), .val (.int p1)] [(.int p1)]))
  refine own_go (fun _ kt => XS.ifYes X0.here hx rfl (pc0 := 1) (pc' := 18) rfl (hb hby d8_1) rfl ((if0 _ _).trans (flt (hn0 : ¬ (p1 < (0 : Int32)))).2.1) (by decide) (by decide) kt) ?_
  show own_G p.tables e below _ (s₁.setTop (mkF m 18 #[.val (.ref p0), .val (.int p1)] []))
  refine own_go (fun _ kt => XS.iloadN X0.here hx rfl (hb hby d8_18) rfl kt) ?_
  show own_G p.tables e below _ (s₁.setTop (mkF m 19 #[.val (.ref p0), .val (.int p1)] [(.int p1)]))
  refine own_go (fun _ kt => XS.aloadN X0.here hx rfl (hb hby d8_19) rfl rfl kt) ?_
  show own_G p.tables e below _ (s₁.setTop (mkF m 20 #[.val (.ref p0), .val (.int p1)] [(.ref p0), (.int p1)]))
  obtain ⟨cq34, kq34, q34a, q34b, q34c⟩ := isOf hZ e0 E_
  obtain ⟨_, _, ⟨T34, L34, k34, n34⟩, -, X34, ⟨Lc34, hQ34, l34, y34, z34⟩, st34⟩ := X0.virtualBack hx (y := (⟨"com/example/octetry/octetry/io/OctetReader", "remaining", "()I"⟩ : MethodName)) (z := (⟨"com/example/octetry/octetry/io/OctetReader", "remaining", "()I"⟩ : MethodName)) hown (mvT hZ (hw _ (List.mem_of_getElem? (i := 53) rfl))) (mvT hZ (hw _ (List.mem_of_getElem? (i := 54) rfl))) (notFace_of_selects (args := #[]) (mvT hZ (hw _ (List.mem_of_getElem? (i := 56) rfl)))) (mvT hZ (hw _ (List.mem_of_getElem? (i := 56) rfl))) (mvT hZ (hw _ (List.mem_of_getElem? (i := 55) rfl))) (by decide) (backOf (W := 1) (rm_rem l Z a0 hw [] p0 w ps en f h0 n0 Z0 P) hZ (hw _ (List.mem_of_getElem? (i := 57) rfl)) (hw _ (List.mem_of_getElem? (i := 4) rfl)) (by decide) (by decide)) q34a q34c (g := (mkF m 20 #[.val (.ref p0), .val (.int p1)] [(.ref p0), (.int p1)])) rfl (by rw [hml]; rfl) (Steps.refl _) (argsL := []) (rest := [(.int p1)]) (lenOf pd___I rfl) rfl (by show 2 * 0 + _ ≤ _; exact Nat.le_of_eq rfl) (hb hby d8_20) (fun _ _ => ⟨rfl, e0, (Nat.le_of_ble_eq_true rfl), (Nat.le_of_ble_eq_true rfl)⟩)
  dsimp only [Pt.U, Pt.locs, Pt.cells, Pt.slots] at X34 l34 y34 z34 st34 hQ34
  subst l34 y34 z34
  obtain ⟨rfl, Nq34, eq34⟩ := hQ34
  have N34 := Fr.app N0 Nq34
  refine own_tr st34 ?_
  show own_G p.tables e below _ (T34.setTop (mkF m 23 #[.val (.ref p0), .val (.int p1)] [(.int (en - ps)), (.int p1)]))
  refine own_go (fun _ kt => XS.icmpYes X34.here hx rfl (pc0 := 23) (pc' := 40) rfl (hb hby d8_23) rfl (flt (hle : ¬ ((en - ps) < p1))).2.2.2 (by decide) (by decide) kt) ?_
  show own_G p.tables e below _ (T34.setTop (mkF m 40 #[.val (.ref p0), .val (.int p1)] []))
  refine own_go (fun _ kt => XS.aloadN X34.here hx rfl (hb hby d8_40) rfl rfl kt) ?_
  show own_G p.tables e below _ (T34.setTop (mkF m 41 #[.val (.ref p0), .val (.int p1)] [(.ref p0)]))
  refine own_go (fun _ kt => XS.dup X34.here hx rfl (hb hby d8_41) rfl rfl kt) ?_
  show own_G p.tables e below _ (T34.setTop (mkF m 42 #[.val (.ref p0), .val (.int p1)] [(.ref p0), (.ref p0)]))
  obtain ⟨T35, X35, e35, st35⟩ := getF X34 hx hZ hown (host := "") (Or.inl (hw _ (List.mem_of_getElem? (i := 33) rfl))) Via.refl eq34 F_p (g := (mkF m 42 #[.val (.ref p0), .val (.int p1)] [(.ref p0), (.ref p0)])) rfl rfl (hb hby d8_42)
  refine own_go st35 ?_
  show own_G p.tables e below _ (T35.setTop (mkF m 45 #[.val (.ref p0), .val (.int p1)] [(.int ps), (.ref p0)]))
  refine own_go (fun _ kt => XS.iloadN X35.here hx rfl (hb hby d8_45) rfl kt) ?_
  show own_G p.tables e below _ (T35.setTop (mkF m 46 #[.val (.ref p0), .val (.int p1)] [(.int p1), (.int ps), (.ref p0)]))
  refine own_go (fun _ kt => XS.iadd X35.here hx rfl (hb hby d8_46) rfl kt) ?_
  show own_G p.tables e below _ (T35.setTop (mkF m 47 #[.val (.ref p0), .val (.int p1)] [(.int (ps + p1)), (.ref p0)]))
  obtain ⟨T36, h36, X36, e36, W36, st36⟩ := putF X35 hx hZ hown (host := "") (Or.inl (hw _ (List.mem_of_getElem? (i := 33) rfl))) Via.refl e35 F_p E_ (Or.inl (hw _ (List.mem_of_getElem? (i := 34) rfl))) (hw _ (List.mem_of_getElem? (i := 3) rfl)) (ty := .int) (by decide) rfl rfl (g := (mkF m 47 #[.val (.ref p0), .val (.int p1)] [(.int (ps + p1)), (.ref p0)])) rfl rfl (hb hby d8_47)
  refine own_go st36 ?_
  have N36 := Fr.snoc X36 N34 gb
  have Z36 : n0 ≤ h36.size := Nat.le_trans Z0 (Keep.of_wr W36).1
  have K36 : Keep h0 h36 [p0] := (Keep.refl h0 [p0]).wr W36 (Or.inl (List.mem_of_getElem? (i := 0) rfl))
  have Fw36 := Fld.same W36 F_p
  have u37 := (E_.wr W36)
  have u38 := (F_o.other W36 (Or.inr (slot_ne (Or.inr (hw _ (List.mem_of_getElem? (i := 25) rfl))) (Or.inl (hw _ (List.mem_of_getElem? (i := 34) rfl))) (by decide) (t := (.array .byte)) (t' := .int) (by decide) (by decide))))
  have u39 := (F_e.other W36 (Or.inr (slot_ne (Or.inr (hw _ (List.mem_of_getElem? (i := 36) rfl))) (Or.inl (hw _ (List.mem_of_getElem? (i := 34) rfl))) (by decide) (t := .int) (t' := .int) (by decide) (by decide))))
  have u40 := (V_.other W36 (Ne.symm nb))
  show own_G p.tables e below _ (T36.setTop (mkF m 50 #[.val (.ref p0), .val (.int p1)] []))
  exact own_retV X36 hx Bd.returns hlk (hb hby d8_50) (Nat.le_of_ble_eq_true rfl) (Nat.le_of_ble_eq_true rfl) e36 ⟨rfl, N36, K36, ⟨u37, u38, Fw36, u39, u40, nb, gb⟩⟩
theorem own_addI {x y : Int32} (h : -2147483648 ≤ x.toInt + y.toInt ∧ x.toInt + y.toInt < 2147483648) : (x + y).toInt = x.toInt + y.toInt := by
  have a := c_iadd x y
  have r := rng32 (x + y)
  omega
theorem own_subI {x y : Int32} (h : -2147483648 ≤ x.toInt - y.toInt ∧ x.toInt - y.toInt < 2147483648) : (x - y).toInt = x.toInt - y.toInt := by
  have a := c_isub x y
  have r := rng32 (x - y)
  omega
theorem own_rm {x y : Int32} (h : 0 < y.toInt) : 0 ≤ ((x &&& (2147483647 : Int32)) % y).toInt ∧ ((x &&& (2147483647 : Int32)) % y).toInt < y.toInt := by
  have a := c_mask x 2147483647 31 (by decide) (by decide)
  have b := (c_iremV (x &&& (2147483647 : Int32)) y).1 (by omega) (by omega)
  exact ⟨b.1, b.2.1⟩
theorem own_nz {y : Int32} (h : 0 < y.toInt) : ¬ y = (0 : Int32) := fun e => by
  have e' := congrArg Int32.toInt e
  have z : (0 : Int32).toInt = 0 := rfl
  omega
theorem pd___BII_V : parseMethodDescriptor "([BII)V" = some ⟨[(.array .byte), .int, .int], none⟩ := by decide +kernel
theorem pd__I_V : parseMethodDescriptor "(I)V" = some ⟨[.int], none⟩ := by decide +kernel
theorem pn_com_example_octetry_octetry_io_OctetReaderHasRemainingPinLaw : plainName "com/example/octetry/octetry/io/OctetReaderHasRemainingPinLaw" = true := by first | (simp [plainName, overriddenIn]; done) | decide +kernel
theorem ef_law (m : MethodId) (p0 : Int32) (p1 : Int32) (p2 : Int32) (p3 : Int32) : entryFrame m #[(.int p0), (.int p1), (.int p2), (.int p3)] maxLocals = mkF m 0 #[.val (.int p0), .val (.int p1), .val (.int p2), .val (.int p3), .unset, .unset, .unset, .unset, .unset, .unset, .unset] [] := by first | (simp [entryFrame, mkF, argsToLocals, Value.category, maxLocals]; done) | rfl
def Q_law (Z : State) (p0 : Int32) (p1 : Int32) (p2 : Int32) (p3 : Int32) (h0 : Heap) (n0 : Nat) (v : Option Value) (h : Heap) (L : List Loc) : Prop := v = some (.int (1 : Int32)) ∧ Fr n0 L
set_option maxRecDepth 65536 in
set_option maxHeartbeats 40000000 in
theorem rm_law (l : Launch) (Z : State) (a0 : Array Value) (hw : ∀ d ∈ tables_1, d.before a0 Z = true) (ws : List Jvm.Cond) (p0 : Int32) (p1 : Int32) (p2 : Int32) (p3 : Int32) (h0 : Heap) (n0 : Nat) (Z0 : n0 ≤ h0.size) :
    MetFree l x (head1 (Jvm.Cond.code x code maxLocals ret :: ws) room_1) (fun a U => a = #[(.int p0), (.int p1), (.int p2), (.int p3)] ∧ Z.Warmed39 U.vm ∧ U.heap = h0) (fun _ _ _ _ _ => True) (fun _ U o U' => ∃ v L, o = .returned v ∧ Q_law Z p0 p1 p2 p3 h0 n0 v U'.heap L ∧ ReturnedEndW U o U' L room_1.cells room_1.slots) := by
  refine MetFree.of_bodySF (plainFor_of_name pn_com_example_octetry_octetry_io_OctetReaderHasRemainingPinLaw) hisR ?_
  intro p e s m args below meth c s₁ Bd hml0 hP hK
  obtain ⟨rfl, hZ, hh⟩ := hP
  have hx := Bd.exec
  have hby := Bd.bytes
  have hlk := Bd.notSynchronized
  have hml : c.maxLocals = 11 := hml0
  have hown : s.vm.findClass "com/example/octetry/octetry/io/OctetReaderHasRemainingPinLaw" = some m.cls := findClass_of_methodNamed Bd.named
  have hnm := (name_of_methodNamed Bd.named Bd.method).1
  have X0 : Stand p l e room_1 s m #[(.int p0), (.int p1), (.int p2), (.int p3)] below meth c s₁ [] 0 0 := Stand.of_body Bd
  have e0 : s₁.heap = h0 := by rw [← hh, Bd.state]; rfl
  have N0 := Fr.nil n0
  show own_G p.tables e below (own_EW below s room_1.cells room_1.slots (Q_law Z p0 p1 p2 p3 h0 n0)) _
  refine own_go (fun _ k => castTop (ef_law m p0 p1 p2 p3) k) ?_
  have j38 : ∀ (T41 : State) (locs41 : List Loc) (h41 : Heap) (ar : Addr) (of ln ct : Int32), Stand p l e room_1 s m #[(.int p0), (.int p1), (.int p2), (.int p3)] below meth c T41 locs41 1 8 → T41.heap = h41 → Fr n0 locs41 → n0 ≤ h41.size → (Exa Z h41 ar "[B") → (own_A Z h41 ar .byte 8 (fun _ => (.int (0 : Int32)))) → (0 ≤ of.toInt ∧ of.toInt < 9) → (0 ≤ ln.toInt ∧ ln.toInt < 9 - of.toInt) → (0 ≤ ct.toInt ∧ ct.toInt < ln.toInt + 1) → own_G p.tables e below (own_EW below s room_1.cells room_1.slots (Q_law Z p0 p1 p2 p3 h0 n0)) (T41.setTop (mkF m 38 #[.val (.int p0), .val (.int p1), .val (.int p2), .val (.int p3), .val (.ref ar), .val (.int of), .val (.int ln), .val (.int ct), .unset, .unset, .unset] [])) := by
    intro T41 locs41 h41 ar of ln ct X41 e41 N41 Z41 EB VB h1 h2 h3
    have z0 : (0 : Int32).toInt = 0 := rfl
    have z8 : (8 : Int32).toInt = 8 := rfl
    have z1 : (1 : Int32).toInt = 1 := rfl
    show own_G p.tables e below _ (T41.setTop (mkF m 38 #[.val (.int p0), .val (.int p1), .val (.int p2), .val (.int p3), .val (.ref ar), .val (.int of), .val (.int ln), .val (.int ct), .unset, .unset, .unset] []))
    obtain ⟨T42, h42, X42, e42, E42, A42, D42, -, st42⟩ := newO X41 hx hZ hown (hw _ (List.mem_of_getElem? (i := 2) rfl)) (hw _ (List.mem_of_getElem? (i := 3) rfl)) (hw _ (List.mem_of_getElem? (i := 4) rfl)) e41 (g := (mkF m 38 #[.val (.int p0), .val (.int p1), .val (.int p2), .val (.int p3), .val (.ref ar), .val (.int of), .val (.int ln), .val (.int ct), .unset, .unset, .unset] [])) rfl (hb hby at_38) (Nat.le_of_ble_eq_true rfl) (Nat.le_of_ble_eq_true rfl)
    obtain ⟨b42, g42⟩ : ∃ z, z = h41.size := ⟨_, rfl⟩
    rw [← g42] at A42 D42 st42
    have ne_ar_b42 : ar ≠ b42 := Nat.ne_of_lt (Nat.lt_of_lt_of_le EB.lt (Nat.le_of_eq g42.symm))
    have g_b42 : n0 ≤ b42 := Nat.le_trans Z41 (Nat.le_of_eq g42.symm)
    refine own_go st42 ?_
    have Z42 : n0 ≤ h42.size := Nat.le_trans Z41 E42.1
    have F_octets_b42 : Fld Z h42 b42 "com/example/octetry/octetry/io/OctetReader" "octets" "[B" .null := D42 (Or.inr (hw _ (List.mem_of_getElem? (i := 25) rfl))) (ty := (.array .byte)) (by decide)
    have F_position_b42 : Fld Z h42 b42 "com/example/octetry/octetry/io/OctetReader" "position" "I" (.int (0 : Int32)) := D42 (Or.inl (hw _ (List.mem_of_getElem? (i := 34) rfl))) (ty := .int) (by decide)
    have F_end_b42 : Fld Z h42 b42 "com/example/octetry/octetry/io/OctetReader" "end" "I" (.int (0 : Int32)) := D42 (Or.inr (hw _ (List.mem_of_getElem? (i := 36) rfl))) (ty := .int) (by decide)
    show own_G p.tables e below _ (T42.setTop (mkF m 41 #[.val (.int p0), .val (.int p1), .val (.int p2), .val (.int p3), .val (.ref ar), .val (.int of), .val (.int ln), .val (.int ct), .unset, .unset, .unset] [(.ref b42)]))
    refine own_go (fun _ kt => XS.dup X42.here hx rfl (hb hby at_41) rfl rfl kt) ?_
    show own_G p.tables e below _ (T42.setTop (mkF m 42 #[.val (.int p0), .val (.int p1), .val (.int p2), .val (.int p3), .val (.ref ar), .val (.int of), .val (.int ln), .val (.int ct), .unset, .unset, .unset] [(.ref b42), (.ref b42)]))
    refine own_go (fun _ kt => XS.aload X42.here hx rfl (hb hby at_42) rfl rfl kt) ?_
    show own_G p.tables e below _ (T42.setTop (mkF m 44 #[.val (.int p0), .val (.int p1), .val (.int p2), .val (.int p3), .val (.ref ar), .val (.int of), .val (.int ln), .val (.int ct), .unset, .unset, .unset] [(.ref ar), (.ref b42), (.ref b42)]))
    refine own_go (fun _ kt => XS.iload X42.here hx rfl (hb hby at_44) rfl kt) ?_
    show own_G p.tables e below _ (T42.setTop (mkF m 46 #[.val (.int p0), .val (.int p1), .val (.int p2), .val (.int p3), .val (.ref ar), .val (.int of), .val (.int ln), .val (.int ct), .unset, .unset, .unset] [(.int of), (.ref ar), (.ref b42), (.ref b42)]))
    refine own_go (fun _ kt => XS.iload X42.here hx rfl (hb hby at_46) rfl kt) ?_
    have u43 := (VB.ext E42)
    have u44 := (EB.ext E42)
    show own_G p.tables e below _ (T42.setTop (mkF m 48 #[.val (.int p0), .val (.int p1), .val (.int p2), .val (.int p3), .val (.ref ar), .val (.int of), .val (.int ln), .val (.int ct), .unset, .unset, .unset] [(.int ln), (.int of), (.ref ar), (.ref b42), (.ref b42)]))
    obtain ⟨_, _, ⟨T45, L45, k45, n45⟩, -, X45, hS45, hk45, ⟨Lc45, hQ45, l45, y45, z45⟩, st45⟩ := X42.specialBackS hx (y := (⟨"com/example/octetry/octetry/io/OctetReader", "<init>", "([BII)V"⟩ : MethodName)) rfl hown (mvT hZ (hw _ (List.mem_of_getElem? (i := 5) rfl))) (mvT hZ (hw _ (List.mem_of_getElem? (i := 6) rfl))) (mvT hZ (hw _ (List.mem_of_getElem? (i := 7) rfl))) (by decide) (backOfS (W := 1) (rm_init l Z a0 hw [] b42 ar of ln _ h42 n0 Z42 A42 g_b42 F_octets_b42 F_position_b42 F_end_b42 u43 u44 (Ne.symm ne_ar_b42) h1.1 h2.1 (by omega)) hZ (hw _ (List.mem_of_getElem? (i := 7) rfl)) (hw _ (List.mem_of_getElem? (i := 4) rfl)) (by decide) (by decide)) (g := (mkF m 48 #[.val (.int p0), .val (.int p1), .val (.int p2), .val (.int p3), .val (.ref ar), .val (.int of), .val (.int ln), .val (.int ct), .unset, .unset, .unset] [(.int ln), (.int of), (.ref ar), (.ref b42), (.ref b42)])) rfl (by rw [hml]; rfl) (Steps.refl _) (a := b42) (argsL := [(.ref ar), (.int of), (.int ln)]) (rest := [(.ref b42)]) (lenOf pd___BII_V rfl) rfl (by show 2 * 0 + _ ≤ _; exact Nat.le_of_eq rfl) (hb hby at_48) (fun _ _ => ⟨rfl, e42, (Nat.le_of_ble_eq_true rfl), (Nat.le_of_ble_eq_true rfl)⟩)
    dsimp only [Pt.U, Pt.locs, Pt.cells, Pt.slots] at X45 l45 y45 z45 st45 hQ45 hS45 hk45
    subst l45 y45 z45
    obtain ⟨rfl, Nq45, Kq45, P0⟩ := hQ45
    have N45 := Fr.app N41 Nq45
    refine own_tr st45 ?_
    have hZ : Z.Warmed39 (s.setVm T45.vm).vm := State.Warmed39.trans hZ hS45.1
    have hown : (s.setVm T45.vm).vm.findClass "com/example/octetry/octetry/io/OctetReaderHasRemainingPinLaw" = some m.cls := by rw [show (s.setVm T45.vm).vm = T45.vm from rfl, hS45.1.alike.findClass]; exact hown
    have Z45 : n0 ≤ T45.heap.size := Nat.le_trans Z42 Kq45.1
    have s1 : (of + ln).toInt = of.toInt + ln.toInt := own_addI (by omega)
    have s2 : (of + ct).toInt = of.toInt + ct.toInt := own_addI (by omega)
    show own_G p.tables e below _ (T45.setTop (mkF m 51 #[.val (.int p0), .val (.int p1), .val (.int p2), .val (.int p3), .val (.ref ar), .val (.int of), .val (.int ln), .val (.int ct), .unset, .unset, .unset] [(.ref b42)]))
    refine own_go (fun _ kt => XS.astore X45.here hx rfl (hb hby at_51) rfl rfl (l' := #[.val (.int p0), .val (.int p1), .val (.int p2), .val (.int p3), .val (.ref ar), .val (.int of), .val (.int ln), .val (.int ct), .val (.ref b42), .unset, .unset]) rfl kt) ?_
    show own_G p.tables e below _ (T45.setTop (mkF m 53 #[.val (.int p0), .val (.int p1), .val (.int p2), .val (.int p3), .val (.ref ar), .val (.int of), .val (.int ln), .val (.int ct), .val (.ref b42), .unset, .unset] []))
    refine own_go (fun _ kt => XS.aload X45.here hx rfl (hb hby at_53) rfl rfl kt) ?_
    show own_G p.tables e below _ (T45.setTop (mkF m 55 #[.val (.int p0), .val (.int p1), .val (.int p2), .val (.int p3), .val (.ref ar), .val (.int of), .val (.int ln), .val (.int ct), .val (.ref b42), .unset, .unset] [(.ref b42)]))
    obtain ⟨cq46, kq46, q46a, q46b, q46c⟩ := isOf hZ rfl P0.1
    obtain ⟨_, _, ⟨T46, L46, k46, n46⟩, -, X46, ⟨Lc46, hQ46, l46, y46, z46⟩, st46⟩ := X45.virtualBack hx (y := (⟨"com/example/octetry/octetry/io/OctetReader", "hasRemaining", "()Z"⟩ : MethodName)) (z := (⟨"com/example/octetry/octetry/io/OctetReader", "hasRemaining", "()Z"⟩ : MethodName)) hown (mvT hZ (hw _ (List.mem_of_getElem? (i := 37) rfl))) (mvT hZ (hw _ (List.mem_of_getElem? (i := 38) rfl))) (notFace_of_selects (args := #[]) (mvT hZ (hw _ (List.mem_of_getElem? (i := 40) rfl)))) (mvT hZ (hw _ (List.mem_of_getElem? (i := 40) rfl))) (mvT hZ (hw _ (List.mem_of_getElem? (i := 39) rfl))) (by decide) (backOf (W := 0) (rm_hasR l Z a0 hw [] b42 ar of (of + ln) _ T45.heap n0 Z45 P0) hZ (hw _ (List.mem_of_getElem? (i := 41) rfl)) (hw _ (List.mem_of_getElem? (i := 4) rfl)) (by decide) (by decide)) q46a q46c (g := (mkF m 55 #[.val (.int p0), .val (.int p1), .val (.int p2), .val (.int p3), .val (.ref ar), .val (.int of), .val (.int ln), .val (.int ct), .val (.ref b42), .unset, .unset] [(.ref b42)])) rfl (by rw [hml]; rfl) (Steps.refl _) (argsL := []) (rest := []) (lenOf pd___Z rfl) rfl (by show 2 * 0 + _ ≤ _; exact Nat.le_of_eq rfl) (hb hby at_55) (fun _ _ => ⟨rfl, rfl, (Nat.le_of_ble_eq_true rfl), (Nat.le_of_ble_eq_true rfl)⟩)
    dsimp only [Pt.U, Pt.locs, Pt.cells, Pt.slots] at X46 l46 y46 z46 st46 hQ46
    subst l46 y46 z46
    obtain ⟨rfl, Nq46, eq46⟩ := hQ46
    have N46 := Fr.app N45 Nq46
    refine own_tr st46 ?_
    obtain ⟨bf, hbf⟩ : ∃ bf, bf = (if of < (of + ln) then (1 : Int32) else 0) := ⟨_, rfl⟩
    show own_G p.tables e below _ (T46.setTop (mkF m 58 #[.val (.int p0), .val (.int p1), .val (.int p2), .val (.int p3), .val (.ref ar), .val (.int of), .val (.int ln), .val (.int ct), .val (.ref b42), .unset, .unset] [(.int (if of < (of + ln) then (1 : Int32) else 0))]))
    rw [← hbf]
    show own_G p.tables e below _ (T46.setTop (mkF m 58 #[.val (.int p0), .val (.int p1), .val (.int p2), .val (.int p3), .val (.ref ar), .val (.int of), .val (.int ln), .val (.int ct), .val (.ref b42), .unset, .unset] [(.int bf)]))
    refine own_go (fun _ kt => XS.istore X46.here hx rfl (hb hby at_58) rfl (l' := #[.val (.int p0), .val (.int p1), .val (.int p2), .val (.int p3), .val (.ref ar), .val (.int of), .val (.int ln), .val (.int ct), .val (.ref b42), .val (.int bf), .unset]) rfl kt) ?_
    have j96 : ∀ (T47 : State) (locs47 : List Loc) (h47 : Heap), Stand p l e room_1 (s.setVm T45.vm) m #[(.int p0), (.int p1), (.int p2), (.int p3)] below meth c T47 locs47 4 39 → T47.heap = h47 → Fr n0 locs47 → n0 ≤ h47.size → (T45.heap.size ≤ h47.size) → (own_P Z h47 n0 b42 ar (of + ct) (of + ln) (fun _ => (.int (0 : Int32)))) → own_G p.tables e below (own_EW below s room_1.cells room_1.slots (Q_law Z p0 p1 p2 p3 h0 n0)) (T47.setTop (mkF m 96 #[.val (.int p0), .val (.int p1), .val (.int p2), .val (.int p3), .val (.ref ar), .val (.int of), .val (.int ln), .val (.int ct), .val (.ref b42), .val (.int bf), .unset] [])) := by
      intro T47 locs47 h47  X47 e47 N47 Z47 KB P
      show own_G p.tables e below _ (T47.setTop (mkF m 96 #[.val (.int p0), .val (.int p1), .val (.int p2), .val (.int p3), .val (.ref ar), .val (.int of), .val (.int ln), .val (.int ct), .val (.ref b42), .val (.int bf), .unset] []))
      refine own_go (fun _ kt => XS.aload X47.here hx rfl (hb hby at_96) rfl rfl kt) ?_
      show own_G p.tables e below _ (T47.setTop (mkF m 98 #[.val (.int p0), .val (.int p1), .val (.int p2), .val (.int p3), .val (.ref ar), .val (.int of), .val (.int ln), .val (.int ct), .val (.ref b42), .val (.int bf), .unset] [(.ref b42)]))
      obtain ⟨cq48, kq48, q48a, q48b, q48c⟩ := isOf hZ e47 P.1
      obtain ⟨_, _, ⟨T48, L48, k48, n48⟩, -, X48, ⟨Lc48, hQ48, l48, y48, z48⟩, st48⟩ := X47.virtualBack hx (y := (⟨"com/example/octetry/octetry/io/OctetReader", "hasRemaining", "()Z"⟩ : MethodName)) (z := (⟨"com/example/octetry/octetry/io/OctetReader", "hasRemaining", "()Z"⟩ : MethodName)) hown (mvT hZ (hw _ (List.mem_of_getElem? (i := 37) rfl))) (mvT hZ (hw _ (List.mem_of_getElem? (i := 38) rfl))) (notFace_of_selects (args := #[]) (mvT hZ (hw _ (List.mem_of_getElem? (i := 40) rfl)))) (mvT hZ (hw _ (List.mem_of_getElem? (i := 40) rfl))) (mvT hZ (hw _ (List.mem_of_getElem? (i := 39) rfl))) (by decide) (backOf (W := 0) (rm_hasR l Z a0 hw [] b42 ar (of + ct) (of + ln) _ h47 n0 Z47 P) hZ (hw _ (List.mem_of_getElem? (i := 41) rfl)) (hw _ (List.mem_of_getElem? (i := 4) rfl)) (by decide) (by decide)) q48a q48c (g := (mkF m 98 #[.val (.int p0), .val (.int p1), .val (.int p2), .val (.int p3), .val (.ref ar), .val (.int of), .val (.int ln), .val (.int ct), .val (.ref b42), .val (.int bf), .unset] [(.ref b42)])) rfl (by rw [hml]; rfl) (Steps.refl _) (argsL := []) (rest := []) (lenOf pd___Z rfl) rfl (by show 2 * 0 + _ ≤ _; exact Nat.le_of_eq rfl) (hb hby at_98) (fun _ _ => ⟨rfl, e47, (Nat.le_of_ble_eq_true rfl), (Nat.le_of_ble_eq_true rfl)⟩)
      dsimp only [Pt.U, Pt.locs, Pt.cells, Pt.slots] at X48 l48 y48 z48 st48 hQ48
      subst l48 y48 z48
      obtain ⟨rfl, Nq48, eq48⟩ := hQ48
      have N48 := Fr.app N47 Nq48
      refine own_tr st48 ?_
      obtain ⟨af, haf⟩ : ∃ af, af = (if (of + ct) < (of + ln) then (1 : Int32) else 0) := ⟨_, rfl⟩
      show own_G p.tables e below _ (T48.setTop (mkF m 101 #[.val (.int p0), .val (.int p1), .val (.int p2), .val (.int p3), .val (.ref ar), .val (.int of), .val (.int ln), .val (.int ct), .val (.ref b42), .val (.int bf), .unset] [(.int (if (of + ct) < (of + ln) then (1 : Int32) else 0))]))
      rw [← haf]
      show own_G p.tables e below _ (T48.setTop (mkF m 101 #[.val (.int p0), .val (.int p1), .val (.int p2), .val (.int p3), .val (.ref ar), .val (.int of), .val (.int ln), .val (.int ct), .val (.ref b42), .val (.int bf), .unset] [(.int af)]))
      refine own_go (fun _ kt => XS.istore X48.here hx rfl (hb hby at_101) rfl (l' := #[.val (.int p0), .val (.int p1), .val (.int p2), .val (.int p3), .val (.ref ar), .val (.int of), .val (.int ln), .val (.int ct), .val (.ref b42), .val (.int bf), .val (.int af)]) rfl kt) ?_
      show own_G p.tables e below _ (T48.setTop (mkF m 103 #[.val (.int p0), .val (.int p1), .val (.int p2), .val (.int p3), .val (.ref ar), .val (.int of), .val (.int ln), .val (.int ct), .val (.ref b42), .val (.int bf), .val (.int af)] []))
      refine own_go (fun _ kt => XS.iload X48.here hx rfl (hb hby at_103) rfl kt) ?_
      show own_G p.tables e below _ (T48.setTop (mkF m 105 #[.val (.int p0), .val (.int p1), .val (.int p2), .val (.int p3), .val (.ref ar), .val (.int of), .val (.int ln), .val (.int ct), .val (.ref b42), .val (.int bf), .val (.int af)] [(.int bf)]))
      refine own_go (fun _ kt => XS.iload X48.here hx rfl (hb hby at_105) rfl kt) ?_
      have j118 : ∀ (T49 : State) (locs49 : List Loc) (h49 : Heap), Stand p l e room_1 (s.setVm T45.vm) m #[(.int p0), (.int p1), (.int p2), (.int p3)] below meth c T49 locs49 4 39 → T49.heap = h49 → Fr n0 locs49 → n0 ≤ h49.size → (T45.heap.size ≤ h49.size) → own_G p.tables e below (own_EW below s room_1.cells room_1.slots (Q_law Z p0 p1 p2 p3 h0 n0)) (T49.setTop (mkF m 118 #[.val (.int p0), .val (.int p1), .val (.int p2), .val (.int p3), .val (.ref ar), .val (.int of), .val (.int ln), .val (.int ct), .val (.ref b42), .val (.int bf), .val (.int af)] [])) := by
        intro T49 locs49 h49  X49 e49 N49 Z49 KB2
        show own_G p.tables e below _ (T49.setTop (mkF m 118 #[.val (.int p0), .val (.int p1), .val (.int p2), .val (.int p3), .val (.ref ar), .val (.int of), .val (.int ln), .val (.int ct), .val (.ref b42), .val (.int bf), .val (.int af)] []))
        refine own_go (fun _ kt => XS.iload X49.here hx rfl (hb hby at_118) rfl kt) ?_
        show own_G p.tables e below _ (T49.setTop (mkF m 120 #[.val (.int p0), .val (.int p1), .val (.int p2), .val (.int p3), .val (.ref ar), .val (.int of), .val (.int ln), .val (.int ct), .val (.ref b42), .val (.int bf), .val (.int af)] [(.int af)]))
        refine own_go (fun _ kt => XS.iload X49.here hx rfl (hb hby at_120) rfl kt) ?_
        show own_G p.tables e below _ (T49.setTop (mkF m 122 #[.val (.int p0), .val (.int p1), .val (.int p2), .val (.int p3), .val (.ref ar), .val (.int of), .val (.int ln), .val (.int ct), .val (.ref b42), .val (.int bf), .val (.int af)] [(.int ct), (.int af)]))
        refine own_go (fun _ kt => XS.iload X49.here hx rfl (hb hby at_122) rfl kt) ?_
        by_cases hd : ct < ln
        · show own_G p.tables e below _ (T49.setTop (mkF m 124 #[.val (.int p0), .val (.int p1), .val (.int p2), .val (.int p3), .val (.ref ar), .val (.int of), .val (.int ln), .val (.int ct), .val (.ref b42), .val (.int bf), .val (.int af)] [(.int ln), (.int ct), (.int af)]))
          refine own_go (fun _ kt => XS.icmpNo X49.here hx rfl (hb hby at_124) rfl (tlt (hd : ct < ln)).2.1 kt) ?_
          show own_G p.tables e below _ (T49.setTop (mkF m 127 #[.val (.int p0), .val (.int p1), .val (.int p2), .val (.int p3), .val (.ref ar), .val (.int of), .val (.int ln), .val (.int ct), .val (.ref b42), .val (.int bf), .val (.int af)] [(.int af)]))
          refine own_go (fun _ kt => XS.iconst X49.here hx rfl (hb hby at_127) kt) ?_
          show own_G p.tables e below _ (T49.setTop (mkF m 128 #[.val (.int p0), .val (.int p1), .val (.int p2), .val (.int p3), .val (.ref ar), .val (.int of), .val (.int ln), .val (.int ct), .val (.ref b42), .val (.int bf), .val (.int af)] [(.int (1 : Int32)), (.int af)]))
          refine own_go (fun _ kt => XS.goto X49.here hx rfl (pc0 := 128) (pc' := 132) rfl (hb hby at_128) (by decide) (by decide) kt) ?_
          show own_G p.tables e below _ (T49.setTop (mkF m 132 #[.val (.int p0), .val (.int p1), .val (.int p2), .val (.int p3), .val (.ref ar), .val (.int of), .val (.int ln), .val (.int ct), .val (.ref b42), .val (.int bf), .val (.int af)] [(.int (1 : Int32)), (.int af)]))
          refine own_go (fun _ kt => XS.icmpNo X49.here hx rfl (hb hby at_132) rfl (teq (by rw [haf, if_pos (by rw [Int32.lt_iff_toInt_lt] at hd ⊢; omega)] : af = (1 : Int32))).2 kt) ?_
          show own_G p.tables e below _ (T49.setTop (mkF m 135 #[.val (.int p0), .val (.int p1), .val (.int p2), .val (.int p3), .val (.ref ar), .val (.int of), .val (.int ln), .val (.int ct), .val (.ref b42), .val (.int bf), .val (.int af)] []))
          refine own_go (fun _ kt => XS.iconst X49.here hx rfl (hb hby at_135) kt) ?_
          show own_G p.tables e below _ (T49.setTop (mkF m 136 #[.val (.int p0), .val (.int p1), .val (.int p2), .val (.int p3), .val (.ref ar), .val (.int of), .val (.int ln), .val (.int ct), .val (.ref b42), .val (.int bf), .val (.int af)] [(.int (1 : Int32))]))
          refine own_go (fun _ kt => XS.goto X49.here hx rfl (pc0 := 136) (pc' := 140) rfl (hb hby at_136) (by decide) (by decide) kt) ?_
          show own_G p.tables e below _ (T49.setTop (mkF m 140 #[.val (.int p0), .val (.int p1), .val (.int p2), .val (.int p3), .val (.ref ar), .val (.int of), .val (.int ln), .val (.int ct), .val (.ref b42), .val (.int bf), .val (.int af)] [(.int (1 : Int32))]))
          exact own_retNW X49 hx (t := .boolean) Bd.returns (by simp) hlk (hb hby at_140) hS45 (Nat.le_trans (Nat.le_refl _) KB2) (Nat.le_of_ble_eq_true rfl) (Nat.le_of_ble_eq_true rfl) e49 ⟨rfl, N49⟩
        · show own_G p.tables e below _ (T49.setTop (mkF m 124 #[.val (.int p0), .val (.int p1), .val (.int p2), .val (.int p3), .val (.ref ar), .val (.int of), .val (.int ln), .val (.int ct), .val (.ref b42), .val (.int bf), .val (.int af)] [(.int ln), (.int ct), (.int af)]))
          refine own_go (fun _ kt => XS.icmpYes X49.here hx rfl (pc0 := 124) (pc' := 131) rfl (hb hby at_124) rfl (flt (hd : ¬ (ct < ln))).2.1 (by decide) (by decide) kt) ?_
          show own_G p.tables e below _ (T49.setTop (mkF m 131 #[.val (.int p0), .val (.int p1), .val (.int p2), .val (.int p3), .val (.ref ar), .val (.int of), .val (.int ln), .val (.int ct), .val (.ref b42), .val (.int bf), .val (.int af)] [(.int af)]))
          refine own_go (fun _ kt => XS.iconst X49.here hx rfl (hb hby at_131) kt) ?_
          show own_G p.tables e below _ (T49.setTop (mkF m 132 #[.val (.int p0), .val (.int p1), .val (.int p2), .val (.int p3), .val (.ref ar), .val (.int of), .val (.int ln), .val (.int ct), .val (.ref b42), .val (.int bf), .val (.int af)] [(.int (0 : Int32)), (.int af)]))
          refine own_go (fun _ kt => XS.icmpNo X49.here hx rfl (hb hby at_132) rfl (teq (by rw [haf, if_neg (by rw [Int32.lt_iff_toInt_lt] at hd ⊢; omega)] : af = (0 : Int32))).2 kt) ?_
          show own_G p.tables e below _ (T49.setTop (mkF m 135 #[.val (.int p0), .val (.int p1), .val (.int p2), .val (.int p3), .val (.ref ar), .val (.int of), .val (.int ln), .val (.int ct), .val (.ref b42), .val (.int bf), .val (.int af)] []))
          refine own_go (fun _ kt => XS.iconst X49.here hx rfl (hb hby at_135) kt) ?_
          show own_G p.tables e below _ (T49.setTop (mkF m 136 #[.val (.int p0), .val (.int p1), .val (.int p2), .val (.int p3), .val (.ref ar), .val (.int of), .val (.int ln), .val (.int ct), .val (.ref b42), .val (.int bf), .val (.int af)] [(.int (1 : Int32))]))
          refine own_go (fun _ kt => XS.goto X49.here hx rfl (pc0 := 136) (pc' := 140) rfl (hb hby at_136) (by decide) (by decide) kt) ?_
          show own_G p.tables e below _ (T49.setTop (mkF m 140 #[.val (.int p0), .val (.int p1), .val (.int p2), .val (.int p3), .val (.ref ar), .val (.int of), .val (.int ln), .val (.int ct), .val (.ref b42), .val (.int bf), .val (.int af)] [(.int (1 : Int32))]))
          exact own_retNW X49 hx (t := .boolean) Bd.returns (by simp) hlk (hb hby at_140) hS45 (Nat.le_trans (Nat.le_refl _) KB2) (Nat.le_of_ble_eq_true rfl) (Nat.le_of_ble_eq_true rfl) e49 ⟨rfl, N49⟩
      by_cases hc : (0 : Int32) < ln
      · show own_G p.tables e below _ (T48.setTop (mkF m 107 #[.val (.int p0), .val (.int p1), .val (.int p2), .val (.int p3), .val (.ref ar), .val (.int of), .val (.int ln), .val (.int ct), .val (.ref b42), .val (.int bf), .val (.int af)] [(.int ln), (.int bf)]))
        refine own_go (fun _ kt => XS.ifNo X48.here hx rfl (hb hby at_107) rfl ((if0 _ _).trans (tlt (hc : (0 : Int32) < ln)).2.2.2) kt) ?_
        show own_G p.tables e below _ (T48.setTop (mkF m 110 #[.val (.int p0), .val (.int p1), .val (.int p2), .val (.int p3), .val (.ref ar), .val (.int of), .val (.int ln), .val (.int ct), .val (.ref b42), .val (.int bf), .val (.int af)] [(.int bf)]))
        refine own_go (fun _ kt => XS.iconst X48.here hx rfl (hb hby at_110) kt) ?_
        show own_G p.tables e below _ (T48.setTop (mkF m 111 #[.val (.int p0), .val (.int p1), .val (.int p2), .val (.int p3), .val (.ref ar), .val (.int of), .val (.int ln), .val (.int ct), .val (.ref b42), .val (.int bf), .val (.int af)] [(.int (1 : Int32)), (.int bf)]))
        refine own_go (fun _ kt => XS.goto X48.here hx rfl (pc0 := 111) (pc' := 115) rfl (hb hby at_111) (by decide) (by decide) kt) ?_
        show own_G p.tables e below _ (T48.setTop (mkF m 115 #[.val (.int p0), .val (.int p1), .val (.int p2), .val (.int p3), .val (.ref ar), .val (.int of), .val (.int ln), .val (.int ct), .val (.ref b42), .val (.int bf), .val (.int af)] [(.int (1 : Int32)), (.int bf)]))
        refine own_go (fun _ kt => XS.icmpNo X48.here hx rfl (hb hby at_115) rfl (teq (by rw [hbf, if_pos (by rw [Int32.lt_iff_toInt_lt] at hc ⊢; omega)] : bf = (1 : Int32))).2 kt) ?_
        show own_G p.tables e below _ (T48.setTop (mkF m 118 #[.val (.int p0), .val (.int p1), .val (.int p2), .val (.int p3), .val (.ref ar), .val (.int of), .val (.int ln), .val (.int ct), .val (.ref b42), .val (.int bf), .val (.int af)] []))
        exact j118 _ _ _  X48 eq48 N48 Z47 KB
      · show own_G p.tables e below _ (T48.setTop (mkF m 107 #[.val (.int p0), .val (.int p1), .val (.int p2), .val (.int p3), .val (.ref ar), .val (.int of), .val (.int ln), .val (.int ct), .val (.ref b42), .val (.int bf), .val (.int af)] [(.int ln), (.int bf)]))
        refine own_go (fun _ kt => XS.ifYes X48.here hx rfl (pc0 := 107) (pc' := 114) rfl (hb hby at_107) rfl ((if0 _ _).trans (flt (hc : ¬ ((0 : Int32) < ln))).2.2.2) (by decide) (by decide) kt) ?_
        show own_G p.tables e below _ (T48.setTop (mkF m 114 #[.val (.int p0), .val (.int p1), .val (.int p2), .val (.int p3), .val (.ref ar), .val (.int of), .val (.int ln), .val (.int ct), .val (.ref b42), .val (.int bf), .val (.int af)] [(.int bf)]))
        refine own_go (fun _ kt => XS.iconst X48.here hx rfl (hb hby at_114) kt) ?_
        show own_G p.tables e below _ (T48.setTop (mkF m 115 #[.val (.int p0), .val (.int p1), .val (.int p2), .val (.int p3), .val (.ref ar), .val (.int of), .val (.int ln), .val (.int ct), .val (.ref b42), .val (.int bf), .val (.int af)] [(.int (0 : Int32)), (.int bf)]))
        refine own_go (fun _ kt => XS.icmpNo X48.here hx rfl (hb hby at_115) rfl (teq (by rw [hbf, if_neg (by rw [Int32.lt_iff_toInt_lt] at hc ⊢; omega)] : bf = (0 : Int32))).2 kt) ?_
        show own_G p.tables e below _ (T48.setTop (mkF m 118 #[.val (.int p0), .val (.int p1), .val (.int p2), .val (.int p3), .val (.ref ar), .val (.int of), .val (.int ln), .val (.int ct), .val (.ref b42), .val (.int bf), .val (.int af)] []))
        exact j118 _ _ _  X48 eq48 N48 Z47 KB
    show own_G p.tables e below _ (T46.setTop (mkF m 60 #[.val (.int p0), .val (.int p1), .val (.int p2), .val (.int p3), .val (.ref ar), .val (.int of), .val (.int ln), .val (.int ct), .val (.ref b42), .val (.int bf), .unset] []))
    refine own_go (fun _ kt => XS.iloadN X46.here hx rfl (hb hby at_60) rfl kt) ?_
    show own_G p.tables e below _ (T46.setTop (mkF m 61 #[.val (.int p0), .val (.int p1), .val (.int p2), .val (.int p3), .val (.ref ar), .val (.int of), .val (.int ln), .val (.int ct), .val (.ref b42), .val (.int bf), .unset] [(.int p3)]))
    refine own_go (fun _ kt => XS.iconst X46.here hx rfl (hb hby at_61) kt) ?_
    show own_G p.tables e below _ (T46.setTop (mkF m 62 #[.val (.int p0), .val (.int p1), .val (.int p2), .val (.int p3), .val (.ref ar), .val (.int of), .val (.int ln), .val (.int ct), .val (.ref b42), .val (.int bf), .unset] [(.int (1 : Int32)), (.int p3)]))
    refine own_go (fun _ kt => XS.iand X46.here hx rfl (hb hby at_62) rfl kt) ?_
    by_cases hf : (p3 &&& (1 : Int32)) = (0 : Int32)
    · show own_G p.tables e below _ (T46.setTop (mkF m 63 #[.val (.int p0), .val (.int p1), .val (.int p2), .val (.int p3), .val (.ref ar), .val (.int of), .val (.int ln), .val (.int ct), .val (.ref b42), .val (.int bf), .unset] [(.int (p3 &&& (1 : Int32)))]))
      refine own_go (fun _ kt => XS.ifYes X46.here hx rfl (pc0 := 63) (pc' := 89) rfl (hb hby at_63) rfl ((if0 _ _).trans (teq (hf : (p3 &&& (1 : Int32)) = (0 : Int32))).1) (by decide) (by decide) kt) ?_
      show own_G p.tables e below _ (T46.setTop (mkF m 89 #[.val (.int p0), .val (.int p1), .val (.int p2), .val (.int p3), .val (.ref ar), .val (.int of), .val (.int ln), .val (.int ct), .val (.ref b42), .val (.int bf), .unset] []))
      refine own_go (fun _ kt => XS.aload X46.here hx rfl (hb hby at_89) rfl rfl kt) ?_
      show own_G p.tables e below _ (T46.setTop (mkF m 91 #[.val (.int p0), .val (.int p1), .val (.int p2), .val (.int p3), .val (.ref ar), .val (.int of), .val (.int ln), .val (.int ct), .val (.ref b42), .val (.int bf), .unset] [(.ref b42)]))
      refine own_go (fun _ kt => XS.iload X46.here hx rfl (hb hby at_91) rfl kt) ?_
      show own_G p.tables e below _ (T46.setTop (mkF m 93 #[.val (.int p0), .val (.int p1), .val (.int p2), .val (.int p3), .val (.ref ar), .val (.int of), .val (.int ln), .val (.int ct), .val (.ref b42), .val (.int bf), .unset] [(.int ct), (.ref b42)]))
      obtain ⟨cq50, kq50, q50a, q50b, q50c⟩ := isOf hZ eq46 P0.1
      obtain ⟨_, _, ⟨T50, L50, k50, n50⟩, -, X50, ⟨Lc50, hQ50, l50, y50, z50⟩, st50⟩ := X46.virtualBack hx (y := (⟨"com/example/octetry/octetry/io/OctetReader", "skip", "(I)V"⟩ : MethodName)) (z := (⟨"com/example/octetry/octetry/io/OctetReader", "skip", "(I)V"⟩ : MethodName)) hown (mvT hZ (hw _ (List.mem_of_getElem? (i := 48) rfl))) (mvT hZ (hw _ (List.mem_of_getElem? (i := 49) rfl))) (notFace_of_selects (args := #[]) (mvT hZ (hw _ (List.mem_of_getElem? (i := 51) rfl)))) (mvT hZ (hw _ (List.mem_of_getElem? (i := 51) rfl))) (mvT hZ (hw _ (List.mem_of_getElem? (i := 50) rfl))) (by decide) (backOf (W := 0) (rm_skip l Z a0 hw [] b42 ct ar of (of + ln) _ T45.heap n0 Z45 P0 (by rw [Int32.lt_iff_toInt_lt]; omega) (by rw [Int32.lt_iff_toInt_lt, own_subI (by omega)]; omega)) hZ (hw _ (List.mem_of_getElem? (i := 52) rfl)) (hw _ (List.mem_of_getElem? (i := 4) rfl)) (by decide) (by decide)) q50a q50c (g := (mkF m 93 #[.val (.int p0), .val (.int p1), .val (.int p2), .val (.int p3), .val (.ref ar), .val (.int of), .val (.int ln), .val (.int ct), .val (.ref b42), .val (.int bf), .unset] [(.int ct), (.ref b42)])) rfl (by rw [hml]; rfl) (Steps.refl _) (argsL := [(.int ct)]) (rest := []) (lenOf pd__I_V rfl) rfl (by show 2 * 0 + _ ≤ _; exact Nat.le_of_eq rfl) (hb hby at_93) (fun _ _ => ⟨rfl, eq46, (Nat.le_of_ble_eq_true rfl), (Nat.le_of_ble_eq_true rfl)⟩)
      dsimp only [Pt.U, Pt.locs, Pt.cells, Pt.slots] at X50 l50 y50 z50 st50 hQ50
      subst l50 y50 z50
      obtain ⟨rfl, Nq50, Kq50, P2⟩ := hQ50
      have N50 := Fr.app N46 Nq50
      refine own_tr st50 ?_
      have Z50 : n0 ≤ T50.heap.size := Nat.le_trans Z45 Kq50.1
      show own_G p.tables e below _ (T50.setTop (mkF m 96 #[.val (.int p0), .val (.int p1), .val (.int p2), .val (.int p3), .val (.ref ar), .val (.int of), .val (.int ln), .val (.int ct), .val (.ref b42), .val (.int bf), .unset] []))
      exact j96 _ _ _  X50 rfl N50 Z50 Kq50.1 P2
    · show own_G p.tables e below _ (T46.setTop (mkF m 63 #[.val (.int p0), .val (.int p1), .val (.int p2), .val (.int p3), .val (.ref ar), .val (.int of), .val (.int ln), .val (.int ct), .val (.ref b42), .val (.int bf), .unset] [(.int (p3 &&& (1 : Int32)))]))
      refine own_go (fun _ kt => XS.ifNo X46.here hx rfl (hb hby at_63) rfl ((if0 _ _).trans (feq (hf : ¬ ((p3 &&& (1 : Int32)) = (0 : Int32)))).1) kt) ?_
      show own_G p.tables e below _ (T46.setTop (mkF m 66 #[.val (.int p0), .val (.int p1), .val (.int p2), .val (.int p3), .val (.ref ar), .val (.int of), .val (.int ln), .val (.int ct), .val (.ref b42), .val (.int bf), .unset] []))
      refine own_go (fun _ kt => XS.iload X46.here hx rfl (hb hby at_66) rfl kt) ?_
      by_cases hg : (0 : Int32) < ct
      · show own_G p.tables e below _ (T46.setTop (mkF m 68 #[.val (.int p0), .val (.int p1), .val (.int p2), .val (.int p3), .val (.ref ar), .val (.int of), .val (.int ln), .val (.int ct), .val (.ref b42), .val (.int bf), .unset] [(.int ct)]))
        refine own_go (fun _ kt => XS.ifNo X46.here hx rfl (hb hby at_68) rfl ((if0 _ _).trans (tlt (hg : (0 : Int32) < ct)).2.2.2) kt) ?_
        rw [Int32.lt_iff_toInt_lt] at hg
        show own_G p.tables e below _ (T46.setTop (mkF m 71 #[.val (.int p0), .val (.int p1), .val (.int p2), .val (.int p3), .val (.ref ar), .val (.int of), .val (.int ln), .val (.int ct), .val (.ref b42), .val (.int bf), .unset] []))
        refine own_go (fun _ kt => XS.aload X46.here hx rfl (hb hby at_71) rfl rfl kt) ?_
        show own_G p.tables e below _ (T46.setTop (mkF m 73 #[.val (.int p0), .val (.int p1), .val (.int p2), .val (.int p3), .val (.ref ar), .val (.int of), .val (.int ln), .val (.int ct), .val (.ref b42), .val (.int bf), .unset] [(.ref b42)]))
        obtain ⟨cq51, kq51, q51a, q51b, q51c⟩ := isOf hZ eq46 P0.1
        obtain ⟨_, _, ⟨T51, L51, k51, n51⟩, -, X51, ⟨Lc51, hQ51, l51, y51, z51⟩, st51⟩ := X46.virtualBack hx (y := (⟨"com/example/octetry/octetry/io/OctetReader", "read", "()I"⟩ : MethodName)) (z := (⟨"com/example/octetry/octetry/io/OctetReader", "read", "()I"⟩ : MethodName)) hown (mvT hZ (hw _ (List.mem_of_getElem? (i := 42) rfl))) (mvT hZ (hw _ (List.mem_of_getElem? (i := 43) rfl))) (notFace_of_selects (args := #[]) (mvT hZ (hw _ (List.mem_of_getElem? (i := 45) rfl)))) (mvT hZ (hw _ (List.mem_of_getElem? (i := 45) rfl))) (mvT hZ (hw _ (List.mem_of_getElem? (i := 44) rfl))) (by decide) (backOf (W := 0) (rm_read l Z a0 hw [] b42 ar of (of + ln) _ 0 T45.heap n0 Z45 P0 (by rw [Int32.lt_iff_toInt_lt]; omega) ⟨h1.1, by omega⟩ rfl) hZ (hw _ (List.mem_of_getElem? (i := 46) rfl)) (hw _ (List.mem_of_getElem? (i := 4) rfl)) (by decide) (by decide)) q51a q51c (g := (mkF m 73 #[.val (.int p0), .val (.int p1), .val (.int p2), .val (.int p3), .val (.ref ar), .val (.int of), .val (.int ln), .val (.int ct), .val (.ref b42), .val (.int bf), .unset] [(.ref b42)])) rfl (by rw [hml]; rfl) (Steps.refl _) (argsL := []) (rest := []) (lenOf pd___I rfl) rfl (by show 2 * 0 + _ ≤ _; exact Nat.le_of_eq rfl) (hb hby at_73) (fun _ _ => ⟨rfl, eq46, (Nat.le_of_ble_eq_true rfl), (Nat.le_of_ble_eq_true rfl)⟩)
        dsimp only [Pt.U, Pt.locs, Pt.cells, Pt.slots] at X51 l51 y51 z51 st51 hQ51
        subst l51 y51 z51
        obtain ⟨r, rfl, Nq51, Kq51, P1⟩ := hQ51
        have N51 := Fr.app N46 Nq51
        refine own_tr st51 ?_
        have Z51 : n0 ≤ T51.heap.size := Nat.le_trans Z45 Kq51.1
        have s3 : (of + 1).toInt = of.toInt + 1 := by rw [own_addI (by omega)]; rfl
        have s4 : (ct - 1).toInt = ct.toInt - 1 := by rw [own_subI (by omega)]; rfl
        have s5 : of + 1 + (ct - 1) = of + ct := by apply Int32.toInt_inj.mp; rw [own_addI (by omega)]; omega
        show own_G p.tables e below _ (T51.setTop (mkF m 76 #[.val (.int p0), .val (.int p1), .val (.int p2), .val (.int p3), .val (.ref ar), .val (.int of), .val (.int ln), .val (.int ct), .val (.ref b42), .val (.int bf), .unset] [(.int r)]))
        refine own_go (fun _ kt => XS.pop X51.here hx rfl (hb hby at_76) rfl rfl kt) ?_
        show own_G p.tables e below _ (T51.setTop (mkF m 77 #[.val (.int p0), .val (.int p1), .val (.int p2), .val (.int p3), .val (.ref ar), .val (.int of), .val (.int ln), .val (.int ct), .val (.ref b42), .val (.int bf), .unset] []))
        refine own_go (fun _ kt => XS.aload X51.here hx rfl (hb hby at_77) rfl rfl kt) ?_
        show own_G p.tables e below _ (T51.setTop (mkF m 79 #[.val (.int p0), .val (.int p1), .val (.int p2), .val (.int p3), .val (.ref ar), .val (.int of), .val (.int ln), .val (.int ct), .val (.ref b42), .val (.int bf), .unset] [(.ref b42)]))
        refine own_go (fun _ kt => XS.iload X51.here hx rfl (hb hby at_79) rfl kt) ?_
        show own_G p.tables e below _ (T51.setTop (mkF m 81 #[.val (.int p0), .val (.int p1), .val (.int p2), .val (.int p3), .val (.ref ar), .val (.int of), .val (.int ln), .val (.int ct), .val (.ref b42), .val (.int bf), .unset] [(.int ct), (.ref b42)]))
        refine own_go (fun _ kt => XS.iconst X51.here hx rfl (hb hby at_81) kt) ?_
        show own_G p.tables e below _ (T51.setTop (mkF m 82 #[.val (.int p0), .val (.int p1), .val (.int p2), .val (.int p3), .val (.ref ar), .val (.int of), .val (.int ln), .val (.int ct), .val (.ref b42), .val (.int bf), .unset] [(.int (1 : Int32)), (.int ct), (.ref b42)]))
        refine own_go (fun _ kt => XS.isub X51.here hx rfl (hb hby at_82) rfl kt) ?_
        show own_G p.tables e below _ (T51.setTop (mkF m 83 #[.val (.int p0), .val (.int p1), .val (.int p2), .val (.int p3), .val (.ref ar), .val (.int of), .val (.int ln), .val (.int ct), .val (.ref b42), .val (.int bf), .unset] [(.int (ct - (1 : Int32))), (.ref b42)]))
        obtain ⟨cq52, kq52, q52a, q52b, q52c⟩ := isOf hZ rfl P1.1
        obtain ⟨_, _, ⟨T52, L52, k52, n52⟩, -, X52, ⟨Lc52, hQ52, l52, y52, z52⟩, st52⟩ := X51.virtualBack hx (y := (⟨"com/example/octetry/octetry/io/OctetReader", "skip", "(I)V"⟩ : MethodName)) (z := (⟨"com/example/octetry/octetry/io/OctetReader", "skip", "(I)V"⟩ : MethodName)) hown (mvT hZ (hw _ (List.mem_of_getElem? (i := 48) rfl))) (mvT hZ (hw _ (List.mem_of_getElem? (i := 49) rfl))) (notFace_of_selects (args := #[]) (mvT hZ (hw _ (List.mem_of_getElem? (i := 51) rfl)))) (mvT hZ (hw _ (List.mem_of_getElem? (i := 51) rfl))) (mvT hZ (hw _ (List.mem_of_getElem? (i := 50) rfl))) (by decide) (backOf (W := 0) (rm_skip l Z a0 hw [] b42 (ct - (1 : Int32)) ar (of + 1) (of + ln) _ T51.heap n0 Z51 P1 (by rw [Int32.lt_iff_toInt_lt]; omega) (by rw [Int32.lt_iff_toInt_lt, own_subI (by omega)]; omega)) hZ (hw _ (List.mem_of_getElem? (i := 52) rfl)) (hw _ (List.mem_of_getElem? (i := 4) rfl)) (by decide) (by decide)) q52a q52c (g := (mkF m 83 #[.val (.int p0), .val (.int p1), .val (.int p2), .val (.int p3), .val (.ref ar), .val (.int of), .val (.int ln), .val (.int ct), .val (.ref b42), .val (.int bf), .unset] [(.int (ct - (1 : Int32))), (.ref b42)])) rfl (by rw [hml]; rfl) (Steps.refl _) (argsL := [(.int (ct - (1 : Int32)))]) (rest := []) (lenOf pd__I_V rfl) rfl (by show 2 * 0 + _ ≤ _; exact Nat.le_of_eq rfl) (hb hby at_83) (fun _ _ => ⟨rfl, rfl, (Nat.le_of_ble_eq_true rfl), (Nat.le_of_ble_eq_true rfl)⟩)
        dsimp only [Pt.U, Pt.locs, Pt.cells, Pt.slots] at X52 l52 y52 z52 st52 hQ52
        subst l52 y52 z52
        obtain ⟨rfl, Nq52, Kq52, P2⟩ := hQ52
        have N52 := Fr.app N51 Nq52
        refine own_tr st52 ?_
        have Z52 : n0 ≤ T52.heap.size := Nat.le_trans Z51 Kq52.1
        rw [s5] at P2
        show own_G p.tables e below _ (T52.setTop (mkF m 86 #[.val (.int p0), .val (.int p1), .val (.int p2), .val (.int p3), .val (.ref ar), .val (.int of), .val (.int ln), .val (.int ct), .val (.ref b42), .val (.int bf), .unset] []))
        refine own_go (fun _ kt => XS.goto X52.here hx rfl (pc0 := 86) (pc' := 96) rfl (hb hby at_86) (by decide) (by decide) kt) ?_
        show own_G p.tables e below _ (T52.setTop (mkF m 96 #[.val (.int p0), .val (.int p1), .val (.int p2), .val (.int p3), .val (.ref ar), .val (.int of), .val (.int ln), .val (.int ct), .val (.ref b42), .val (.int bf), .unset] []))
        exact j96 _ _ _  X52 rfl N52 Z52 (Nat.le_trans Kq51.1 Kq52.1) P2
      · show own_G p.tables e below _ (T46.setTop (mkF m 68 #[.val (.int p0), .val (.int p1), .val (.int p2), .val (.int p3), .val (.ref ar), .val (.int of), .val (.int ln), .val (.int ct), .val (.ref b42), .val (.int bf), .unset] [(.int ct)]))
        refine own_go (fun _ kt => XS.ifYes X46.here hx rfl (pc0 := 68) (pc' := 89) rfl (hb hby at_68) rfl ((if0 _ _).trans (flt (hg : ¬ ((0 : Int32) < ct))).2.2.2) (by decide) (by decide) kt) ?_
        show own_G p.tables e below _ (T46.setTop (mkF m 89 #[.val (.int p0), .val (.int p1), .val (.int p2), .val (.int p3), .val (.ref ar), .val (.int of), .val (.int ln), .val (.int ct), .val (.ref b42), .val (.int bf), .unset] []))
        refine own_go (fun _ kt => XS.aload X46.here hx rfl (hb hby at_89) rfl rfl kt) ?_
        show own_G p.tables e below _ (T46.setTop (mkF m 91 #[.val (.int p0), .val (.int p1), .val (.int p2), .val (.int p3), .val (.ref ar), .val (.int of), .val (.int ln), .val (.int ct), .val (.ref b42), .val (.int bf), .unset] [(.ref b42)]))
        refine own_go (fun _ kt => XS.iload X46.here hx rfl (hb hby at_91) rfl kt) ?_
        show own_G p.tables e below _ (T46.setTop (mkF m 93 #[.val (.int p0), .val (.int p1), .val (.int p2), .val (.int p3), .val (.ref ar), .val (.int of), .val (.int ln), .val (.int ct), .val (.ref b42), .val (.int bf), .unset] [(.int ct), (.ref b42)]))
        obtain ⟨cq53, kq53, q53a, q53b, q53c⟩ := isOf hZ eq46 P0.1
        obtain ⟨_, _, ⟨T53, L53, k53, n53⟩, -, X53, ⟨Lc53, hQ53, l53, y53, z53⟩, st53⟩ := X46.virtualBack hx (y := (⟨"com/example/octetry/octetry/io/OctetReader", "skip", "(I)V"⟩ : MethodName)) (z := (⟨"com/example/octetry/octetry/io/OctetReader", "skip", "(I)V"⟩ : MethodName)) hown (mvT hZ (hw _ (List.mem_of_getElem? (i := 48) rfl))) (mvT hZ (hw _ (List.mem_of_getElem? (i := 49) rfl))) (notFace_of_selects (args := #[]) (mvT hZ (hw _ (List.mem_of_getElem? (i := 51) rfl)))) (mvT hZ (hw _ (List.mem_of_getElem? (i := 51) rfl))) (mvT hZ (hw _ (List.mem_of_getElem? (i := 50) rfl))) (by decide) (backOf (W := 0) (rm_skip l Z a0 hw [] b42 ct ar of (of + ln) _ T45.heap n0 Z45 P0 (by rw [Int32.lt_iff_toInt_lt]; omega) (by rw [Int32.lt_iff_toInt_lt, own_subI (by omega)]; omega)) hZ (hw _ (List.mem_of_getElem? (i := 52) rfl)) (hw _ (List.mem_of_getElem? (i := 4) rfl)) (by decide) (by decide)) q53a q53c (g := (mkF m 93 #[.val (.int p0), .val (.int p1), .val (.int p2), .val (.int p3), .val (.ref ar), .val (.int of), .val (.int ln), .val (.int ct), .val (.ref b42), .val (.int bf), .unset] [(.int ct), (.ref b42)])) rfl (by rw [hml]; rfl) (Steps.refl _) (argsL := [(.int ct)]) (rest := []) (lenOf pd__I_V rfl) rfl (by show 2 * 0 + _ ≤ _; exact Nat.le_of_eq rfl) (hb hby at_93) (fun _ _ => ⟨rfl, eq46, (Nat.le_of_ble_eq_true rfl), (Nat.le_of_ble_eq_true rfl)⟩)
        dsimp only [Pt.U, Pt.locs, Pt.cells, Pt.slots] at X53 l53 y53 z53 st53 hQ53
        subst l53 y53 z53
        obtain ⟨rfl, Nq53, Kq53, P2⟩ := hQ53
        have N53 := Fr.app N46 Nq53
        refine own_tr st53 ?_
        have Z53 : n0 ≤ T53.heap.size := Nat.le_trans Z45 Kq53.1
        show own_G p.tables e below _ (T53.setTop (mkF m 96 #[.val (.int p0), .val (.int p1), .val (.int p2), .val (.int p3), .val (.ref ar), .val (.int of), .val (.int ln), .val (.int ct), .val (.ref b42), .val (.int bf), .unset] []))
        exact j96 _ _ _  X53 rfl N53 Z53 Kq53.1 P2
  show own_G p.tables e below _ (s₁.setTop (mkF m 0 #[.val (.int p0), .val (.int p1), .val (.int p2), .val (.int p3), .unset, .unset, .unset, .unset, .unset, .unset, .unset] []))
  refine own_go (fun _ kt => XS.bipush X0.here hx rfl (hb hby at_0) kt) ?_
  show own_G p.tables e below _ (s₁.setTop (mkF m 2 #[.val (.int p0), .val (.int p1), .val (.int p2), .val (.int p3), .unset, .unset, .unset, .unset, .unset, .unset, .unset] [(.int (8 : Int32))]))
  obtain ⟨T54, h54, k54, X54, e54, E54, A54, C54, st54⟩ := newPE X0 hx hZ (hw _ (List.mem_of_getElem? (i := 0) rfl)) e0 (g := (mkF m 2 #[.val (.int p0), .val (.int p1), .val (.int p2), .val (.int p3), .unset, .unset, .unset, .unset, .unset, .unset, .unset] [(.int (8 : Int32))])) rfl (hb hby at_2) rfl (by decide) (cap := 8) (by decide) (by decide) (Nat.le_of_ble_eq_true rfl) (Nat.le_of_ble_eq_true rfl) (ad := "[B") rfl
  obtain ⟨b54, g54⟩ : ∃ z, z = h0.size := ⟨_, rfl⟩
  rw [← g54] at A54 C54 st54
  have g_b54 : n0 ≤ b54 := Nat.le_trans Z0 (Nat.le_of_eq g54.symm)
  refine own_go st54 ?_
  have Z54 : n0 ≤ h54.size := Nat.le_trans Z0 E54.1
  have V54 := own_A.new A54 (N := 8) (by decide)
  show own_G p.tables e below _ (T54.setTop (mkF m 4 #[.val (.int p0), .val (.int p1), .val (.int p2), .val (.int p3), .unset, .unset, .unset, .unset, .unset, .unset, .unset] [(.ref b54)]))
  refine own_go (fun _ kt => XS.astore X54.here hx rfl (hb hby at_4) rfl rfl (l' := #[.val (.int p0), .val (.int p1), .val (.int p2), .val (.int p3), .val (.ref b54), .unset, .unset, .unset, .unset, .unset, .unset]) rfl kt) ?_
  show own_G p.tables e below _ (T54.setTop (mkF m 6 #[.val (.int p0), .val (.int p1), .val (.int p2), .val (.int p3), .val (.ref b54), .unset, .unset, .unset, .unset, .unset, .unset] []))
  refine own_go (fun _ kt => XS.iloadN X54.here hx rfl (hb hby at_6) rfl kt) ?_
  show own_G p.tables e below _ (T54.setTop (mkF m 7 #[.val (.int p0), .val (.int p1), .val (.int p2), .val (.int p3), .val (.ref b54), .unset, .unset, .unset, .unset, .unset, .unset] [(.int p0)]))
  refine own_go (X54.ldcInt hx hown (mvT hZ (hw _ (List.mem_of_getElem? (i := 1) rfl))) (g := (mkF m 7 #[.val (.int p0), .val (.int p1), .val (.int p2), .val (.int p3), .val (.ref b54), .unset, .unset, .unset, .unset, .unset, .unset] [(.int p0)])) rfl (hb hby at_7)) ?_
  show own_G p.tables e below _ (T54.setTop (mkF m 9 #[.val (.int p0), .val (.int p1), .val (.int p2), .val (.int p3), .val (.ref b54), .unset, .unset, .unset, .unset, .unset, .unset] [(.int (2147483647 : Int32)), (.int p0)]))
  refine own_go (fun _ kt => XS.iand X54.here hx rfl (hb hby at_9) rfl kt) ?_
  show own_G p.tables e below _ (T54.setTop (mkF m 10 #[.val (.int p0), .val (.int p1), .val (.int p2), .val (.int p3), .val (.ref b54), .unset, .unset, .unset, .unset, .unset, .unset] [(.int (p0 &&& (2147483647 : Int32)))]))
  refine own_go (fun _ kt => XS.bipush X54.here hx rfl (hb hby at_10) kt) ?_
  show own_G p.tables e below _ (T54.setTop (mkF m 12 #[.val (.int p0), .val (.int p1), .val (.int p2), .val (.int p3), .val (.ref b54), .unset, .unset, .unset, .unset, .unset, .unset] [(.int (9 : Int32)), (.int (p0 &&& (2147483647 : Int32)))]))
  refine own_go (fun _ kt => XS.irem X54.here hx rfl (hb hby at_12) rfl (by decide) kt) ?_
  rw [own_irem]
  have z9 : (9 : Int32).toInt = 9 := rfl
  have z1 : (1 : Int32).toInt = 1 := rfl
  have h1 := own_rm (x := p0) (y := 9) (by decide)
  show own_G p.tables e below _ (T54.setTop (mkF m 13 #[.val (.int p0), .val (.int p1), .val (.int p2), .val (.int p3), .val (.ref b54), .unset, .unset, .unset, .unset, .unset, .unset] [(.int ((p0 &&& (2147483647 : Int32)) % (9 : Int32)))]))
  generalize ((p0 &&& (2147483647 : Int32)) % (9 : Int32)) = of at h1 ⊢
  show own_G p.tables e below _ (T54.setTop (mkF m 13 #[.val (.int p0), .val (.int p1), .val (.int p2), .val (.int p3), .val (.ref b54), .unset, .unset, .unset, .unset, .unset, .unset] [(.int of)]))
  refine own_go (fun _ kt => XS.istore X54.here hx rfl (hb hby at_13) rfl (l' := #[.val (.int p0), .val (.int p1), .val (.int p2), .val (.int p3), .val (.ref b54), .val (.int of), .unset, .unset, .unset, .unset, .unset]) rfl kt) ?_
  show own_G p.tables e below _ (T54.setTop (mkF m 15 #[.val (.int p0), .val (.int p1), .val (.int p2), .val (.int p3), .val (.ref b54), .val (.int of), .unset, .unset, .unset, .unset, .unset] []))
  refine own_go (fun _ kt => XS.iloadN X54.here hx rfl (hb hby at_15) rfl kt) ?_
  show own_G p.tables e below _ (T54.setTop (mkF m 16 #[.val (.int p0), .val (.int p1), .val (.int p2), .val (.int p3), .val (.ref b54), .val (.int of), .unset, .unset, .unset, .unset, .unset] [(.int p1)]))
  refine own_go (X54.ldcInt hx hown (mvT hZ (hw _ (List.mem_of_getElem? (i := 1) rfl))) (g := (mkF m 16 #[.val (.int p0), .val (.int p1), .val (.int p2), .val (.int p3), .val (.ref b54), .val (.int of), .unset, .unset, .unset, .unset, .unset] [(.int p1)])) rfl (hb hby at_16)) ?_
  show own_G p.tables e below _ (T54.setTop (mkF m 18 #[.val (.int p0), .val (.int p1), .val (.int p2), .val (.int p3), .val (.ref b54), .val (.int of), .unset, .unset, .unset, .unset, .unset] [(.int (2147483647 : Int32)), (.int p1)]))
  refine own_go (fun _ kt => XS.iand X54.here hx rfl (hb hby at_18) rfl kt) ?_
  show own_G p.tables e below _ (T54.setTop (mkF m 19 #[.val (.int p0), .val (.int p1), .val (.int p2), .val (.int p3), .val (.ref b54), .val (.int of), .unset, .unset, .unset, .unset, .unset] [(.int (p1 &&& (2147483647 : Int32)))]))
  refine own_go (fun _ kt => XS.bipush X54.here hx rfl (hb hby at_19) kt) ?_
  show own_G p.tables e below _ (T54.setTop (mkF m 21 #[.val (.int p0), .val (.int p1), .val (.int p2), .val (.int p3), .val (.ref b54), .val (.int of), .unset, .unset, .unset, .unset, .unset] [(.int (9 : Int32)), (.int (p1 &&& (2147483647 : Int32)))]))
  refine own_go (fun _ kt => XS.iload X54.here hx rfl (hb hby at_21) rfl kt) ?_
  show own_G p.tables e below _ (T54.setTop (mkF m 23 #[.val (.int p0), .val (.int p1), .val (.int p2), .val (.int p3), .val (.ref b54), .val (.int of), .unset, .unset, .unset, .unset, .unset] [(.int of), (.int (9 : Int32)), (.int (p1 &&& (2147483647 : Int32)))]))
  refine own_go (fun _ kt => XS.isub X54.here hx rfl (hb hby at_23) rfl kt) ?_
  have t1 : ((9 : Int32) - of).toInt = 9 - of.toInt := by rw [own_subI (by omega)]; rfl
  show own_G p.tables e below _ (T54.setTop (mkF m 24 #[.val (.int p0), .val (.int p1), .val (.int p2), .val (.int p3), .val (.ref b54), .val (.int of), .unset, .unset, .unset, .unset, .unset] [(.int ((9 : Int32) - of)), (.int (p1 &&& (2147483647 : Int32)))]))
  refine own_go (fun _ kt => XS.irem X54.here hx rfl (hb hby at_24) rfl (own_nz (by omega)) kt) ?_
  rw [own_irem]
  have h2 := own_rm (x := p1) (y := (9 : Int32) - of) (by omega)
  show own_G p.tables e below _ (T54.setTop (mkF m 25 #[.val (.int p0), .val (.int p1), .val (.int p2), .val (.int p3), .val (.ref b54), .val (.int of), .unset, .unset, .unset, .unset, .unset] [(.int ((p1 &&& (2147483647 : Int32)) % ((9 : Int32) - of)))]))
  generalize ((p1 &&& (2147483647 : Int32)) % ((9 : Int32) - of)) = ln at h2 ⊢
  show own_G p.tables e below _ (T54.setTop (mkF m 25 #[.val (.int p0), .val (.int p1), .val (.int p2), .val (.int p3), .val (.ref b54), .val (.int of), .unset, .unset, .unset, .unset, .unset] [(.int ln)]))
  refine own_go (fun _ kt => XS.istore X54.here hx rfl (hb hby at_25) rfl (l' := #[.val (.int p0), .val (.int p1), .val (.int p2), .val (.int p3), .val (.ref b54), .val (.int of), .val (.int ln), .unset, .unset, .unset, .unset]) rfl kt) ?_
  show own_G p.tables e below _ (T54.setTop (mkF m 27 #[.val (.int p0), .val (.int p1), .val (.int p2), .val (.int p3), .val (.ref b54), .val (.int of), .val (.int ln), .unset, .unset, .unset, .unset] []))
  refine own_go (fun _ kt => XS.iloadN X54.here hx rfl (hb hby at_27) rfl kt) ?_
  show own_G p.tables e below _ (T54.setTop (mkF m 28 #[.val (.int p0), .val (.int p1), .val (.int p2), .val (.int p3), .val (.ref b54), .val (.int of), .val (.int ln), .unset, .unset, .unset, .unset] [(.int p2)]))
  refine own_go (X54.ldcInt hx hown (mvT hZ (hw _ (List.mem_of_getElem? (i := 1) rfl))) (g := (mkF m 28 #[.val (.int p0), .val (.int p1), .val (.int p2), .val (.int p3), .val (.ref b54), .val (.int of), .val (.int ln), .unset, .unset, .unset, .unset] [(.int p2)])) rfl (hb hby at_28)) ?_
  show own_G p.tables e below _ (T54.setTop (mkF m 30 #[.val (.int p0), .val (.int p1), .val (.int p2), .val (.int p3), .val (.ref b54), .val (.int of), .val (.int ln), .unset, .unset, .unset, .unset] [(.int (2147483647 : Int32)), (.int p2)]))
  refine own_go (fun _ kt => XS.iand X54.here hx rfl (hb hby at_30) rfl kt) ?_
  show own_G p.tables e below _ (T54.setTop (mkF m 31 #[.val (.int p0), .val (.int p1), .val (.int p2), .val (.int p3), .val (.ref b54), .val (.int of), .val (.int ln), .unset, .unset, .unset, .unset] [(.int (p2 &&& (2147483647 : Int32)))]))
  refine own_go (fun _ kt => XS.iload X54.here hx rfl (hb hby at_31) rfl kt) ?_
  show own_G p.tables e below _ (T54.setTop (mkF m 33 #[.val (.int p0), .val (.int p1), .val (.int p2), .val (.int p3), .val (.ref b54), .val (.int of), .val (.int ln), .unset, .unset, .unset, .unset] [(.int ln), (.int (p2 &&& (2147483647 : Int32)))]))
  refine own_go (fun _ kt => XS.iconst X54.here hx rfl (hb hby at_33) kt) ?_
  show own_G p.tables e below _ (T54.setTop (mkF m 34 #[.val (.int p0), .val (.int p1), .val (.int p2), .val (.int p3), .val (.ref b54), .val (.int of), .val (.int ln), .unset, .unset, .unset, .unset] [(.int (1 : Int32)), (.int ln), (.int (p2 &&& (2147483647 : Int32)))]))
  refine own_go (fun _ kt => XS.iadd X54.here hx rfl (hb hby at_34) rfl kt) ?_
  have t2 : (ln + (1 : Int32)).toInt = ln.toInt + 1 := by rw [own_addI (by omega)]; rfl
  show own_G p.tables e below _ (T54.setTop (mkF m 35 #[.val (.int p0), .val (.int p1), .val (.int p2), .val (.int p3), .val (.ref b54), .val (.int of), .val (.int ln), .unset, .unset, .unset, .unset] [(.int (ln + (1 : Int32))), (.int (p2 &&& (2147483647 : Int32)))]))
  refine own_go (fun _ kt => XS.irem X54.here hx rfl (hb hby at_35) rfl (own_nz (by omega)) kt) ?_
  rw [own_irem]
  have h3 := own_rm (x := p2) (y := ln + (1 : Int32)) (by omega)
  show own_G p.tables e below _ (T54.setTop (mkF m 36 #[.val (.int p0), .val (.int p1), .val (.int p2), .val (.int p3), .val (.ref b54), .val (.int of), .val (.int ln), .unset, .unset, .unset, .unset] [(.int ((p2 &&& (2147483647 : Int32)) % (ln + (1 : Int32))))]))
  generalize ((p2 &&& (2147483647 : Int32)) % (ln + (1 : Int32))) = ct at h3 ⊢
  show own_G p.tables e below _ (T54.setTop (mkF m 36 #[.val (.int p0), .val (.int p1), .val (.int p2), .val (.int p3), .val (.ref b54), .val (.int of), .val (.int ln), .unset, .unset, .unset, .unset] [(.int ct)]))
  refine own_go (fun _ kt => XS.istore X54.here hx rfl (hb hby at_36) rfl (l' := #[.val (.int p0), .val (.int p1), .val (.int p2), .val (.int p3), .val (.ref b54), .val (.int of), .val (.int ln), .val (.int ct), .unset, .unset, .unset]) rfl kt) ?_
  show own_G p.tables e below _ (T54.setTop (mkF m 38 #[.val (.int p0), .val (.int p1), .val (.int p2), .val (.int p3), .val (.ref b54), .val (.int of), .val (.int ln), .val (.int ct), .unset, .unset, .unset] []))
  exact j38 _ _ _ b54 of ln ct X54 e54 N0 Z54 C54 V54 ⟨h1.1, by omega⟩ ⟨h2.1, by omega⟩ ⟨h3.1, by omega⟩
set_option maxRecDepth 65536 in
set_option maxHeartbeats 40000000 in
theorem comes_1 {Post : Tables → Env → Array Value → State → Outcome → State → Prop} (hpost : ∀ tb e args s v u, (limb_1_1.after args s (.returned v) u = true ∧ limb_1_2.after args s (.returned v) u = true ∧ True) → ReturnedEndW s (.returned v) u (Jvm.fieldLocs frame_1_writes args s ++ Jvm.arrayLocs frame_1_arrays args s ++ Jvm.staticLocs frame_1_statics s) 16 1152 → Post tb e args s (.returned v) u) :
    ArmFor flags0 classFile x code maxLocals ret World_1 tables_1 room_1 Calls_1 rest_1 Pre_1 Post := by
  intro l hfl _ _ p e ha hc hk s m args below hf hA hF happ hP
  obtain ⟨hcalls, hrest, hpre⟩ := hP
  obtain ⟨-, -, -, hnamed, -, -, -, hat⟩ := (Spec.applies_iff hf).mp happ
  obtain ⟨hg, hn⟩ := and_e (Cond.before_iff.mp (show (Jvm.Cond.and given_1 narrow_1).before args s = true from hpre))
  obtain ⟨a0, b0⟩ := and_e hg
  obtain ⟨a1, b1⟩ := and_e b0
  obtain ⟨a2, b2⟩ := and_e b1
  obtain ⟨a3, b3⟩ := and_e b2
  obtain ⟨w0, w1, w2, w3, rfl⟩ : ∃ w0 w1 w2 w3 : Value, args = #[w0, w1, w2, w3] := by
    have hs : args.size = 4 := by simpa [Cond.value, given_1] using a0
    obtain ⟨L⟩ := args
    match L, hs with
    | [w0, w1, w2, w3], _ => exact ⟨w0, w1, w2, w3, rfl⟩
  have hw := fun d (hd : d ∈ tables_1) => atoms_spec (ws := Jvm.Cond.code x code maxLocals ret :: tables_1) hat d (List.mem_cons_of_mem _ hd)
  obtain ⟨i0, ei0⟩ := is_v a1
  obtain rfl : w0 = (.int i0) := Option.some.inj ei0
  obtain ⟨i1, ei1⟩ := is_v a2
  obtain rfl : w1 = (.int i1) := Option.some.inj ei1
  obtain ⟨i2, ei2⟩ := is_v a3
  obtain rfl : w2 = (.int i2) := Option.some.inj ei2
  obtain ⟨i3, ei3⟩ := is_v b3
  obtain rfl : w3 = (.int i3) := Option.some.inj ei3
  obtain ⟨n, o, h1, h2, h3, _, L, rfl, ⟨rfl, N⟩, hq⟩ := rm_law l s _ hw tables_1 i0 i1 i2 i3 s.heap s.heap.size (Nat.le_refl _) p e ha hc hk s m _ below hf ((Spec.applies_iff_loose hf).mp happ).1 ⟨rfl, State.Warmed39.refl s, rfl⟩ trivial
  refine ⟨n, _, h1, h2, h3, hpost _ _ _ _ _ _ ⟨Cond.after_iff.mpr rfl, Cond.after_iff.mpr (eq_i res_at (Term.int_eval (1)) rfl), trivial⟩ ⟨hq.1, hq.2.1, hq.2.2.1, (hq.2.2.2.sift fun y hy => Or.inr (N y hy)).mono (by decide) (by decide)⟩⟩
theorem main_1_1 : Claimed_1_1 := comes_1 fun _ _ _ _ _ _ h hF => ⟨h.1, hF⟩
theorem main_1_2 : Claimed_1_2 := comes_1 fun _ _ _ _ _ _ h hF => ⟨h.2.1, hF⟩
end Jvm.Pilot.@@N@@
namespace Jvm.Pilot.@@N@@
open Jvm Jvm.ClassFile Sem Op Lib Jvm.Free Jvm.Stand Jvm.Pilot.@@N@@.Jvm.D
/-! MADE BY PROGRAM (witnessworld.py) out of the Statement's table words and the real class files: 16 classes; the members and pool entries that the words name. The judged class is class 1, her method 1. -/
namespace start1
open Jvm.ClassFile
def u (s : String) : CpInfo := .utf8 (stringToUtf16 s)
/-- a pool by its gaps: so many unusable entries, then the entry; so many at the end -/
def gap : Nat → List CpInfo → List CpInfo
  | 0, r => r
  | n + 1, r => .unusable :: gap n r
def poolList (es : List (Nat × CpInfo)) (last : Nat) : List CpInfo := es.foldr (fun e r => gap e.1 (e.2 :: r)) (gap last [])
def pool (es : List (Nat × CpInfo)) (last : Nat) : Array CpInfo := ⟨poolList es last⟩
def fileOf (pool : Array CpInfo) (this : Nat) (attrs : Array Attribute := #[]) (ms : Array MethodInfo := #[]) (fl : Nat := 33) (sup : Nat := 0) (ifs : Array Nat := #[]) (fds : Array FieldInfo := #[]) : ClassFile where
  minorVersion := 0
  majorVersion := 65
  constantPool := pool
  accessFlags := fl
  thisClass := this
  superClass := sup
  interfaces := ifs
  fields := fds
  methods := ms
  attributes := attrs
def plain (name : String) (sup : Option ClassId) : Class where
  name := name
  kind := .ordinary
  loader := none
  accessFlags := 33
  super := sup
  interfaces := #[]
  cf := none
  fields := #[]
  methods := #[]
  instanceTypes := #[]
  staticTypes := #[]
  resolved := #[]
  callSites := []
  init := .initialized
  statics := none
  mirror := none

def pool0 : Array CpInfo := pool [(5, u "<init>"), (0, u "()V"), (1, .class_ 10), (1, u "java/lang/Object")] 113

def k0c0 : Code := { maxStack := 0, maxLocals := 1, code := object_method_1_code, exceptionTable := #[], attributes := #[] }
def k0m0 : Method := { name := "<init>", desc := "()V", sig := { parameters := [], returnType := none }, accessFlags := 1, code := some k0c0 }
/-- java/lang/Object -/
def k0 : Class := { plain "java/lang/Object" none with
  accessFlags := 33
  interfaces := #[]
  cf := some (fileOf pool0 8 #[] #[{ accessFlags := 1, nameIndex := 5, descriptorIndex := 6, attributes := #[] }] 33 0 #[] #[])
  fields := #[]
  methods := #[k0m0]
  instanceTypes := #[]
  staticTypes := #[]
  resolved := Array.replicate 124 none
  statics := none }

def pool1 : Array CpInfo := pool [(2, .class_ 4), (1, u "java/lang/Object"), (0, u "<init>"), (0, u "()V"), (0, .integer 2147483647), (0, .class_ 9), (0, u "com/example/octetry/octetry/io/OctetReader"), (0, .methodref 8 11), (0, .nameAndType 5 12), (0, u "([BII)V"), (0, .methodref 8 14), (0, .nameAndType 15 16), (0, u "hasRemaining"), (0, u "()Z"), (0, .methodref 8 18), (0, .nameAndType 19 20), (0, u "read"), (0, u "()I"), (0, .methodref 8 22), (0, .nameAndType 23 24), (0, u "skip"), (0, u "(I)V"), (0, .class_ 26), (0, u "com/example/octetry/octetry/io/OctetReaderHasRemainingPinLaw"), (2, u "law"), (0, u "(IIII)Z")] 8

def k1m0 : Method := { name := "<init>", desc := "()V", sig := { parameters := [], returnType := none }, accessFlags := 1, code := none }
def k1c1 : Code := { maxStack := 5, maxLocals := 11, code := code, exceptionTable := #[], attributes := #[] }
def k1m1 : Method := { name := "law", desc := "(IIII)Z", sig := { parameters := [.int, .int, .int, .int], returnType := some .boolean }, accessFlags := 9, code := some k1c1 }
/-- com/example/octetry/octetry/io/OctetReaderHasRemainingPinLaw -/
def k1 : Class := { plain "com/example/octetry/octetry/io/OctetReaderHasRemainingPinLaw" (some 0) with
  accessFlags := 49
  interfaces := #[]
  cf := some (fileOf pool1 25 #[] #[{ accessFlags := 1, nameIndex := 5, descriptorIndex := 6, attributes := #[] }, { accessFlags := 9, nameIndex := 29, descriptorIndex := 30, attributes := #[] }] 49 2 #[] #[])
  fields := #[]
  methods := #[k1m0, k1m1]
  instanceTypes := #[]
  staticTypes := #[]
  resolved := Array.replicate 39 none
  statics := none }

def pool2 : Array CpInfo := pool [(1, .string 2), (0, u "octets"), (0, .methodref 4 5), (0, .class_ 6), (0, .nameAndType 7 8), (0, u "java/util/Objects"), (0, u "requireNonNull"), (0, u "(Ljava/lang/Object;Ljava/lang/String;)Ljava/lang/Object;"), (0, .class_ 10), (0, u "[B"), (1, .class_ 14), (1, u "com/example/octetry/octetry/io/OctetReader"), (0, u "<init>"), (0, u "([BII)V"), (0, .methodref 18 19), (0, .class_ 20), (0, .nameAndType 15 21), (0, u "java/lang/Object"), (0, u "()V"), (0, .fieldref 12 23), (0, .nameAndType 2 10), (0, .methodref 4 25), (0, .nameAndType 26 27), (0, u "checkFromIndexSize"), (0, u "(III)I"), (0, .fieldref 12 29), (0, .nameAndType 30 31), (0, u "position"), (0, u "I"), (0, .fieldref 12 33), (0, .nameAndType 34 31), (0, u "end"), (0, .methodref 12 36), (0, .nameAndType 37 38), (0, u "hasRemaining"), (0, u "()Z"), (7, .methodref 12 47), (0, .nameAndType 48 49), (0, u "remaining"), (0, u "()I"), (4, u "LITTLE_ENDIAN_LONG"), (0, u "Ljava/lang/invoke/VarHandle;"), (29, u "CUT_SHORT"), (0, u "Ljava/lang/String;"), (5, u "read"), (3, u "skip"), (0, u "(I)V")] 16

def k2c0 : Code := { maxStack := 3, maxLocals := 4, code := prog_54_method_2_code, exceptionTable := #[], attributes := #[] }
def k2m0 : Method := { name := "<init>", desc := "([BII)V", sig := { parameters := [(.array .byte), .int, .int], returnType := none }, accessFlags := 1, code := some k2c0 }
def k2c1 : Code := { maxStack := 2, maxLocals := 1, code := prog_54_method_4_code, exceptionTable := #[], attributes := #[] }
def k2m1 : Method := { name := "hasRemaining", desc := "()Z", sig := { parameters := [], returnType := some .boolean }, accessFlags := 1, code := some k2c1 }
def k2c2 : Code := { maxStack := 2, maxLocals := 1, code := prog_54_method_5_code, exceptionTable := #[], attributes := #[] }
def k2m2 : Method := { name := "remaining", desc := "()I", sig := { parameters := [], returnType := some .int }, accessFlags := 1, code := some k2c2 }
def k2c3 : Code := { maxStack := 5, maxLocals := 1, code := prog_54_method_6_code, exceptionTable := #[], attributes := #[] }
def k2m3 : Method := { name := "read", desc := "()I", sig := { parameters := [], returnType := some .int }, accessFlags := 1, code := some k2c3 }
def k2c4 : Code := { maxStack := 4, maxLocals := 2, code := prog_54_method_8_code, exceptionTable := #[], attributes := #[] }
def k2m4 : Method := { name := "skip", desc := "(I)V", sig := { parameters := [.int], returnType := none }, accessFlags := 1, code := some k2c4 }
/-- com/example/octetry/octetry/io/OctetReader -/
def k2 : Class := { plain "com/example/octetry/octetry/io/OctetReader" (some 0) with
  accessFlags := 49
  interfaces := #[]
  cf := some (fileOf pool2 12 #[] #[{ accessFlags := 1, nameIndex := 15, descriptorIndex := 16, attributes := #[] }, { accessFlags := 1, nameIndex := 37, descriptorIndex := 38, attributes := #[] }, { accessFlags := 1, nameIndex := 48, descriptorIndex := 49, attributes := #[] }, { accessFlags := 1, nameIndex := 92, descriptorIndex := 49, attributes := #[] }, { accessFlags := 1, nameIndex := 96, descriptorIndex := 97, attributes := #[] }] 49 18 #[] #[{ accessFlags := 26, nameIndex := 85, descriptorIndex := 86, attributes := #[] }, { accessFlags := 26, nameIndex := 54, descriptorIndex := 55, attributes := #[] }, { accessFlags := 18, nameIndex := 2, descriptorIndex := 10, attributes := #[] }, { accessFlags := 18, nameIndex := 34, descriptorIndex := 31, attributes := #[] }, { accessFlags := 2, nameIndex := 30, descriptorIndex := 31, attributes := #[] }])
  fields := #[{ name := "CUT_SHORT", type := (.object "java/lang/String"), accessFlags := 26, slot := 0, constantValue := 0 }, { name := "LITTLE_ENDIAN_LONG", type := (.object "java/lang/invoke/VarHandle"), accessFlags := 26, slot := 1, constantValue := 0 }, { name := "octets", type := (.array .byte), accessFlags := 18, slot := 0, constantValue := 0 }, { name := "end", type := .int, accessFlags := 18, slot := 1, constantValue := 0 }, { name := "position", type := .int, accessFlags := 2, slot := 2, constantValue := 0 }]
  methods := #[k2m0, k2m1, k2m2, k2m3, k2m4]
  instanceTypes := #[(.array .byte), .int, .int]
  staticTypes := #[(.object "java/lang/String"), (.object "java/lang/invoke/VarHandle")]
  resolved := Array.replicate 114 none
  statics := none }

def pool3 : Array CpInfo := pool [(1, .class_ 2), (0, u "java/io/Serializable"), (0, .class_ 4), (0, u "java/lang/Object")] 2

/-- java/io/Serializable -/
def k3 : Class := { plain "java/io/Serializable" (some 0) with
  accessFlags := 1537
  interfaces := #[]
  cf := some (fileOf pool3 1 #[] #[] 1537 3 #[] #[])
  fields := #[]
  methods := #[]
  instanceTypes := #[]
  staticTypes := #[]
  resolved := Array.replicate 7 none
  statics := none }

def pool4 : Array CpInfo := pool [(1, .class_ 2), (0, u "java/lang/Comparable"), (0, .class_ 4), (0, u "java/lang/Object")] 7

/-- java/lang/Comparable -/
def k4 : Class := { plain "java/lang/Comparable" (some 0) with
  accessFlags := 1537
  interfaces := #[]
  cf := some (fileOf pool4 1 #[] #[] 1537 3 #[] #[])
  fields := #[]
  methods := #[]
  instanceTypes := #[]
  staticTypes := #[]
  resolved := Array.replicate 12 none
  statics := none }

def pool5 : Array CpInfo := pool [(2, .class_ 4), (1, u "java/lang/CharSequence"), (42, .class_ 48), (0, u "java/lang/CharSequence$1CodePointIterator"), (10, .class_ 60), (0, u "java/lang/CharSequence$1CharIterator"), (5, .class_ 67), (0, u "java/lang/Object")] 63

/-- java/lang/CharSequence -/
def k5 : Class := { plain "java/lang/CharSequence" (some 0) with
  accessFlags := 1537
  interfaces := #[]
  cf := some (fileOf pool5 2 #[.nestMembers #[47, 59]] #[] 1537 66 #[] #[])
  fields := #[]
  methods := #[]
  instanceTypes := #[]
  staticTypes := #[]
  resolved := Array.replicate 131 none
  statics := none }

def pool6 : Array CpInfo := pool [(1, .class_ 2), (0, u "java/lang/constant/Constable"), (0, .class_ 4), (0, u "java/lang/Object")] 6

/-- java/lang/constant/Constable -/
def k6 : Class := { plain "java/lang/constant/Constable" (some 0) with
  accessFlags := 1537
  interfaces := #[]
  cf := some (fileOf pool6 1 #[] #[] 1537 3 #[] #[])
  fields := #[]
  methods := #[]
  instanceTypes := #[]
  staticTypes := #[]
  resolved := Array.replicate 11 none
  statics := none }

def pool7 : Array CpInfo := pool [(1, .class_ 2), (0, u "java/lang/constant/ConstantDesc"), (0, .class_ 4), (0, u "java/lang/Object")] 32

/-- java/lang/constant/ConstantDesc -/
def k7 : Class := { plain "java/lang/constant/ConstantDesc" (some 0) with
  accessFlags := 1537
  interfaces := #[]
  cf := some (fileOf pool7 1 #[] #[] 1537 3 #[] #[])
  fields := #[]
  methods := #[]
  instanceTypes := #[]
  staticTypes := #[]
  resolved := Array.replicate 37 none
  statics := none }

def pool8 : Array CpInfo := pool [(2, .class_ 4), (1, u "java/lang/Object"), (0, u "<init>"), (0, u "()V"), (3, .class_ 12), (1, u "java/lang/String"), (0, u "value"), (0, u "[B"), (2, u "coder"), (0, u "B"), (2, u "hash"), (0, u "I"), (2, u "hashIsZero"), (0, u "Z"), (13, u "COMPACT_STRINGS"), (534, .class_ 576), (0, u "java/lang/CharSequence"), (22, u "CASE_INSENSITIVE_ORDER"), (0, u "Ljava/util/Comparator;"), (500, u "serialPersistentFields"), (0, u "[Ljava/io/ObjectStreamField;"), (0, .class_ 1104), (0, u "java/lang/String$CaseInsensitiveComparator"), (1, .class_ 1107), (0, u "java/io/Serializable"), (0, .class_ 1109), (0, u "java/lang/Comparable"), (0, .class_ 1111), (0, u "java/lang/constant/Constable"), (0, .class_ 1113), (0, u "java/lang/constant/ConstantDesc"), (2, u "serialVersionUID"), (0, u "J"), (3, u "REPL"), (0, u "C"), (2, u "LATIN1"), (1, u "UTF16")] 323

def k8m0 : Method := { name := "<init>", desc := "()V", sig := { parameters := [], returnType := none }, accessFlags := 1, code := none }
/-- java/lang/String -/
def k8 : Class := { plain "java/lang/String" (some 0) with
  accessFlags := 49
  interfaces := #[3, 4, 5, 6, 7]
  cf := some (fileOf pool8 10 #[.nestMembers #[1103]] #[{ accessFlags := 1, nameIndex := 5, descriptorIndex := 6, attributes := #[] }] 49 2 #[1106, 1108, 575, 1110, 1112] #[{ accessFlags := 18, nameIndex := 13, descriptorIndex := 14, attributes := #[] }, { accessFlags := 18, nameIndex := 17, descriptorIndex := 18, attributes := #[] }, { accessFlags := 2, nameIndex := 21, descriptorIndex := 22, attributes := #[] }, { accessFlags := 2, nameIndex := 25, descriptorIndex := 26, attributes := #[] }, { accessFlags := 26, nameIndex := 1116, descriptorIndex := 1117, attributes := #[] }, { accessFlags := 24, nameIndex := 40, descriptorIndex := 26, attributes := #[] }, { accessFlags := 26, nameIndex := 1101, descriptorIndex := 1102, attributes := #[] }, { accessFlags := 26, nameIndex := 1121, descriptorIndex := 1122, attributes := #[] }, { accessFlags := 25, nameIndex := 599, descriptorIndex := 600, attributes := #[] }, { accessFlags := 24, nameIndex := 1125, descriptorIndex := 18, attributes := #[] }, { accessFlags := 24, nameIndex := 1127, descriptorIndex := 18, attributes := #[] }])
  fields := #[{ name := "value", type := (.array .byte), accessFlags := 18, slot := 0, constantValue := 0 }, { name := "coder", type := .byte, accessFlags := 18, slot := 1, constantValue := 0 }, { name := "hash", type := .int, accessFlags := 2, slot := 2, constantValue := 0 }, { name := "hashIsZero", type := .boolean, accessFlags := 2, slot := 3, constantValue := 0 }, { name := "serialVersionUID", type := .long, accessFlags := 26, slot := 0, constantValue := 0 }, { name := "COMPACT_STRINGS", type := .boolean, accessFlags := 24, slot := 1, constantValue := 0 }, { name := "serialPersistentFields", type := (.array (.object "java/io/ObjectStreamField")), accessFlags := 26, slot := 2, constantValue := 0 }, { name := "REPL", type := .char, accessFlags := 26, slot := 3, constantValue := 0 }, { name := "CASE_INSENSITIVE_ORDER", type := (.object "java/util/Comparator"), accessFlags := 25, slot := 4, constantValue := 0 }, { name := "LATIN1", type := .byte, accessFlags := 24, slot := 5, constantValue := 0 }, { name := "UTF16", type := .byte, accessFlags := 24, slot := 6, constantValue := 0 }]
  methods := #[k8m0]
  instanceTypes := #[(.array .byte), .byte, .int, .boolean]
  staticTypes := #[.long, .boolean, (.array (.object "java/io/ObjectStreamField")), .char, (.object "java/util/Comparator"), .byte, .byte]
  resolved := Array.replicate 1451 none
  statics := none }

def pool9 : Array CpInfo := pool [(2, .class_ 4), (1, u "java/lang/Object"), (0, u "<init>"), (0, u "()V"), (35, .class_ 44), (1, u "java/util/Objects"), (0, u "requireNonNull"), (48, u "(Ljava/lang/Object;Ljava/lang/String;)Ljava/lang/Object;"), (11, .class_ 108), (1, u "jdk/internal/util/Preconditions"), (5, u "(IIILjava/util/function/BiFunction;)I"), (0, .methodref 106 116), (0, .nameAndType 117 114), (0, u "checkFromIndexSize"), (57, u "(III)I")] 8

def k9m0 : Method := { name := "<init>", desc := "()V", sig := { parameters := [], returnType := none }, accessFlags := 2, code := none }
def k9c1 : Code := { maxStack := 3, maxLocals := 2, code := jdk_31_method_11_code, exceptionTable := #[], attributes := #[] }
def k9m1 : Method := { name := "requireNonNull", desc := "(Ljava/lang/Object;Ljava/lang/String;)Ljava/lang/Object;", sig := { parameters := [(.object "java/lang/Object"), (.object "java/lang/String")], returnType := some (.object "java/lang/Object") }, accessFlags := 9, code := some k9c1 }
def k9c2 : Code := { maxStack := 4, maxLocals := 3, code := jdk_31_method_19_code, exceptionTable := #[], attributes := #[] }
def k9m2 : Method := { name := "checkFromIndexSize", desc := "(III)I", sig := { parameters := [.int, .int, .int], returnType := some .int }, accessFlags := 9, code := some k9c2 }
/-- java/util/Objects -/
def k9 : Class := { plain "java/util/Objects" (some 0) with
  accessFlags := 49
  interfaces := #[]
  cf := some (fileOf pool9 42 #[] #[{ accessFlags := 2, nameIndex := 5, descriptorIndex := 6, attributes := #[] }, { accessFlags := 9, nameIndex := 45, descriptorIndex := 94, attributes := #[] }, { accessFlags := 9, nameIndex := 117, descriptorIndex := 175, attributes := #[] }] 49 2 #[] #[])
  fields := #[]
  methods := #[k9m0, k9m1, k9m2]
  instanceTypes := #[]
  staticTypes := #[]
  resolved := Array.replicate 184 none
  statics := none }

def pool10 : Array CpInfo := pool [(2, .class_ 4), (1, u "java/lang/Object"), (0, u "<init>"), (0, u "()V"), (17, .class_ 26), (1, u "jdk/internal/util/Preconditions"), (22, u "checkFromIndexSize"), (5, .class_ 56), (0, u "jdk/internal/util/Preconditions$4"), (57, .class_ 115), (0, u "jdk/internal/util/Preconditions$1"), (7, u "SIOOBE_FORMATTER"), (0, u "Ljava/util/function/BiFunction;"), (0, .class_ 126), (0, u "jdk/internal/util/Preconditions$2"), (3, u "AIOOBE_FORMATTER"), (0, .class_ 132), (0, u "jdk/internal/util/Preconditions$3"), (3, u "IOOBE_FORMATTER"), (46, u "(IIILjava/util/function/BiFunction;)I")] 10

def k10m0 : Method := { name := "<init>", desc := "()V", sig := { parameters := [], returnType := none }, accessFlags := 1, code := none }
def k10c1 : Code := { maxStack := 4, maxLocals := 4, code := jdk_41_method_13_code, exceptionTable := #[], attributes := #[] }
def k10m1 : Method := { name := "checkFromIndexSize", desc := "(IIILjava/util/function/BiFunction;)I", sig := { parameters := [.int, .int, .int, (.object "java/util/function/BiFunction")], returnType := some .int }, accessFlags := 9, code := some k10c1 }
/-- jdk/internal/util/Preconditions -/
def k10 : Class := { plain "jdk/internal/util/Preconditions" (some 0) with
  accessFlags := 33
  interfaces := #[]
  cf := some (fileOf pool10 24 #[.nestMembers #[55, 131, 125, 114]] #[{ accessFlags := 1, nameIndex := 5, descriptorIndex := 6, attributes := #[] }, { accessFlags := 9, nameIndex := 49, descriptorIndex := 183, attributes := #[] }] 33 2 #[] #[{ accessFlags := 25, nameIndex := 123, descriptorIndex := 124, attributes := #[] }, { accessFlags := 25, nameIndex := 130, descriptorIndex := 124, attributes := #[] }, { accessFlags := 25, nameIndex := 136, descriptorIndex := 124, attributes := #[] }])
  fields := #[{ name := "SIOOBE_FORMATTER", type := (.object "java/util/function/BiFunction"), accessFlags := 25, slot := 0, constantValue := 0 }, { name := "AIOOBE_FORMATTER", type := (.object "java/util/function/BiFunction"), accessFlags := 25, slot := 1, constantValue := 0 }, { name := "IOOBE_FORMATTER", type := (.object "java/util/function/BiFunction"), accessFlags := 25, slot := 2, constantValue := 0 }]
  methods := #[k10m0, k10m1]
  instanceTypes := #[]
  staticTypes := #[(.object "java/util/function/BiFunction"), (.object "java/util/function/BiFunction"), (.object "java/util/function/BiFunction")]
  resolved := Array.replicate 194 none
  statics := none }

def pool11 : Array CpInfo := pool [(1, u "java/lang/Cloneable"), (0, .class_ 1), (0, u "java/lang/Object"), (0, .class_ 3)] 3

/-- java/lang/Cloneable -/
def k11 : Class := { plain "java/lang/Cloneable" (some 0) with
  accessFlags := 1537
  interfaces := #[]
  cf := some (fileOf pool11 2 #[] #[] 1537 4 #[] #[])
  fields := #[]
  methods := #[]
  instanceTypes := #[]
  staticTypes := #[]
  resolved := Array.replicate 8 none
  statics := none }

/-- the primitive byte -/
def k12 : Class := { plain "byte" none with kind := .primitive 'B', accessFlags := 0x411 }
/-- [B -/
def k13 : Class := { plain "[B" (some 0) with kind := .array 12 .byte, interfaces := #[11, 3], accessFlags := 1041 }

/-- the primitive int -/
def k14 : Class := { plain "int" none with kind := .primitive 'I', accessFlags := 0x411 }
/-- [I -/
def k15 : Class := { plain "[I" (some 0) with kind := .array 14 .int, interfaces := #[11, 3], accessFlags := 1041 }

def heap : Heap := #[]
def classes : Array Class := #[k0, k1, k2, k3, k4, k5, k6, k7, k8, k9, k10, k11, k12, k13, k14, k15]
def interned : List (Array UInt16 × Addr) := []
def slotsUsed : Nat := 0
def theMethod : MethodId := ⟨1, 1⟩
def args0 : Array Value := #[.int 5, .int 6, .int 7, .int 1]
def aboutOver (below : List Frame) : State where
  vm := { classes := classes, interned := interned.toArray }
  heap := heap
  slotsUsed := slotsUsed
  threads := #[{ frames := .invoking theMethod args0 :: below }]
def below0 : List Frame := [.native { method := ⟨0, 0⟩, args := #[] }]
def about1 : State := aboutOver below0
def p0 : Program := .bare "" "" ""
def e0 : Env := launch0.env 0 0 0
theorem w_frames : about1.frames = Frame.invoking theMethod args0 :: below0 := rfl
set_option maxRecDepth 65536 in
theorem w_args : argsFit about1.vm theMethod args0 = true := by decide +kernel
set_option maxRecDepth 65536 in
theorem w_heap : heapFits about1 = true := by decide +kernel
set_option maxRecDepth 65536 in
theorem w_runnable : about1.curStatus? = some .runnable := by decide +kernel
set_option maxRecDepth 65536 in
theorem w_alone : about1.alone = true := by decide +kernel
set_option maxRecDepth 65536 in
theorem w_named : about1.methodNamed? x = some theMethod := by decide +kernel
set_option maxRecDepth 65536 in
theorem w_hears : about1.hears theMethod below0 = true := by decide +kernel
set_option maxRecDepth 65536 in
theorem w_ripe : about1.ripe theMethod args0 below0 = true := by decide +kernel
theorem w_running : about1.status = .running := rfl
set_option maxRecDepth 65536 in
theorem w_room : about1.hasRoom e0.platform room_1 = true :=
  launch0.hasRoom_least _ room_1 (by decide +kernel) (by decide +kernel) (by decide +kernel) (by decide +kernel) (by decide +kernel) (by decide +kernel)
theorem allAtoms_all (ts : List Jvm.Cond) (a : Array Jvm.Value) (st : Jvm.State) : (allAtoms ts).before a st = ts.all (fun c => c.before a st) := by
  induction ts with
  | nil => rfl
  | cons c t ih =>
    show (Jvm.Cond.and c (allAtoms t)).before a st = _
    rw [Jvm.Cond.before_and, ih, List.all_cons]
def words1 : List Jvm.Cond := Jvm.Cond.code x code maxLocals ret :: tables_1
/-- a 'code' word, met by the world's own term for the bytes: nothing is compared byte by byte -/
theorem code_word {y : MethodName} {bytes : ByteArray} {mx : Nat} {rt : Option FieldType} {a : Array Value} {s : State} {m : MethodId} {meth : Method} {c : Code} (h1 : s.methodNamed? y = some m) (h2 : s.vm.method? m = some meth) (h3 : meth.code = some c) (h4 : c.code = bytes)
    (h5 : (c.maxLocals == mx && c.exceptionTable.isEmpty && decide (c.maxStack ≤ mostOperands) && decide (meth.sig.returnType = rt) && !meth.locks && decide (parseMethodDescriptor y.desc = some meth.sig)) = true) : (Jvm.Cond.code y bytes mx rt).before a s = true := by
  simp only [Bool.and_eq_true, beq_iff_eq, Bool.not_eq_true', decide_eq_true_eq] at h5
  obtain ⟨⟨⟨⟨⟨g1, g2⟩, g3⟩, g4⟩, g5⟩, g6⟩ := h5
  simp [Cond.before, Cond.holds, Cond.value, h1, h2, h3, h4, g1, g2, g3, g4, g5, g6]
def isCode : Jvm.Cond → Bool
  | .code _ _ _ _ => true
  | _ => false
theorem all_split {L : List Jvm.Cond} {P : Jvm.Cond → Bool} (h1 : L.all (fun c => isCode c || P c) = true) (h2 : ∀ c ∈ L.filter isCode, P c = true) : L.all P = true := by
  refine List.all_eq_true.mpr fun c hc => ?_
  have h := List.all_eq_true.mp h1 c hc
  rcases Bool.eq_false_or_eq_true (isCode c) with hi | hi
  · exact h2 c (List.mem_filter.mpr ⟨hc, hi⟩)
  · simpa [hi] using h
set_option maxRecDepth 65536 in
theorem w_c0 : (Jvm.Cond.code x code maxLocals ret).before args0 about1 = true := code_word (m := ⟨1, 1⟩) (meth := k1m1) (c := k1c1) (by decide +kernel) rfl rfl rfl (by decide +kernel)
set_option maxRecDepth 65536 in
theorem w_c1 : (Jvm.Cond.code ({ cls := "com/example/octetry/octetry/io/OctetReader", name := "<init>", desc := "([BII)V" } : Jvm.MethodName) prog_54_method_2_code (4 : Nat) (Option.none : Option Jvm.ClassFile.FieldType)).before args0 about1 = true := code_word (m := ⟨2, 0⟩) (meth := k2m0) (c := k2c0) (by decide +kernel) rfl rfl rfl (by decide +kernel)
set_option maxRecDepth 65536 in
theorem w_c2 : (Jvm.Cond.code ({ cls := "java/lang/Object", name := "<init>", desc := "()V" } : Jvm.MethodName) object_method_1_code (1 : Nat) (Option.none : Option Jvm.ClassFile.FieldType)).before args0 about1 = true := code_word (m := ⟨0, 0⟩) (meth := k0m0) (c := k0c0) (by decide +kernel) rfl rfl rfl (by decide +kernel)
set_option maxRecDepth 65536 in
theorem w_c3 : (Jvm.Cond.code ({ cls := "java/util/Objects", name := "requireNonNull", desc := "(Ljava/lang/Object;Ljava/lang/String;)Ljava/lang/Object;" } : Jvm.MethodName) jdk_31_method_11_code (2 : Nat) (Option.some (Jvm.ClassFile.FieldType.object "java/lang/Object"))).before args0 about1 = true := code_word (m := ⟨9, 1⟩) (meth := k9m1) (c := k9c1) (by decide +kernel) rfl rfl rfl (by decide +kernel)
set_option maxRecDepth 65536 in
theorem w_c4 : (Jvm.Cond.code ({ cls := "java/util/Objects", name := "checkFromIndexSize", desc := "(III)I" } : Jvm.MethodName) jdk_31_method_19_code (3 : Nat) (Option.some Jvm.ClassFile.FieldType.int)).before args0 about1 = true := code_word (m := ⟨9, 2⟩) (meth := k9m2) (c := k9c2) (by decide +kernel) rfl rfl rfl (by decide +kernel)
set_option maxRecDepth 65536 in
theorem w_c5 : (Jvm.Cond.code ({ cls := "jdk/internal/util/Preconditions", name := "checkFromIndexSize", desc := "(IIILjava/util/function/BiFunction;)I" } : Jvm.MethodName) jdk_41_method_13_code (4 : Nat) (Option.some Jvm.ClassFile.FieldType.int)).before args0 about1 = true := code_word (m := ⟨10, 1⟩) (meth := k10m1) (c := k10c1) (by decide +kernel) rfl rfl rfl (by decide +kernel)
set_option maxRecDepth 65536 in
theorem w_c6 : (Jvm.Cond.code ({ cls := "com/example/octetry/octetry/io/OctetReader", name := "hasRemaining", desc := "()Z" } : Jvm.MethodName) prog_54_method_4_code (1 : Nat) (Option.some Jvm.ClassFile.FieldType.boolean)).before args0 about1 = true := code_word (m := ⟨2, 1⟩) (meth := k2m1) (c := k2c1) (by decide +kernel) rfl rfl rfl (by decide +kernel)
set_option maxRecDepth 65536 in
theorem w_c7 : (Jvm.Cond.code ({ cls := "com/example/octetry/octetry/io/OctetReader", name := "read", desc := "()I" } : Jvm.MethodName) prog_54_method_6_code (1 : Nat) (Option.some Jvm.ClassFile.FieldType.int)).before args0 about1 = true := code_word (m := ⟨2, 3⟩) (meth := k2m3) (c := k2c3) (by decide +kernel) rfl rfl rfl (by decide +kernel)
set_option maxRecDepth 65536 in
theorem w_c8 : (Jvm.Cond.code ({ cls := "com/example/octetry/octetry/io/OctetReader", name := "skip", desc := "(I)V" } : Jvm.MethodName) prog_54_method_8_code (2 : Nat) (Option.none : Option Jvm.ClassFile.FieldType)).before args0 about1 = true := code_word (m := ⟨2, 4⟩) (meth := k2m4) (c := k2c4) (by decide +kernel) rfl rfl rfl (by decide +kernel)
set_option maxRecDepth 65536 in
theorem w_c9 : (Jvm.Cond.code ({ cls := "com/example/octetry/octetry/io/OctetReader", name := "remaining", desc := "()I" } : Jvm.MethodName) prog_54_method_5_code (1 : Nat) (Option.some Jvm.ClassFile.FieldType.int)).before args0 about1 = true := code_word (m := ⟨2, 2⟩) (meth := k2m2) (c := k2c2) (by decide +kernel) rfl rfl rfl (by decide +kernel)
def codes1 : List Jvm.Cond := [Jvm.Cond.code x code maxLocals ret, Jvm.Cond.code ({ cls := "com/example/octetry/octetry/io/OctetReader", name := "<init>", desc := "([BII)V" } : Jvm.MethodName) prog_54_method_2_code (4 : Nat) (Option.none : Option Jvm.ClassFile.FieldType), Jvm.Cond.code ({ cls := "java/lang/Object", name := "<init>", desc := "()V" } : Jvm.MethodName) object_method_1_code (1 : Nat) (Option.none : Option Jvm.ClassFile.FieldType), Jvm.Cond.code ({ cls := "java/util/Objects", name := "requireNonNull", desc := "(Ljava/lang/Object;Ljava/lang/String;)Ljava/lang/Object;" } : Jvm.MethodName) jdk_31_method_11_code (2 : Nat) (Option.some (Jvm.ClassFile.FieldType.object "java/lang/Object")), Jvm.Cond.code ({ cls := "java/util/Objects", name := "checkFromIndexSize", desc := "(III)I" } : Jvm.MethodName) jdk_31_method_19_code (3 : Nat) (Option.some Jvm.ClassFile.FieldType.int), Jvm.Cond.code ({ cls := "jdk/internal/util/Preconditions", name := "checkFromIndexSize", desc := "(IIILjava/util/function/BiFunction;)I" } : Jvm.MethodName) jdk_41_method_13_code (4 : Nat) (Option.some Jvm.ClassFile.FieldType.int), Jvm.Cond.code ({ cls := "com/example/octetry/octetry/io/OctetReader", name := "hasRemaining", desc := "()Z" } : Jvm.MethodName) prog_54_method_4_code (1 : Nat) (Option.some Jvm.ClassFile.FieldType.boolean), Jvm.Cond.code ({ cls := "com/example/octetry/octetry/io/OctetReader", name := "read", desc := "()I" } : Jvm.MethodName) prog_54_method_6_code (1 : Nat) (Option.some Jvm.ClassFile.FieldType.int), Jvm.Cond.code ({ cls := "com/example/octetry/octetry/io/OctetReader", name := "skip", desc := "(I)V" } : Jvm.MethodName) prog_54_method_8_code (2 : Nat) (Option.none : Option Jvm.ClassFile.FieldType), Jvm.Cond.code ({ cls := "com/example/octetry/octetry/io/OctetReader", name := "remaining", desc := "()I" } : Jvm.MethodName) prog_54_method_5_code (1 : Nat) (Option.some Jvm.ClassFile.FieldType.int)]
set_option maxRecDepth 65536 in
theorem codes_eq : words1.filter isCode = codes1 := rfl
theorem w_codes : ∀ c ∈ words1.filter isCode, c.before args0 about1 = true := by
  rw [codes_eq]
  intro c hc
  simp only [codes1, List.mem_cons, List.not_mem_nil, or_false] at hc
  rcases hc with rfl | rfl | rfl | rfl | rfl | rfl | rfl | rfl | rfl | rfl
  · exact w_c0
  · exact w_c1
  · exact w_c2
  · exact w_c3
  · exact w_c4
  · exact w_c5
  · exact w_c6
  · exact w_c7
  · exact w_c8
  · exact w_c9
set_option maxRecDepth 65536 in
theorem w_t1 : (words1.take 24).all (fun c => isCode c || c.before args0 about1) = true := by decide +kernel
set_option maxRecDepth 65536 in
theorem w_t2 : ((words1.drop 24).take 24).all (fun c => isCode c || c.before args0 about1) = true := by decide +kernel
set_option maxRecDepth 65536 in
theorem w_t3 : ((words1.drop 24).drop 24).all (fun c => isCode c || c.before args0 about1) = true := by decide +kernel
theorem w_tables : (allAtoms (Jvm.Cond.code x code maxLocals ret :: tables_1)).before args0 about1 = true := by
  rw [allAtoms_all]
  show words1.all (fun c => c.before args0 about1) = true
  refine all_split ?_ w_codes
  rw [← List.take_append_drop 24 words1, List.all_append, w_t1, ← List.take_append_drop 24 (words1.drop 24), List.all_append, w_t2, w_t3]
  rfl
set_option maxRecDepth 65536 in
theorem w_case : (Jvm.Cond.and given_1 narrow_1).before args0 about1 = true := by decide +kernel
theorem w_applies : (headSpec (Jvm.Cond.code x code maxLocals ret :: tables_1) room_1).applies x e0.platform about1 = true :=
  (Spec.applies_iff w_frames).mpr ⟨w_running, w_runnable, w_alone, w_named, w_hears, w_ripe, w_room, w_tables⟩
theorem atStart : AtStart classFile x code maxLocals ret World_1 tables_1 room_1 Calls_1 rest_1 Pre_1 launch0 p0 e0 about1 theMethod args0 below0 :=
  ⟨lists_1, trivial, launch0.admits_env _ _ _, launch0.least_env, fairChoices_fair.cas, fairChoices_fair.clock, w_frames, w_args, w_heap, w_applies, trivial, trivial, w_case⟩
end start1
theorem witness_1 : WitnessClaimed_1 := ⟨start1.p0, start1.e0, start1.about1, start1.theMethod, start1.args0, start1.below0, start1.atStart⟩
end Jvm.Pilot.@@N@@
